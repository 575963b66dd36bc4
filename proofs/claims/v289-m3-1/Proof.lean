import JvmDerived
import JvmDerived.Pilot.@@N@@Statement
import JvmDerived.Pilot.@@N@@Code
set_option linter.unusedVariables false
set_option linter.unusedSimpArgs false
namespace Jvm.Pilot.@@N@@
open Jvm Jvm.ClassFile Sem Op Lib Jvm.Free Jvm.Stand Jvm.LawKit Jvm.RoadKit Bundle Jvm.Pilot.@@N@@.Jvm.D

theorem own_w {Z : State} {a0 : Array Value} (hw : ∀ d ∈ tables_1, d.before a0 Z = true) (i : Nat) {d : Jvm.Cond} (h : tables_1[i]? = some d) : d.before a0 Z = true := hw d (List.mem_of_getElem? h)
def own_Fin (p : Program) (e : Env) (below : List Frame) (G : Outcome → State → Prop) (st : State) : Prop := ∃ t o, Steps p.tables e below st t ∧ t.status = .running ∧ Ended t below o ∧ G o t
section OwnKit
variable {p : Program} {l : Launch} {e : Env} {R : Room} {s : State} {m : MethodId} {args : Array Value} {below : List Frame} {meth : Method} {c : Code} {T : State} {locs : List Loc} {cells slots : Nat} {Z : State} {a0 : Array Value} {h h' : Heap} {G : Outcome → State → Prop} {st st' : State} {Qk : Option Value → Heap → List Loc → Prop} {K N : Nat} {a b : Addr} {ty : FieldType} {vs : List Value} {ws : List Addr} {sl : Nat} {v : Value}
theorem own_st (k : ∀ target, Steps p.tables e below st' target → Steps p.tables e below st target) (q : own_Fin p e below G st') : own_Fin p e below G st := by
  obtain ⟨t, o, h1, h2⟩ := q; exact ⟨t, o, k t h1, h2⟩
theorem own_tr (k : Steps p.tables e below st st') (q : own_Fin p e below G st') : own_Fin p e below G st := by
  obtain ⟨t, o, h1, h2⟩ := q; exact ⟨t, o, k.trans h1, h2⟩
theorem own_start (q : ∀ G : Outcome → State → Prop, (∀ v L t, Qk v t.heap L → FrameEnd s (.returned v) t L K N → G (.returned v) t) → own_Fin p e below G st) : ∃ s₂ o, Steps p.tables e below st s₂ ∧ s₂.status = .running ∧ Ended s₂ below o ∧ ∃ v L, o = .returned v ∧ Qk v s₂.heap L ∧ FrameEnd s o s₂ L K N :=
  q _ (fun v L t q f => ⟨v, L, rfl, q, f⟩)
theorem own_out (X : Stand p l e R s m args below meth c T locs cells slots) (hlocks : meth.locks = false) {v : Option Value} (hv : meth.sig.returnType = none → v = none) (hG : ∀ v L t, Qk v t.heap L → FrameEnd s (.returned v) t L K N → G (.returned v) t)
    (hstep : ∀ fs, (∀ (f : JFrame) (acts : List Action), f.method = m → f.locked = none → f.entered = [] → (doReturn e (T.setTop f) acts v).1 = T.setFrames fs) → Steps p.tables e below st (T.setFrames fs)) (hc : cells ≤ K) (hn : slots ≤ N) (hQ : Qk v T.heap locs) : own_Fin p e below G st := by
  obtain ⟨fs, hr, hrun, hended, hW, hsame⟩ := X.leave hv hlocks
  exact ⟨_, _, hstep fs hr, hrun, hended, hG _ _ _ hQ ⟨⟨_, rfl⟩, hW, hsame.mono hc hn⟩⟩
theorem own_ldc (X : Stand p l e R s m args below meth c T locs cells slots) (hx : p.tables.exec = Jvm.exec) (hZ : Z.Warmed39 s.vm) {own : String} {index : Nat} {v : Int32} (hown : s.vm.findClass own = some m.cls) (w : (Cond.constant own index v).before a0 Z = true) {g : JFrame} (hg : g.method = m) (hd : decode c.code g.pc = .ok (.ldc index, 2)) {target : State}
    (kk : Steps p.tables e below (T.setTop { g with pc := g.pc + 2, stack := .int v :: g.stack }) target) : Steps p.tables e below (T.setTop g) target := X.ldcInt hx hown (mvT hZ w) hg hd target kk
theorem own_ldcJ (X : Stand p l e R s m args below meth c T locs cells slots) (hx : p.tables.exec = Jvm.exec) (hZ : Z.Warmed39 s.vm) {own : String} {index : Nat} {v : Int64} (hown : s.vm.findClass own = some m.cls) (w : (Cond.constantLong own index v).before a0 Z = true) {g : JFrame} (hg : g.method = m) (hd : decode c.code g.pc = .ok (.ldc2_w index, 3)) {target : State}
    (kk : Steps p.tables e below (T.setTop { g with pc := g.pc + 3, stack := .long v :: g.stack }) target) : Steps p.tables e below (T.setTop g) target := X.ldc2Long hx hown (mvT hZ w) hg hd target kk
theorem own_ldcF (X : Stand p l e R s m args below meth c T locs cells slots) (hx : p.tables.exec = Jvm.exec) (hZ : Z.Warmed39 s.vm) {own : String} {index : Nat} {v : UInt32} (hown : s.vm.findClass own = some m.cls) (w : (Cond.constantFloat own index v).before a0 Z = true) {g : JFrame} (hg : g.method = m) (hd : decode c.code g.pc = .ok (.ldc index, 2)) {target : State}
    (kk : Steps p.tables e below (T.setTop { g with pc := g.pc + 2, stack := .float v :: g.stack }) target) : Steps p.tables e below (T.setTop g) target := X.ldcFloatC hx hown (mvT hZ w) hg hd target kk
def own_AV (Z : State) (h : Heap) (a : Addr) (ty : FieldType) (vs : List Value) : Prop := ∃ c : Cell, Arr Z h a c ty ∧ c.slots.toList = vs
def own_is (xs : List Int32) : List Value := xs.map Value.int
def own_js (xs : List Int64) : List Value := xs.map Value.long
theorem own_AV.lt (A : own_AV Z h a ty vs) : a < h.size := by obtain ⟨c, A, -⟩ := A; exact A.lt
theorem own_AV.ext (A : own_AV Z h a ty vs) (E : Ext h h') : own_AV Z h' a ty vs := by obtain ⟨c, A, r⟩ := A; exact ⟨c, A.ext E, r⟩
theorem own_AV.other (A : own_AV Z h b ty vs) (W : Wr h h' a sl v) (q : b ≠ a) : own_AV Z h' b ty vs := by obtain ⟨c, A, r⟩ := A; exact ⟨c, A.other W q, r⟩
theorem own_AV.keep (A : own_AV Z h a ty vs) (K : Keep h h' ws) (q : a ∉ ws) : own_AV Z h' a ty vs := by obtain ⟨c, A, r⟩ := A; exact ⟨c, ⟨K.2.1 a c A.1 q, A.2⟩, r⟩
theorem own_AV_new {k : ClassId} {z : Int32} (A : Arr Z h a (newA k ty z) ty) : own_AV Z h a ty (List.replicate z.toNatClampNeg (defaultValue ty)) := ⟨_, A, by simp [newA]⟩
theorem own_AV_newI {k : ClassId} {z : Int32} (A : Arr Z h a (newA k .int z) .int) : own_AV Z h a .int (own_is (List.replicate z.toNatClampNeg 0)) := ⟨_, A, by simp [newA, own_is, defaultValue]⟩
theorem own_AV_newJ {k : ClassId} {z : Int32} (A : Arr Z h a (newA k .long z) .long) : own_AV Z h a .long (own_js (List.replicate z.toNatClampNeg 0)) := ⟨_, A, by simp [newA, own_js, defaultValue]⟩
theorem own_in {c : Cell} {n : Nat} {j : Int32} (r : c.slots.toList = vs) (hn : vs.length = n) (hj : ¬ (j < 0 ∨ n ≤ j.toNatClampNeg)) : ¬ (j < 0 ∨ c.slots.size ≤ j.toNatClampNeg) := by
  rw [← Array.length_toList, r, hn]; exact hj
theorem own_nat {n : Nat} {j : Int32} (hj : ¬ (j < 0 ∨ n ≤ j.toNatClampNeg)) : j.toNatClampNeg < n := Nat.lt_of_not_le fun q => hj (Or.inr q)
theorem own_ldI (X : Stand p l e R s m args below meth c T locs cells slots) (hx : p.tables.exec = Jvm.exec) (hZ : Z.Warmed39 s.vm) (eT : T.heap = h) {xs : List Int32} (A : own_AV Z h a .int (own_is xs)) {j : Int32} {n : Nat} (hn : xs.length = n) (hj : ¬ (j < 0 ∨ n ≤ j.toNatClampNeg))
    {g : JFrame} (hg : g.method = m) {rest : List Value} (hs : g.stack = .int j :: .ref a :: rest) (hd : decode c.code g.pc = .ok (.iaload, 1)) {target : State} (kk : Steps p.tables e below (T.setTop { g with pc := g.pc + 1, stack := .int (xs.getD j.toNatClampNeg 0) :: rest }) target) : Steps p.tables e below (T.setTop g) target := by
  obtain ⟨cl, A, r⟩ := A
  have hlt := own_nat hj
  refine X.iaload hx (by rw [eT]; exact A.1) (State.isArrayOf_alike hZ.alike A.2.1) A.2.2 (own_in r (by simp [own_is, hn]) hj) ?_ hg hs hd _ kk
  rw [← Array.getElem?_toList, r]
  simp [own_is, List.getD_eq_getElem?_getD, List.getElem?_eq_getElem (hn ▸ hlt)]
theorem own_ldJ (X : Stand p l e R s m args below meth c T locs cells slots) (hx : p.tables.exec = Jvm.exec) (hZ : Z.Warmed39 s.vm) (eT : T.heap = h) {xs : List Int64} (A : own_AV Z h a .long (own_js xs)) {j : Int32} {n : Nat} (hn : xs.length = n) (hj : ¬ (j < 0 ∨ n ≤ j.toNatClampNeg))
    {g : JFrame} (hg : g.method = m) {rest : List Value} (hs : g.stack = .int j :: .ref a :: rest) (hd : decode c.code g.pc = .ok (.laload, 1)) {target : State} (kk : Steps p.tables e below (T.setTop { g with pc := g.pc + 1, stack := .long (xs.getD j.toNatClampNeg 0) :: rest }) target) : Steps p.tables e below (T.setTop g) target := by
  obtain ⟨cl, A, r⟩ := A
  have hlt := own_nat hj
  refine X.laload hx (by rw [eT]; exact A.1) (State.isArrayOf_alike hZ.alike A.2.1) A.2.2 (own_in r (by simp [own_js, hn]) hj) ?_ hg hs hd _ kk
  rw [← Array.getElem?_toList, r]
  simp [own_js, List.getD_eq_getElem?_getD, List.getElem?_eq_getElem (hn ▸ hlt)]
theorem own_set {cl : Cell} {j : Nat} (A : Arr Z h a cl ty) (r : cl.slots.toList = vs) (W : Wr h h' a j v) : own_AV Z h' a ty (vs.set j v) := ⟨_, A.same W, by simp [Cell.setSlot, ← r]⟩
theorem own_stI (X : Stand p l e R s m args below meth c T locs cells slots) (hx : p.tables.exec = Jvm.exec) (hZ : Z.Warmed39 s.vm) (eT : T.heap = h) {xs : List Int32} (A : own_AV Z h a .int (own_is xs)) {j x : Int32} {n : Nat} (hn : xs.length = n) (hj : ¬ (j < 0 ∨ n ≤ j.toNatClampNeg))
    {g : JFrame} (hg : g.method = m) {rest : List Value} (hs : g.stack = .int x :: .int j :: .ref a :: rest) (hd : decode c.code g.pc = .ok (.iastore, 1)) :
    ∃ T' h', Stand p l e R s m args below meth c T' (locs ++ [⟨a, j.toNatClampNeg⟩]) cells slots ∧ T'.heap = h' ∧ Wr h h' a j.toNatClampNeg (.int x) ∧ own_AV Z h' a .int (own_is (xs.set j.toNatClampNeg x)) ∧ ∀ target, Steps p.tables e below (T'.setTop { g with pc := g.pc + 1, stack := rest }) target → Steps p.tables e below (T.setTop g) target := by
  obtain ⟨cl, A, r⟩ := A
  obtain ⟨T', h', X', e', W, st⟩ := stI X hx hZ eT A (own_in r (by simp [own_is, hn]) hj) hg hs hd
  exact ⟨T', h', X', e', W, by have q := own_set A r W; simpa [own_is, List.map_set] using q, st⟩
theorem own_stJ (X : Stand p l e R s m args below meth c T locs cells slots) (hx : p.tables.exec = Jvm.exec) (hZ : Z.Warmed39 s.vm) (eT : T.heap = h) {xs : List Int64} (A : own_AV Z h a .long (own_js xs)) {j : Int32} {x : Int64} {n : Nat} (hn : xs.length = n) (hj : ¬ (j < 0 ∨ n ≤ j.toNatClampNeg))
    {g : JFrame} (hg : g.method = m) {rest : List Value} (hs : g.stack = .long x :: .int j :: .ref a :: rest) (hd : decode c.code g.pc = .ok (.lastore, 1)) :
    ∃ T' h', Stand p l e R s m args below meth c T' (locs ++ [⟨a, j.toNatClampNeg⟩]) cells slots ∧ T'.heap = h' ∧ Wr h h' a j.toNatClampNeg (.long x) ∧ own_AV Z h' a .long (own_js (xs.set j.toNatClampNeg x)) ∧ ∀ target, Steps p.tables e below (T'.setTop { g with pc := g.pc + 1, stack := rest }) target → Steps p.tables e below (T.setTop g) target := by
  obtain ⟨cl, A, r⟩ := A
  obtain ⟨T', h', X', e', W, st⟩ := stJ X hx hZ eT A (own_in r (by simp [own_js, hn]) hj) hg hs hd
  exact ⟨T', h', X', e', W, by have q := own_set A r W; simpa [own_js, List.map_set] using q, st⟩
theorem own_len (X : Stand p l e R s m args below meth c T locs cells slots) (hx : p.tables.exec = Jvm.exec) (hZ : Z.Warmed39 s.vm) (eT : T.heap = h) (A : own_AV Z h a ty vs) {z : Int32} (hz : vs.length.toInt32 = z)
    {g : JFrame} (hg : g.method = m) {rest : List Value} (hs : g.stack = .ref a :: rest) (hd : decode c.code g.pc = .ok (.arraylength, 1)) {target : State} (kk : Steps p.tables e below (T.setTop { g with pc := g.pc + 1, stack := .int z :: rest }) target) : Steps p.tables e below (T.setTop g) target := by
  obtain ⟨cl, A, r⟩ := A
  refine X.arraylength hx (by rw [eT]; exact A.1) (State.isArrayOf_alike hZ.alike A.2.1) hg hs hd target ?_
  rw [← Array.length_toList, r, hz]; exact kk
def own_ds (xs : List UInt64) : List Value := xs.map Value.double
theorem own_AV_newD {k : ClassId} {z : Int32} (A : Arr Z h a (newA k .double z) .double) : own_AV Z h a .double (own_ds (List.replicate z.toNatClampNeg 0)) := ⟨_, A, by simp [newA, own_ds, defaultValue]⟩
theorem own_stD (X : Stand p l e R s m args below meth c T locs cells slots) (hx : p.tables.exec = Jvm.exec) (hZ : Z.Warmed39 s.vm) (eT : T.heap = h) {xs : List UInt64} (A : own_AV Z h a .double (own_ds xs)) {j : Int32} {x : UInt64} {n : Nat} (hn : xs.length = n) (hj : ¬ (j < 0 ∨ n ≤ j.toNatClampNeg))
    {g : JFrame} (hg : g.method = m) {rest : List Value} (hs : g.stack = .double x :: .int j :: .ref a :: rest) (hd : decode c.code g.pc = .ok (.dastore, 1)) :
    ∃ T' h', Stand p l e R s m args below meth c T' (locs ++ [⟨a, j.toNatClampNeg⟩]) cells slots ∧ T'.heap = h' ∧ Wr h h' a j.toNatClampNeg (.double x) ∧ own_AV Z h' a .double (own_ds (xs.set j.toNatClampNeg x)) ∧ ∀ target, Steps p.tables e below (T'.setTop { g with pc := g.pc + 1, stack := rest }) target → Steps p.tables e below (T.setTop g) target := by
  obtain ⟨cl, A, r⟩ := A
  obtain ⟨T', h', X', e', W, st⟩ := stD X hx hZ eT A (own_in r (by simp [own_ds, hn]) hj) hg hs hd
  exact ⟨T', h', X', e', W, by have q := own_set A r W; simpa [own_ds, List.map_set] using q, st⟩
theorem own_ldD (X : Stand p l e R s m args below meth c T locs cells slots) (hx : p.tables.exec = Jvm.exec) (hZ : Z.Warmed39 s.vm) (eT : T.heap = h) {xs : List UInt64} (A : own_AV Z h a .double (own_ds xs)) {j : Int32} {n : Nat} (hn : xs.length = n) (hj : ¬ (j < 0 ∨ n ≤ j.toNatClampNeg))
    {g : JFrame} (hg : g.method = m) {rest : List Value} (hs : g.stack = .int j :: .ref a :: rest) (hd : decode c.code g.pc = .ok (.daload, 1)) {target : State} (kk : Steps p.tables e below (T.setTop { g with pc := g.pc + 1, stack := .double (xs.getD j.toNatClampNeg 0) :: rest }) target) : Steps p.tables e below (T.setTop g) target := by
  obtain ⟨cl, A, r⟩ := A
  have hlt := own_nat hj
  refine X.daload hx (by rw [eT]; exact A.1) (State.isArrayOf_alike hZ.alike A.2.1) A.2.2 (own_in r (by simp [own_ds, hn]) hj) ?_ hg hs hd _ kk
  rw [← Array.getElem?_toList, r]
  simp [own_ds, List.getD_eq_getElem?_getD, List.getElem?_eq_getElem (hn ▸ hlt)]
def own_AVk (Z : State) (h : Heap) (a : Addr) (k : ClassId) (ty : FieldType) (vs : List Value) : Prop := ∃ c : Cell, Arr Z h a c ty ∧ c.cls = k ∧ c.slots.toList = vs
variable {k : ClassId}
theorem own_AVk.lt (A : own_AVk Z h a k ty vs) : a < h.size := by obtain ⟨c, A, -⟩ := A; exact A.lt
theorem own_AVk.ext (A : own_AVk Z h a k ty vs) (E : Ext h h') : own_AVk Z h' a k ty vs := by obtain ⟨c, A, r⟩ := A; exact ⟨c, A.ext E, r⟩
theorem own_AVk.other (A : own_AVk Z h b k ty vs) (W : Wr h h' a sl v) (q : b ≠ a) : own_AVk Z h' b k ty vs := by obtain ⟨c, A, r⟩ := A; exact ⟨c, A.other W q, r⟩
theorem own_AVk.keep (A : own_AVk Z h a k ty vs) (K : Keep h h' ws) (q : a ∉ ws) : own_AVk Z h' a k ty vs := by obtain ⟨c, A, r⟩ := A; exact ⟨c, ⟨K.2.1 a c A.1 q, A.2⟩, r⟩
theorem own_AVk.av (A : own_AVk Z h a k ty vs) : own_AV Z h a ty vs := by obtain ⟨c, A, -, r⟩ := A; exact ⟨c, A, r⟩
theorem own_AVk_new {z : Int32} (A : Arr Z h a (newA k ty z) ty) : own_AVk Z h a k ty (List.replicate z.toNatClampNeg (defaultValue ty)) := ⟨_, A, rfl, by simp [newA]⟩
theorem own_stR (X : Stand p l e R s m args below meth c T locs cells slots) (hx : p.tables.exec = Jvm.exec) (hZ : Z.Warmed39 s.vm) (eT : T.heap = h) (A : own_AVk Z h a k ty vs) {j : Int32} {n : Nat} (hn : vs.length = n) (hj : ¬ (j < 0 ∨ n ≤ j.toNatClampNeg)) (hty : ty.isReference = true)
    (F : ∀ {c : Cell}, Arr Z h a c ty → c.cls = k → Sto Z h a v) {g : JFrame} (hg : g.method = m) {rest : List Value} (hs : g.stack = v :: .int j :: .ref a :: rest) (hd : decode c.code g.pc = .ok (.aastore, 1)) :
    ∃ T' h', Stand p l e R s m args below meth c T' (locs ++ [⟨a, j.toNatClampNeg⟩]) cells slots ∧ T'.heap = h' ∧ Wr h h' a j.toNatClampNeg v ∧ own_AVk Z h' a k ty (vs.set j.toNatClampNeg v) ∧ ∀ target, Steps p.tables e below (T'.setTop { g with pc := g.pc + 1, stack := rest }) target → Steps p.tables e below (T.setTop g) target := by
  obtain ⟨cl, A, q, r⟩ := A
  obtain ⟨T', h', X', e', W, st⟩ := stR X hx hZ eT A (own_in r hn hj) hty (F A q) hg hs hd
  exact ⟨T', h', X', e', W, ⟨_, A.same W, q, by simp [Cell.setSlot, ← r]⟩, st⟩
theorem own_ldR (X : Stand p l e R s m args below meth c T locs cells slots) (hx : p.tables.exec = Jvm.exec) (hZ : Z.Warmed39 s.vm) (eT : T.heap = h) (A : own_AVk Z h a k ty vs) {j : Int32} {n : Nat} (hn : vs.length = n) (hj : ¬ (j < 0 ∨ n ≤ j.toNatClampNeg)) (hty : ty.isReference = true) (hv : vs[j.toNatClampNeg]? = some v)
    {g : JFrame} (hg : g.method = m) {rest : List Value} (hs : g.stack = .int j :: .ref a :: rest) (hd : decode c.code g.pc = .ok (.aaload, 1)) {target : State} (kk : Steps p.tables e below (T.setTop { g with pc := g.pc + 1, stack := v :: rest }) target) : Steps p.tables e below (T.setTop g) target := by
  obtain ⟨cl, A, -, r⟩ := A
  exact X.aaload hx (by rw [eT]; exact A.1) (State.isArrayOf_alike hZ.alike A.2.1) hty A.2.2 (own_in r hn hj) (by rw [← Array.getElem?_toList, r]; exact hv) hg hs hd _ kk
theorem own_ldB (X : Stand p l e R s m args below meth c T locs cells slots) (hx : p.tables.exec = Jvm.exec) (hZ : Z.Warmed39 s.vm) (eT : T.heap = h) {xs : List Int32} (A : own_AV Z h a .byte (own_is xs)) {j : Int32} {n : Nat} (hn : xs.length = n) (hj : ¬ (j < 0 ∨ n ≤ j.toNatClampNeg))
    {g : JFrame} (hg : g.method = m) {rest : List Value} (hs : g.stack = .int j :: .ref a :: rest) (hd : decode c.code g.pc = .ok (.baload, 1)) {target : State} (kk : Steps p.tables e below (T.setTop { g with pc := g.pc + 1, stack := .int (xs.getD j.toNatClampNeg 0) :: rest }) target) : Steps p.tables e below (T.setTop g) target := by
  obtain ⟨cl, A, r⟩ := A
  have hlt := own_nat hj
  refine X.baloadBytes hx (by rw [eT]; exact A.1) (State.isArrayOf_alike hZ.alike A.2.1) A.2.2 (own_in r (by simp [own_is, hn]) hj) ?_ hg hs hd _ kk
  rw [← Array.getElem?_toList, r]
  simp [own_is, List.getD_eq_getElem?_getD, List.getElem?_eq_getElem (hn ▸ hlt)]
theorem own_eqI {args : Array Value} {s : State} {t : Term} {n : Int32} (q : (Jvm.Cond.eq t (Term.int n)).value args s none s [] = some true) : t.eval args s none [] s = some (.int n) := by
  obtain ⟨x, y, h1, h2, h3, h4⟩ := cmp_v (Or.inl q)
  cases h2.symm.trans (Term.int_eval n)
  obtain ⟨z, rfl⟩ := h4
  simp only [Cond.value, h1, h2] at q
  simpa [h1] using q
theorem own_AV.cell (A : own_AV Z h a ty vs) : ∃ c : Cell, h[a]? = some c ∧ ∀ q, c.vm ≠ .statics q := by obtain ⟨c, A, -⟩ := A; exact ⟨c, A.1, A.2.1.1⟩
theorem own_AVk.cell (A : own_AVk Z h a k ty vs) : ∃ c : Cell, h[a]? = some c ∧ ∀ q, c.vm ≠ .statics q := A.av.cell
theorem own_Sta_keep {C n d : String} {v : Value} (F : Sta Z h C n d v) (K : Keep h h' ws) (q : ∀ x ∈ ws, ∃ c : Cell, h[x]? = some c ∧ ∀ q, c.vm ≠ .statics q) : Sta Z h' C n d v := by
  obtain ⟨cf, i, k, f, st, cell, h1, h2, h3, h4, h5, h6, h7⟩ := F
  refine ⟨cf, i, k, f, st, cell, h1, h2, h3, h4, K.2.1 st cell h5 fun m => ?_, h6, h7⟩
  obtain ⟨c', g1, g2⟩ := q st m
  cases h5.symm.trans g1
  cases hv : cell.vm <;> first | exact g2 _ hv | (rw [hv] at h6; cases h6)
end OwnKit
abbrev own_y0 : MethodName := ⟨"java/lang/Math", "max", "(II)I"⟩
abbrev own_y1 : MethodName := ⟨"java/util/AbstractCollection", "<init>", "()V"⟩
abbrev own_y2 : MethodName := ⟨"java/util/AbstractList", "<init>", "()V"⟩
abbrev own_y3 : MethodName := ⟨"java/util/ArrayList", "<init>", "()V"⟩
abbrev own_y4 : MethodName := ⟨"java/util/Arrays", "fill", "([Ljava/lang/Object;Ljava/lang/Object;)V"⟩
abbrev own_y5 : MethodName := ⟨"java/util/Arrays", "fill", "([II)V"⟩
abbrev own_y6 : MethodName := ⟨"java/util/ArrayList", "grow", "(I)[Ljava/lang/Object;"⟩
abbrev own_y7 : MethodName := ⟨"java/util/ArrayList", "grow", "()[Ljava/lang/Object;"⟩
abbrev own_y8 : MethodName := ⟨"java/util/ArrayList", "add", "(Ljava/lang/Object;[Ljava/lang/Object;I)V"⟩
abbrev own_y9 : MethodName := ⟨"java/util/ArrayList", "add", "(Ljava/lang/Object;)Z"⟩
abbrev own_y10 : MethodName := ⟨"java/util/List", "add", "(Ljava/lang/Object;)Z"⟩
abbrev own_y11 : MethodName := ⟨"com/example/urania/urania/layered/Ports", "<init>", "(IILcom/example/urania/urania/Direction;)V"⟩
abbrev own_y12 : MethodName := ⟨"com/example/urania/urania/layered/PortsSetBorderPinLaw", "sideOf", "(I)Lcom/example/urania/urania/layered/FlowSide;"⟩
abbrev own_y13 : MethodName := ⟨"com/example/urania/urania/layered/Ports", "setBorder", "(ILcom/example/urania/urania/layered/FlowSide;DD)V"⟩
abbrev own_y14 : MethodName := ⟨"com/example/urania/urania/layered/Ports", "border", "(I)Lcom/example/urania/urania/layered/FlowSide;"⟩
abbrev own_y15 : MethodName := ⟨"com/example/urania/urania/layered/Ports", "borderPort", "(I)[D"⟩
abbrev own_y16 : MethodName := ⟨"com/example/urania/urania/layered/Ports", "borders", "()[Lcom/example/urania/urania/layered/FlowSide;"⟩

open Jvm.Free.Fl in
theorem own_nn (x : Int32) : NoNaN64 (FP.i2d x) := (i2d_fin x).noNaN
theorem own_clone {p : Program} {l : Launch} {e : Env} {R : Room} {s : State} {m : MethodId} {args : Array Value} {below : List Frame} {meth : Method} {c : Code} {T : State} {locs : List Loc} {cells slots : Nat} {Z : State} {a0 : Array Value} {h : Heap} {a : Addr} {k : ClassId} {ty : FieldType} {vs : List Value}
    (X : Stand p l e R s m args below meth c T locs cells slots) (hx : p.tables.exec = Jvm.exec) (hZ : Z.Warmed39 s.vm) {own ad : String} {index : Nat} (hown : s.vm.findClass own = some m.cls)
    (w1 : (Cond.methodLink own index ⟨ad, "clone", "()Ljava/lang/Object;"⟩).before a0 Z = true) (w2 : (Cond.sameMethod ad "java/lang/Object" "clone" "()Ljava/lang/Object;").before a0 Z = true) (w3 : (Cond.native ⟨"java/lang/Object", "clone", "()Ljava/lang/Object;"⟩).before a0 Z = true)
    (w4 : (Cond.instanceMethod ⟨"java/lang/Object", "clone", "()Ljava/lang/Object;"⟩).before a0 Z = true) (w5 : (Cond.selects ad ⟨ad, "clone", "()Ljava/lang/Object;"⟩ ⟨"java/lang/Object", "clone", "()Ljava/lang/Object;"⟩).before a0 Z = true) (w6 : (Cond.castable ad "java/lang/Cloneable").before a0 Z = true)
    (eT : T.heap = h) (A : own_AVk Z h a k ty vs) (E : Exa Z h a ad) (hfit : ∀ v ∈ vs, fits ty v = true) {g : JFrame} (hg : g.method = m) (hsize : g.locals.size = c.maxLocals) {rest : List Value} (hs : g.stack = .ref a :: rest) (hd : decode c.code g.pc = .ok (.invokevirtual index, 3))
    (hf : 1 ≤ R.frames) {W cap : Nat} (hW : 2 * g.monitorRoom + (rest.map fun v => v.category).sum ≤ W) (hl : W + 14 ≤ R.locals) (hcap : vs.length ≤ cap) (hc : cells + 1 ≤ R.cells) (hsl : slots + cap ≤ R.slots) :
    ∃ T' h', Stand p l e R s m args below meth c T' locs (cells + 1) (slots + cap) ∧ T'.heap = h' ∧ Ext h h' ∧ own_AVk Z h' h.size k ty vs ∧ Exa Z h' h.size ad ∧
      ∀ target, Steps p.tables e below (T'.setTop { g with pc := g.pc + 3, stack := .ref h.size :: rest }) target → Steps p.tables e below (T.setTop g) target := by
  obtain ⟨cl, A, q, r⟩ := A
  have FC : FitC Z cl := fitC_of A fun i hi v hv => hfit v (by rw [← r]; rw [← Array.getElem?_toList] at hv; exact List.mem_of_getElem? hv)
  obtain ⟨T', h', X', e', ex, A', E', st⟩ := cloneA X hx hZ hown w1 w2 w3 w4 w5 w6 eT A E FC hg hsize hs hd hf hW hl (by rw [← Array.length_toList, r]; exact hcap) hc hsl
  exact ⟨T', h', X', e', ex, ⟨cloneOf cl, A', q, r⟩, E', st⟩
theorem own_fit {C : String} {v : Value} (h : v.isRef = true) : fits (.object C) v = true := by rcases ref_cases h with rfl | ⟨_, rfl⟩ <;> rfl
theorem own_n4 (x : Int32) : (1 : Int32) + (x &&& 3) = 1 ∨ (1 : Int32) + (x &&& 3) = 2 ∨ (1 : Int32) + (x &&& 3) = 3 ∨ (1 : Int32) + (x &&& 3) = 4 := by
  have e := c_and x 3 (by decide)
  have a : (3 : Int32).toInt = 3 := rfl
  have q : (x &&& 3).toInt = 0 ∨ (x &&& 3).toInt = 1 ∨ (x &&& 3).toInt = 2 ∨ (x &&& 3).toInt = 3 := by omega
  rcases q with q | q | q | q
  · rw [show (x &&& 3) = 0 from Int32.toInt_inj.mp (q.trans rfl)]; decide
  · rw [show (x &&& 3) = 1 from Int32.toInt_inj.mp (q.trans rfl)]; decide
  · rw [show (x &&& 3) = 2 from Int32.toInt_inj.mp (q.trans rfl)]; decide
  · rw [show (x &&& 3) = 3 from Int32.toInt_inj.mp (q.trans rfl)]; decide
theorem own_len_of {args : Array Value} {s : State} {t : Term} {a : Addr} {c : Cell} {ty : FieldType} {n : Int32} (ev : t.eval args s none [] s = some (.ref a)) (A : Arr s s.heap a c ty) (hl : (Jvm.Cond.eq (Term.length t) (Term.int n)).value args s none s [] = some true) (hn : ¬ n < 0) : c.slots.size = n.toNatClampNeg := by
  have q := own_eqI hl
  have hA : s.arrayAt? a = some c := A.fin (Vm.Alike.refl _)
  simp only [Term.eval, ev, hA, Option.bind_some, Option.bind_eq_bind] at q
  split at q
  · rename_i hlt
    have q2 : c.slots.size.toInt32 = n := by simpa using q
    have e1 : c.slots.size.toInt32.toInt = c.slots.size := len_toInt hlt
    have e2 : n.toNatClampNeg = n.toInt.toNat := rfl
    rw [q2] at e1
    omega
  · simp at q
def own_N (n : Int32) : Prop := n = 1 ∨ n = 2 ∨ n = 3 ∨ n = 4
theorem own_le4 {n : Int32} (h : n = 1 ∨ n = 2 ∨ n = 3 ∨ n = 4) : n.toNatClampNeg ≤ 4 := by rcases h with rfl | rfl | rfl | rfl <;> decide
theorem own_nz {n : Int32} (h : n = 1 ∨ n = 2 ∨ n = 3 ∨ n = 4) : n ≠ 0 := by rcases h with rfl | rfl | rfl | rfl <;> decide
theorem own_back {n : Int32} (h : n = 1 ∨ n = 2 ∨ n = 3 ∨ n = 4) : n.toNatClampNeg.toInt32 = n := by rcases h with rfl | rfl | rfl | rfl <;> decide
theorem own_lt23 {n : Int32} (h : n < (2 : Int32)) : n < (3 : Int32) := by
  rw [Int32.lt_iff_toInt_lt] at h ⊢
  have a : (2 : Int32).toInt = 2 := rfl
  have b : (3 : Int32).toInt = 3 := rfl
  omega
theorem own_m (x : Int32) {d : Int32} (h : d = 1 ∨ d = 2 ∨ d = 3 ∨ d = 4) : 0 ≤ ((x &&& 2147483647) % d).toInt ∧ ((x &&& 2147483647) % d).toInt < d.toInt := by
  have e1 := c_mask x 2147483647 31 (by decide) (by decide)
  have q1 : 0 ≤ (x &&& 2147483647).toInt := by rw [e1]; omega
  have hd : 0 < d.toInt := by rcases h with rfl | rfl | rfl | rfl <;> decide
  have e2 := (c_iremV (x &&& 2147483647) d).1 q1 hd
  exact ⟨e2.1, e2.2.1⟩
theorem own_cs {v n : Int32} (h : 0 ≤ v.toInt ∧ v.toInt < n.toInt) (hn : n = 1 ∨ n = 2 ∨ n = 3 ∨ n = 4) : v = 0 ∨ (v = 1 ∧ n ≠ 1) ∨ (v = 2 ∧ n ≠ 1 ∧ n ≠ 2) ∨ (v = 3 ∧ n = 4) := by
  have a0 : (0 : Int32).toInt = 0 := rfl
  have a1 : (1 : Int32).toInt = 1 := rfl
  have a2 : (2 : Int32).toInt = 2 := rfl
  have a3 : (3 : Int32).toInt = 3 := rfl
  have a4 : (4 : Int32).toInt = 4 := rfl
  simp only [ne_eq, ← Int32.toInt_inj] at hn ⊢
  omega
theorem own_ix {n v : Int32} (hn : n = 1 ∨ n = 2 ∨ n = 3 ∨ n = 4) (h : 0 ≤ v.toInt ∧ v.toInt < n.toInt) :
    ¬ (v < 0 ∨ n.toNatClampNeg ≤ v.toNatClampNeg) ∧ ¬ ((v + 1) % n < 0 ∨ n.toNatClampNeg ≤ ((v + 1) % n).toNatClampNeg) ∧ ¬ ((v + 2) % n < 0 ∨ n.toNatClampNeg ≤ ((v + 2) % n).toNatClampNeg) ∧ (¬ n < (2 : Int32) → v.toNatClampNeg ≠ ((v + 1) % n).toNatClampNeg) ∧ (¬ n < (3 : Int32) → v.toNatClampNeg ≠ ((v + 2) % n).toNatClampNeg ∧ ((v + 1) % n).toNatClampNeg ≠ ((v + 2) % n).toNatClampNeg) := by
  rcases own_cs h hn with rfl | ⟨rfl, q⟩ | ⟨rfl, q, q'⟩ | ⟨rfl, rfl⟩
  · rcases hn with rfl | rfl | rfl | rfl <;> decide
  · rcases hn with rfl | rfl | rfl | rfl
    · exact absurd rfl q
    all_goals decide
  · rcases hn with rfl | rfl | rfl | rfl
    · exact absurd rfl q
    · exact absurd rfl q'
    all_goals decide
  · decide
theorem own_at1 {n : Nat} {v w : Value} {i j : Int32} (hj : ¬ (j < 0 ∨ n ≤ j.toNatClampNeg)) : (((List.replicate n Value.null).set i.toNatClampNeg w).set j.toNatClampNeg v)[j.toNatClampNeg]? = some v := by
  have := own_nat hj
  simp [List.getElem?_set, this]
theorem own_at2 {n : Nat} {v w : Value} {i j : Int32} (hj : ¬ (j < 0 ∨ n ≤ j.toNatClampNeg)) (hi : ¬ (i < 0 ∨ n ≤ i.toNatClampNeg)) (q : j.toNatClampNeg ≠ i.toNatClampNeg) : (((List.replicate n Value.null).set i.toNatClampNeg w).set j.toNatClampNeg v)[i.toNatClampNeg]? = some w := by
  have := own_nat hi
  rw [List.getElem?_set_ne q]
  simp [List.getElem?_set, this]
theorem own_at3 {n : Nat} {v w : Value} {i j k : Int32} (hj : ¬ (j < 0 ∨ n ≤ j.toNatClampNeg)) (hi : ¬ (i < 0 ∨ n ≤ i.toNatClampNeg)) (hk : ¬ (k < 0 ∨ n ≤ k.toNatClampNeg)) (q : j.toNatClampNeg ≠ k.toNatClampNeg) (q' : i.toNatClampNeg ≠ k.toNatClampNeg) : (((List.replicate n Value.null).set i.toNatClampNeg w).set j.toNatClampNeg v)[k.toNatClampNeg]? = some Value.null := by
  have := own_nat hk
  rw [List.getElem?_set_ne q, List.getElem?_set_ne q']
  simp [this]
theorem own_fits3 {C : String} {n i j : Nat} (x y : Addr) : ∀ v ∈ ((List.replicate n Value.null).set i (.ref x)).set j (.ref y), fits (.object C) v = true := by
  intro v hv
  rcases List.mem_or_eq_of_mem_set hv with hv | rfl
  · rcases List.mem_or_eq_of_mem_set hv with hv | rfl
    · rw [List.eq_of_mem_replicate hv]; rfl
    · rfl
  · rfl
theorem d12_0 : decode jdk_29_method_65_code 0 = .ok (.iload_n 0, 1) := by decide +kernel
theorem d12_1 : decode jdk_29_method_65_code 1 = .ok (.iload_n 1, 1) := by decide +kernel
theorem d12_2 : decode jdk_29_method_65_code 2 = .ok (.if_icmp .lt 7, 3) := by decide +kernel
theorem d12_5 : decode jdk_29_method_65_code 5 = .ok (.iload_n 0, 1) := by decide +kernel
theorem d12_6 : decode jdk_29_method_65_code 6 = .ok (.goto 4, 3) := by decide +kernel
theorem d12_10 : decode jdk_29_method_65_code 10 = .ok (.ireturn, 1) := by decide +kernel
theorem ef_12_II (m : MethodId) (x0 : Int32) (x1 : Int32) : entryFrame m #[(.int x0), (.int x1)] 2 = mkF m 0 #[iv x0, iv x1] [] := by first | (simp [entryFrame, mkF, argsToLocals, Value.category]; done) | rfl
def Qrm_max (Z : State)  (h0 : Heap) (n0 : Nat) (v : Option Value) (h : Heap) (L : List Loc) : Prop := v = some (.int 10) ∧ Fr n0 L ∧ h = h0
set_option maxRecDepth 65536 in
set_option maxHeartbeats 40000000 in
theorem rm_max (l : Launch) (Z : State) (a0 : Array Value) (hw : ∀ d ∈ tables_1, d.before a0 Z = true) (ws : List Jvm.Cond)  (h0 : Heap) (n0 : Nat) (Z0 : n0 ≤ h0.size) :
    MetFree l own_y0 (head1 (Jvm.Cond.code own_y0 jdk_29_method_65_code 2 (some .int) :: ws) ({ frames := 0, cells := 0, slots := 0, locals := 0 } : Room)) (fun a U => a = #[(.int (10 : Int32)), (.int (1 : Int32))] ∧ Z.Warmed39 U.vm ∧ U.heap = h0) (fun _ _ _ _ _ => True) (fun _ U o U' => ∃ v L, o = .returned v ∧ Qrm_max Z  h0 n0 v U'.heap L ∧ FrameEnd U o U' L ({ frames := 0, cells := 0, slots := 0, locals := 0 } : Room).cells ({ frames := 0, cells := 0, slots := 0, locals := 0 } : Room).slots) := by
  refine MetFree.of_bodySF (Jvm.Free.JP.mathPlain rfl (by decide +kernel)) hisR ?_
  intro p e s m args below meth c s₁ Bd hml0 hP hK
  obtain ⟨rfl, hZ, hh⟩ := hP
  have hx := Bd.exec
  have hby := Bd.bytes
  have hml : c.maxLocals = 2 := hml0
  have hown : s.vm.findClass "java/lang/Math" = some m.cls := findClass_of_methodNamed Bd.named
  have hnm := (name_of_methodNamed Bd.named Bd.method).1
  have X0 : Stand p l e ({ frames := 0, cells := 0, slots := 0, locals := 0 } : Room) s m #[(.int (10 : Int32)), (.int (1 : Int32))] below meth c s₁ [] 0 0 := Stand.of_body Bd
  have e0 : s₁.heap = h0 := by rw [← hh, Bd.state]; rfl
  have N0 := Fr.nil n0
  have K0 : Keep h0 h0 [] := Keep.refl _ _
  clear K0
  refine own_start (Qk := Qrm_max Z  h0 n0) (fun G hG => ?_)
  refine own_st (fun _ k => castTop (ef_12_II m (10 : Int32) (1 : Int32)) k) ?_
  show own_Fin p e below G (s₁.setTop (mkF m 0 #[iv (10 : Int32), iv (1 : Int32)] []))
  refine own_st (fun _ k => XS.iloadN X0.here hx rfl (hb hby d12_0) rfl  k) ?_
  show own_Fin p e below G (s₁.setTop (mkF m 1 #[iv (10 : Int32), iv (1 : Int32)] [(.int (10 : Int32))]))
  refine own_st (fun _ k => XS.iloadN X0.here hx rfl (hb hby d12_1) rfl  k) ?_
  show own_Fin p e below G (s₁.setTop (mkF m 2 #[iv (10 : Int32), iv (1 : Int32)] [(.int (1 : Int32)), (.int (10 : Int32))]))
  refine own_st (fun _ k => XS.icmpNo X0.here hx rfl (hb hby d12_2) rfl (flt (by decide : ¬ ((10 : Int32) < (1 : Int32)))).1 k) ?_
  show own_Fin p e below G (s₁.setTop (mkF m 5 #[iv (10 : Int32), iv (1 : Int32)] []))
  refine own_st (fun _ k => XS.iloadN X0.here hx rfl (hb hby d12_5) rfl  k) ?_
  show own_Fin p e below G (s₁.setTop (mkF m 6 #[iv (10 : Int32), iv (1 : Int32)] [(.int (10 : Int32))]))
  refine own_st (fun _ k => XS.goto X0.here hx rfl (pc0 := 6) (pc' := 10) rfl (hb hby d12_6) (by decide) (by decide) k) ?_
  show own_Fin p e below G (s₁.setTop (mkF m 10 #[iv (10 : Int32), iv (1 : Int32)] [(.int (10 : Int32))]))
  refine own_out X0 Bd.notSynchronized (v := (some (.int (10 : Int32)))) (fun h => by rw [Bd.returns] at h; cases h) hG (fun fs hr => retOut X0 hx Bd.returns rfl (Or.inl ⟨rfl, Or.inl rfl, _, rfl⟩) (hb hby d12_10) hr) (by decide) (by decide) ?_
  exact ⟨rfl, N0, e0⟩

theorem d6_0 : decode jdk_22_method_1_code 0 = .ok (.aload_n 0, 1) := by decide +kernel
theorem d6_1 : decode jdk_22_method_1_code 1 = .ok (.invokespecial 1, 3) := by decide +kernel
theorem d6_4 : decode jdk_22_method_1_code 4 = .ok (.return_, 1) := by decide +kernel
theorem pn_java_util_AbstractCollection : plainName "java/util/AbstractCollection" = true := by first | (simp [plainName, overriddenIn]; done) | decide +kernel
theorem ef_6_R (m : MethodId) (x0 : Addr) : entryFrame m #[(.ref x0)] 1 = mkF m 0 #[rv x0] [] := by first | (simp [entryFrame, mkF, argsToLocals, Value.category]; done) | rfl
def Qrm_ac (Z : State) (a1 : Addr) (h0 : Heap) (n0 : Nat) (v : Option Value) (h : Heap) (L : List Loc) : Prop := v = none ∧ Fr n0 L ∧ h = h0
set_option maxRecDepth 65536 in
set_option maxHeartbeats 40000000 in
theorem rm_ac (l : Launch) (Z : State) (a0 : Array Value) (hw : ∀ d ∈ tables_1, d.before a0 Z = true) (ws : List Jvm.Cond) (a1 : Addr) (h0 : Heap) (n0 : Nat) (Z0 : n0 ≤ h0.size) :
    MetFree l own_y1 (head1 (Jvm.Cond.code own_y1 jdk_22_method_1_code 1 none :: ws) ({ frames := 1, cells := 0, slots := 0, locals := 12 } : Room)) (fun a U => a = #[(.ref a1)] ∧ Z.Warmed39 U.vm ∧ U.heap = h0) (fun _ _ _ _ _ => True) (fun _ U o U' => ∃ v L, o = .returned v ∧ Qrm_ac Z a1 h0 n0 v U'.heap L ∧ FrameEnd U o U' L ({ frames := 1, cells := 0, slots := 0, locals := 12 } : Room).cells ({ frames := 1, cells := 0, slots := 0, locals := 12 } : Room).slots) := by
  refine MetFree.of_bodySF (plainFor_of_name pn_java_util_AbstractCollection) hisR ?_
  intro p e s m args below meth c s₁ Bd hml0 hP hK
  obtain ⟨rfl, hZ, hh⟩ := hP
  have hx := Bd.exec
  have hby := Bd.bytes
  have hml : c.maxLocals = 1 := hml0
  have hown : s.vm.findClass "java/util/AbstractCollection" = some m.cls := findClass_of_methodNamed Bd.named
  have hnm := (name_of_methodNamed Bd.named Bd.method).1
  have X0 : Stand p l e ({ frames := 1, cells := 0, slots := 0, locals := 12 } : Room) s m #[(.ref a1)] below meth c s₁ [] 0 0 := Stand.of_body Bd
  have e0 : s₁.heap = h0 := by rw [← hh, Bd.state]; rfl
  have N0 := Fr.nil n0
  have K0 : Keep h0 h0 [] := Keep.refl _ _
  clear K0
  refine own_start (Qk := Qrm_ac Z a1 h0 n0) (fun G hG => ?_)
  refine own_st (fun _ k => castTop (ef_6_R m a1) k) ?_
  show own_Fin p e below G (s₁.setTop (mkF m 0 #[rv a1] []))
  refine own_st (fun _ k => XS.aloadN X0.here hx rfl (hb hby d6_0) rfl rfl k) ?_
  show own_Fin p e below G (s₁.setTop (mkF m 1 #[rv a1] [(.ref a1)]))
  obtain ⟨T1, X1, e1, st1⟩ := initO X0 hx hZ hown (own_w hw 38 rfl) (own_w hw 18 rfl) (own_w hw 19 rfl) e0 (g := (mkF m 1 #[rv a1] [(.ref a1)])) rfl (by rw [hml]; rfl) rfl (hb hby d6_1) (by decide) (W := 0) (by show 2 * 0 + _ ≤ _; exact Nat.le_of_eq rfl) (by decide)
  clear X0 e0
  refine own_st st1 ?_
  clear st1
  show own_Fin p e below G (T1.setTop (mkF m 4 #[rv a1] []))
  refine own_out X1 Bd.notSynchronized (v := none) (fun _ => rfl) hG (fun fs hr => X1.returnOut hx Bd.returns (hb hby d6_4) hr) (by decide) (by decide) ?_
  exact ⟨rfl, N0, e1⟩

theorem d5_0 : decode jdk_39_method_1_code 0 = .ok (.aload_n 0, 1) := by decide +kernel
theorem d5_1 : decode jdk_39_method_1_code 1 = .ok (.invokespecial 1, 3) := by decide +kernel
theorem pd___V_167 : parseMethodDescriptor "()V" = some ⟨[], none⟩ := by decide +kernel
theorem d5_4 : decode jdk_39_method_1_code 4 = .ok (.aload_n 0, 1) := by decide +kernel
theorem d5_5 : decode jdk_39_method_1_code 5 = .ok (.iconst 0, 1) := by decide +kernel
theorem d5_6 : decode jdk_39_method_1_code 6 = .ok (.putfield 7, 3) := by decide +kernel
theorem d5_9 : decode jdk_39_method_1_code 9 = .ok (.return_, 1) := by decide +kernel
theorem pn_java_util_AbstractList : plainName "java/util/AbstractList" = true := by first | (simp [plainName, overriddenIn]; done) | decide +kernel
theorem ef_5_R (m : MethodId) (x0 : Addr) : entryFrame m #[(.ref x0)] 1 = mkF m 0 #[rv x0] [] := by first | (simp [entryFrame, mkF, argsToLocals, Value.category]; done) | rfl
def Qrm_ab (Z : State) (a1 : Addr) (h0 : Heap) (n0 : Nat) (v : Option Value) (h : Heap) (L : List Loc) : Prop := v = none ∧ Fr n0 L ∧ Keep h0 h [a1] ∧ Fld Z h a1 "java/util/AbstractList" "modCount" "I" (.int (0 : Int32)) ∧ Fld Z h a1 "java/util/ArrayList" "elementData" "[Ljava/lang/Object;" .null ∧ Fld Z h a1 "java/util/ArrayList" "size" "I" (.int (0 : Int32))
set_option maxRecDepth 65536 in
set_option maxHeartbeats 40000000 in
theorem rm_ab (l : Launch) (Z : State) (a0 : Array Value) (hw : ∀ d ∈ tables_1, d.before a0 Z = true) (ws : List Jvm.Cond) (a1 : Addr) (h0 : Heap) (n0 : Nat) (Z0 : n0 ≤ h0.size) (E1 : Exa Z h0 a1 "java/util/ArrayList") (F10 : Fld Z h0 a1 "java/util/AbstractList" "modCount" "I" (.int (0 : Int32))) (F11 : Fld Z h0 a1 "java/util/ArrayList" "elementData" "[Ljava/lang/Object;" .null) (F12 : Fld Z h0 a1 "java/util/ArrayList" "size" "I" (.int (0 : Int32))) (g1 : n0 ≤ a1) :
    MetFree l own_y2 (head1 (Jvm.Cond.code own_y2 jdk_39_method_1_code 1 none :: ws) ({ frames := 2, cells := 0, slots := 0, locals := 24 } : Room)) (fun a U => a = #[(.ref a1)] ∧ Z.Warmed39 U.vm ∧ U.heap = h0) (fun _ _ _ _ _ => True) (fun _ U o U' => ∃ v L, o = .returned v ∧ Qrm_ab Z a1 h0 n0 v U'.heap L ∧ FrameEnd U o U' L ({ frames := 2, cells := 0, slots := 0, locals := 24 } : Room).cells ({ frames := 2, cells := 0, slots := 0, locals := 24 } : Room).slots) := by
  refine MetFree.of_bodySF (plainFor_of_name pn_java_util_AbstractList) hisR ?_
  intro p e s m args below meth c s₁ Bd hml0 hP hK
  obtain ⟨rfl, hZ, hh⟩ := hP
  have hx := Bd.exec
  have hby := Bd.bytes
  have hml : c.maxLocals = 1 := hml0
  have hown : s.vm.findClass "java/util/AbstractList" = some m.cls := findClass_of_methodNamed Bd.named
  have hnm := (name_of_methodNamed Bd.named Bd.method).1
  have X0 : Stand p l e ({ frames := 2, cells := 0, slots := 0, locals := 24 } : Room) s m #[(.ref a1)] below meth c s₁ [] 0 0 := Stand.of_body Bd
  have e0 : s₁.heap = h0 := by rw [← hh, Bd.state]; rfl
  have N0 := Fr.nil n0
  have K0 : Keep h0 h0 [a1] := Keep.refl _ _
  refine own_start (Qk := Qrm_ab Z a1 h0 n0) (fun G hG => ?_)
  refine own_st (fun _ k => castTop (ef_5_R m a1) k) ?_
  show own_Fin p e below G (s₁.setTop (mkF m 0 #[rv a1] []))
  refine own_st (fun _ k => XS.aloadN X0.here hx rfl (hb hby d5_0) rfl rfl k) ?_
  show own_Fin p e below G (s₁.setTop (mkF m 1 #[rv a1] [(.ref a1)]))
  obtain ⟨_, _, ⟨T2, L2, k2, n2⟩, -, X2, ⟨Lc2, hQ2, l2, y2, z2⟩, st2⟩ := X0.specialBack hx (y := own_y1) rfl hown (mvT hZ (own_w hw 32 rfl)) (mvT hZ (own_w hw 33 rfl)) (mvT hZ (own_w hw 37 rfl)) (by decide) (backOf (W := 0) (rm_ac l Z a0 hw [] a1 h0 n0 (Nat.le_trans Z0 K0.1) ) hZ (own_w hw 37 rfl) (own_w hw 36 rfl) (by decide) (by decide)) (g := (mkF m 1 #[rv a1] [(.ref a1)])) rfl (by rw [hml]; rfl) (Steps.refl _) (a := a1) (argsL := []) (rest := []) (lenOf pd___V_167 rfl) rfl (by show 2 * 0 + _ ≤ _; exact Nat.le_of_eq rfl) (hb hby d5_1) (fun _ _ => ⟨rfl, e0, (by decide : 0 + 0 ≤ _), (by decide : 0 + 0 ≤ _)⟩)
  clear X0 e0
  dsimp only [Pt.U, Pt.locs, Pt.cells, Pt.slots] at X2 l2 y2 z2 st2 hQ2
  subst l2 y2 z2
  obtain ⟨rfl, N2q, e2⟩ := hQ2
  skip
  have N2 := Fr.app N0 N2q
  clear N0 N2q
  refine own_tr st2 ?_
  clear st2
  show own_Fin p e below G (T2.setTop (mkF m 4 #[rv a1] []))
  refine own_st (fun _ k => XS.aloadN X2.here hx rfl (hb hby d5_4) rfl rfl k) ?_
  show own_Fin p e below G (T2.setTop (mkF m 5 #[rv a1] [(.ref a1)]))
  refine own_st (fun _ k => XS.iconst X2.here hx rfl (hb hby d5_5) k) ?_
  show own_Fin p e below G (T2.setTop (mkF m 6 #[rv a1] [(.int (0 : Int32)), (.ref a1)]))
  obtain ⟨T3, h3, X3, e3, W3, st3⟩ := putF X2 hx hZ hown (host := "") (Or.inl (own_w hw 39 rfl)) Via.refl e2 F10 E1 (Or.inl (own_w hw 40 rfl)) (own_w hw 21 rfl) (ty := .int) (by decide) rfl rfl (g := (mkF m 6 #[rv a1] [(.int (0 : Int32)), (.ref a1)])) rfl rfl (hb hby d5_6)
  clear X2 e2
  have f4_0 := E1.wr W3
  clear E1 f4_0
  have sl5 := slot_ne (Z := Z) (a0 := a0) (Or.inl (own_w hw 43 rfl)) (Or.inl (own_w hw 40 rfl)) (by decide) (t := (.array (.object "java/lang/Object"))) (t' := .int) (by decide) (by decide)
  have f4_2 := F11.other W3 (Or.inr sl5)
  have sl6 := slot_ne (Z := Z) (a0 := a0) (Or.inl (own_w hw 74 rfl)) (Or.inl (own_w hw 40 rfl)) (by decide) (t := .int) (t' := .int) (by decide) (by decide)
  have f4_3 := F12.other W3 (Or.inr sl6)
  have K7 : Keep h0 h3 [a1] := K0.wr W3 (Or.inl (List.mem_of_getElem? (i := 0) rfl))
  clear K0
  have N8 := Fr.snoc X3 N2 g1
  clear N2
  have Fw3 : Fld Z h3 a1 "java/util/AbstractList" "modCount" "I" (.int (0 : Int32)) := F10.same W3
  clear W3
  refine own_st st3 ?_
  clear st3
  show own_Fin p e below G (T3.setTop (mkF m 9 #[rv a1] []))
  refine own_out X3 Bd.notSynchronized (v := none) (fun _ => rfl) hG (fun fs hr => X3.returnOut hx Bd.returns (hb hby d5_9) hr) (by decide) (by decide) ?_
  exact ⟨rfl, N8, e3.symm ▸ K7, e3.symm ▸ Fw3, e3.symm ▸ f4_2, e3.symm ▸ f4_3⟩

theorem d4_0 : decode jdk_38_method_2_code 0 = .ok (.aload_n 0, 1) := by decide +kernel
theorem d4_1 : decode jdk_38_method_2_code 1 = .ok (.invokespecial 1, 3) := by decide +kernel
theorem d4_4 : decode jdk_38_method_2_code 4 = .ok (.aload_n 0, 1) := by decide +kernel
theorem d4_5 : decode jdk_38_method_2_code 5 = .ok (.getstatic 39, 3) := by decide +kernel
theorem d4_8 : decode jdk_38_method_2_code 8 = .ok (.putfield 9, 3) := by decide +kernel
theorem d4_11 : decode jdk_38_method_2_code 11 = .ok (.return_, 1) := by decide +kernel
theorem pn_java_util_ArrayList : plainName "java/util/ArrayList" = true := by first | (simp [plainName, overriddenIn]; done) | decide +kernel
theorem ef_4_R (m : MethodId) (x0 : Addr) : entryFrame m #[(.ref x0)] 1 = mkF m 0 #[rv x0] [] := by first | (simp [entryFrame, mkF, argsToLocals, Value.category]; done) | rfl
def Qrm_al (Z : State) (a1 : Addr) (ed : Addr) (h0 : Heap) (n0 : Nat) (v : Option Value) (h : Heap) (L : List Loc) : Prop := v = none ∧ Fr n0 L ∧ Keep h0 h [a1] ∧ Fld Z h a1 "java/util/AbstractList" "modCount" "I" (.int (0 : Int32)) ∧ Fld Z h a1 "java/util/ArrayList" "elementData" "[Ljava/lang/Object;" (.ref ed) ∧ Fld Z h a1 "java/util/ArrayList" "size" "I" (.int (0 : Int32))
set_option maxRecDepth 65536 in
set_option maxHeartbeats 40000000 in
theorem rm_al (l : Launch) (Z : State) (a0 : Array Value) (hw : ∀ d ∈ tables_1, d.before a0 Z = true) (ws : List Jvm.Cond) (a1 : Addr) (ed : Addr) (h0 : Heap) (n0 : Nat) (Z0 : n0 ≤ h0.size) (E1 : Exa Z h0 a1 "java/util/ArrayList") (F10 : Fld Z h0 a1 "java/util/AbstractList" "modCount" "I" (.int (0 : Int32))) (F11 : Fld Z h0 a1 "java/util/ArrayList" "elementData" "[Ljava/lang/Object;" .null) (F12 : Fld Z h0 a1 "java/util/ArrayList" "size" "I" (.int (0 : Int32))) (g1 : n0 ≤ a1) (Sed : Sta Z h0 "java/util/ArrayList" "DEFAULTCAPACITY_EMPTY_ELEMENTDATA" "[Ljava/lang/Object;" (.ref ed)) :
    MetFree l own_y3 (head1 (Jvm.Cond.code own_y3 jdk_38_method_2_code 1 none :: ws) ({ frames := 3, cells := 0, slots := 0, locals := 36 } : Room)) (fun a U => a = #[(.ref a1)] ∧ Z.Warmed39 U.vm ∧ U.heap = h0) (fun _ _ _ _ _ => True) (fun _ U o U' => ∃ v L, o = .returned v ∧ Qrm_al Z a1 ed h0 n0 v U'.heap L ∧ FrameEnd U o U' L ({ frames := 3, cells := 0, slots := 0, locals := 36 } : Room).cells ({ frames := 3, cells := 0, slots := 0, locals := 36 } : Room).slots) := by
  refine MetFree.of_bodySF (plainFor_of_name pn_java_util_ArrayList) hisR ?_
  intro p e s m args below meth c s₁ Bd hml0 hP hK
  obtain ⟨rfl, hZ, hh⟩ := hP
  have hx := Bd.exec
  have hby := Bd.bytes
  have hml : c.maxLocals = 1 := hml0
  have hown : s.vm.findClass "java/util/ArrayList" = some m.cls := findClass_of_methodNamed Bd.named
  have hnm := (name_of_methodNamed Bd.named Bd.method).1
  have X0 : Stand p l e ({ frames := 3, cells := 0, slots := 0, locals := 36 } : Room) s m #[(.ref a1)] below meth c s₁ [] 0 0 := Stand.of_body Bd
  have e0 : s₁.heap = h0 := by rw [← hh, Bd.state]; rfl
  have N0 := Fr.nil n0
  have K0 : Keep h0 h0 [a1] := Keep.refl _ _
  refine own_start (Qk := Qrm_al Z a1 ed h0 n0) (fun G hG => ?_)
  refine own_st (fun _ k => castTop (ef_4_R m a1) k) ?_
  show own_Fin p e below G (s₁.setTop (mkF m 0 #[rv a1] []))
  refine own_st (fun _ k => XS.aloadN X0.here hx rfl (hb hby d4_0) rfl rfl k) ?_
  show own_Fin p e below G (s₁.setTop (mkF m 1 #[rv a1] [(.ref a1)]))
  obtain ⟨_, _, ⟨T9, L9, k9, n9⟩, -, X9, ⟨Lc9, hQ9, l9, y9, z9⟩, st9⟩ := X0.specialBack hx (y := own_y2) rfl hown (mvT hZ (own_w hw 26 rfl)) (mvT hZ (own_w hw 27 rfl)) (mvT hZ (own_w hw 31 rfl)) (by decide) (backOf (W := 0) (rm_ab l Z a0 hw [] a1 h0 n0 (Nat.le_trans Z0 K0.1) E1 F10 F11 F12 g1) hZ (own_w hw 31 rfl) (own_w hw 30 rfl) (by decide) (by decide)) (g := (mkF m 1 #[rv a1] [(.ref a1)])) rfl (by rw [hml]; rfl) (Steps.refl _) (a := a1) (argsL := []) (rest := []) (lenOf pd___V_167 rfl) rfl (by show 2 * 0 + _ ≤ _; exact Nat.le_of_eq rfl) (hb hby d4_1) (fun _ _ => ⟨rfl, e0, (by decide : 0 + 0 ≤ _), (by decide : 0 + 0 ≤ _)⟩)
  clear X0 e0
  dsimp only [Pt.U, Pt.locs, Pt.cells, Pt.slots] at X9 l9 y9 z9 st9 hQ9
  subst l9 y9 z9
  obtain ⟨rfl, N9q, Kc9, gL9_0, gL9_1, gL9_2⟩ := hQ9
  have N9 := Fr.app N0 N9q
  clear N0 N9q
  have f10_0 := E1.keep Kc9
  have f10_4 := own_Sta_keep Sed Kc9 (allS E1.cell all0)
  clear E1
  have K11 : Keep h0 T9.heap [a1] := K0.trans Kc9 (allS (Or.inl (List.mem_of_getElem? (i := 0) rfl)) all0)
  clear K0 Kc9
  refine own_tr st9 ?_
  clear st9
  show own_Fin p e below G (T9.setTop (mkF m 4 #[rv a1] []))
  refine own_st (fun _ k => XS.aloadN X9.here hx rfl (hb hby d4_4) rfl rfl k) ?_
  show own_Fin p e below G (T9.setTop (mkF m 5 #[rv a1] [(.ref a1)]))
  obtain ⟨T12, X12, e12, st12⟩ := getS2 X9 hx hZ hown (host := "") (Or.inl (own_w hw 41 rfl)) Via.refl rfl f10_4 (g := (mkF m 5 #[rv a1] [(.ref a1)])) rfl (hb hby d4_5)
  clear X9
  refine own_st st12 ?_
  clear st12
  show own_Fin p e below G (T12.setTop (mkF m 8 #[rv a1] [(.ref ed), (.ref a1)]))
  obtain ⟨T13, h13, X13, e13, W13, st13⟩ := putF X12 hx hZ hown (host := "") (Or.inl (own_w hw 42 rfl)) Via.refl e12 gL9_1 f10_0 (Or.inl (own_w hw 43 rfl)) (own_w hw 21 rfl) (ty := (.array (.object "java/lang/Object"))) (by decide) rfl rfl (g := (mkF m 8 #[rv a1] [(.ref ed), (.ref a1)])) rfl rfl (hb hby d4_8)
  clear X12 e12
  have f14_0 := f10_0.wr W13
  clear f10_0 f14_0
  have f14_1 := f10_4.wr W13
  clear f10_4 f14_1
  have sl15 := slot_ne (Z := Z) (a0 := a0) (Or.inl (own_w hw 40 rfl)) (Or.inl (own_w hw 43 rfl)) (by decide) (t := .int) (t' := (.array (.object "java/lang/Object"))) (by decide) (by decide)
  have f14_2 := gL9_0.other W13 (Or.inr sl15)
  have sl16 := slot_ne (Z := Z) (a0 := a0) (Or.inl (own_w hw 74 rfl)) (Or.inl (own_w hw 43 rfl)) (by decide) (t := .int) (t' := (.array (.object "java/lang/Object"))) (by decide) (by decide)
  have f14_4 := gL9_2.other W13 (Or.inr sl16)
  have K17 : Keep h0 h13 [a1] := K11.wr W13 (Or.inl (List.mem_of_getElem? (i := 0) rfl))
  clear K11
  have N18 := Fr.snoc X13 N9 g1
  clear N9
  have Fw13 : Fld Z h13 a1 "java/util/ArrayList" "elementData" "[Ljava/lang/Object;" (.ref ed) := gL9_1.same W13
  clear W13
  refine own_st st13 ?_
  clear st13
  show own_Fin p e below G (T13.setTop (mkF m 11 #[rv a1] []))
  refine own_out X13 Bd.notSynchronized (v := none) (fun _ => rfl) hG (fun fs hr => X13.returnOut hx Bd.returns (hb hby d4_11) hr) (by decide) (by decide) ?_
  exact ⟨rfl, N18, e13.symm ▸ K17, e13.symm ▸ f14_2, e13.symm ▸ Fw13, e13.symm ▸ f14_4⟩

theorem d7_0 : decode jdk_65_method_117_code 0 = .ok (.iconst 0, 1) := by decide +kernel
theorem d7_1 : decode jdk_65_method_117_code 1 = .ok (.istore_n 2, 1) := by decide +kernel
theorem d7_2 : decode jdk_65_method_117_code 2 = .ok (.aload_n 0, 1) := by decide +kernel
theorem d7_3 : decode jdk_65_method_117_code 3 = .ok (.arraylength, 1) := by decide +kernel
theorem d7_4 : decode jdk_65_method_117_code 4 = .ok (.istore_n 3, 1) := by decide +kernel
theorem d7_5 : decode jdk_65_method_117_code 5 = .ok (.iload_n 2, 1) := by decide +kernel
theorem d7_6 : decode jdk_65_method_117_code 6 = .ok (.iload_n 3, 1) := by decide +kernel
theorem d7_7 : decode jdk_65_method_117_code 7 = .ok (.if_icmp .ge 13, 3) := by decide +kernel
theorem d7_10 : decode jdk_65_method_117_code 10 = .ok (.aload_n 0, 1) := by decide +kernel
theorem d7_11 : decode jdk_65_method_117_code 11 = .ok (.iload_n 2, 1) := by decide +kernel
theorem d7_12 : decode jdk_65_method_117_code 12 = .ok (.aload_n 1, 1) := by decide +kernel
theorem d7_13 : decode jdk_65_method_117_code 13 = .ok (.aastore, 1) := by decide +kernel
theorem d7_14 : decode jdk_65_method_117_code 14 = .ok (.iinc 2 1, 3) := by decide +kernel
theorem d7_17 : decode jdk_65_method_117_code 17 = .ok (.goto (-12), 3) := by decide +kernel
theorem d7_20 : decode jdk_65_method_117_code 20 = .ok (.return_, 1) := by decide +kernel
theorem pn_java_util_Arrays : plainName "java/util/Arrays" = true := by first | (simp [plainName, overriddenIn]; done) | decide +kernel
theorem ef_7_RR (m : MethodId) (x0 : Addr) (x1 : Addr) : entryFrame m #[(.ref x0), (.ref x1)] 4 = mkF m 0 #[rv x0, rv x1, .unset, .unset] [] := by first | (simp [entryFrame, mkF, argsToLocals, Value.category]; done) | rfl
def Qrm_fo1 (Z : State) (a1 : Addr) (a2 : Addr) (kk : ClassId) (h0 : Heap) (n0 : Nat) (v : Option Value) (h : Heap) (L : List Loc) : Prop := v = none ∧ Fr n0 L ∧ Keep h0 h [a1]
set_option maxRecDepth 65536 in
set_option maxHeartbeats 40000000 in
theorem rm_fo1 (l : Launch) (Z : State) (a0 : Array Value) (hw : ∀ d ∈ tables_1, d.before a0 Z = true) (ws : List Jvm.Cond) (a1 : Addr) (a2 : Addr) (kk : ClassId) (h0 : Heap) (n0 : Nat) (Z0 : n0 ≤ h0.size) (B1 : own_AVk Z h0 a1 kk (.object "com/example/urania/urania/layered/Ports$Freedom") [.null]) (O1 : Ovr Z kk "com/example/urania/urania/layered/Ports$Freedom") (E2 : Exa Z h0 a2 "com/example/urania/urania/layered/Ports$Freedom") (g1 : n0 ≤ a1) :
    MetFree l own_y4 (head1 (Jvm.Cond.code own_y4 jdk_65_method_117_code 4 none :: ws) ({ frames := 0, cells := 0, slots := 0, locals := 0 } : Room)) (fun a U => a = #[(.ref a1), (.ref a2)] ∧ Z.Warmed39 U.vm ∧ U.heap = h0) (fun _ _ _ _ _ => True) (fun _ U o U' => ∃ v L, o = .returned v ∧ Qrm_fo1 Z a1 a2 kk h0 n0 v U'.heap L ∧ FrameEnd U o U' L ({ frames := 0, cells := 0, slots := 0, locals := 0 } : Room).cells ({ frames := 0, cells := 0, slots := 0, locals := 0 } : Room).slots) := by
  refine MetFree.of_bodySF (plainFor_of_name pn_java_util_Arrays) hisR ?_
  intro p e s m args below meth c s₁ Bd hml0 hP hK
  obtain ⟨rfl, hZ, hh⟩ := hP
  have hx := Bd.exec
  have hby := Bd.bytes
  have hml : c.maxLocals = 4 := hml0
  have hown : s.vm.findClass "java/util/Arrays" = some m.cls := findClass_of_methodNamed Bd.named
  have hnm := (name_of_methodNamed Bd.named Bd.method).1
  have X0 : Stand p l e ({ frames := 0, cells := 0, slots := 0, locals := 0 } : Room) s m #[(.ref a1), (.ref a2)] below meth c s₁ [] 0 0 := Stand.of_body Bd
  have e0 : s₁.heap = h0 := by rw [← hh, Bd.state]; rfl
  have N0 := Fr.nil n0
  have K0 : Keep h0 h0 [a1] := Keep.refl _ _
  refine own_start (Qk := Qrm_fo1 Z a1 a2 kk h0 n0) (fun G hG => ?_)
  refine own_st (fun _ k => castTop (ef_7_RR m a1 a2) k) ?_
  show own_Fin p e below G (s₁.setTop (mkF m 0 #[rv a1, rv a2, .unset, .unset] []))
  refine own_st (fun _ k => XS.iconst X0.here hx rfl (hb hby d7_0) k) ?_
  show own_Fin p e below G (s₁.setTop (mkF m 1 #[rv a1, rv a2, .unset, .unset] [(.int (0 : Int32))]))
  refine own_st (fun _ k => XS.istoreN X0.here hx rfl (hb hby d7_1) rfl (l' := #[rv a1, rv a2, iv (0 : Int32), .unset]) rfl k) ?_
  show own_Fin p e below G (s₁.setTop (mkF m 2 #[rv a1, rv a2, iv (0 : Int32), .unset] []))
  refine own_st (fun _ k => XS.aloadN X0.here hx rfl (hb hby d7_2) rfl rfl k) ?_
  show own_Fin p e below G (s₁.setTop (mkF m 3 #[rv a1, rv a2, iv (0 : Int32), .unset] [(.ref a1)]))
  refine own_st (fun _ k => own_len X0 hx hZ e0 B1.av (z := (1 : Int32)) rfl (g := (mkF m 3 #[rv a1, rv a2, iv (0 : Int32), .unset] [(.ref a1)])) rfl rfl (hb hby d7_3) k) ?_
  show own_Fin p e below G (s₁.setTop (mkF m 4 #[rv a1, rv a2, iv (0 : Int32), .unset] [(.int (1 : Int32))]))
  refine own_st (fun _ k => XS.istoreN X0.here hx rfl (hb hby d7_4) rfl (l' := #[rv a1, rv a2, iv (0 : Int32), iv (1 : Int32)]) rfl k) ?_
  show own_Fin p e below G (s₁.setTop (mkF m 5 #[rv a1, rv a2, iv (0 : Int32), iv (1 : Int32)] []))
  refine own_st (fun _ k => XS.iloadN X0.here hx rfl (hb hby d7_5) rfl  k) ?_
  show own_Fin p e below G (s₁.setTop (mkF m 6 #[rv a1, rv a2, iv (0 : Int32), iv (1 : Int32)] [(.int (0 : Int32))]))
  refine own_st (fun _ k => XS.iloadN X0.here hx rfl (hb hby d7_6) rfl  k) ?_
  show own_Fin p e below G (s₁.setTop (mkF m 7 #[rv a1, rv a2, iv (0 : Int32), iv (1 : Int32)] [(.int (1 : Int32)), (.int (0 : Int32))]))
  refine own_st (fun _ k => XS.icmpNo X0.here hx rfl (hb hby d7_7) rfl (tlt (by decide : ((0 : Int32) < (1 : Int32)))).2.1 k) ?_
  show own_Fin p e below G (s₁.setTop (mkF m 10 #[rv a1, rv a2, iv (0 : Int32), iv (1 : Int32)] []))
  refine own_st (fun _ k => XS.aloadN X0.here hx rfl (hb hby d7_10) rfl rfl k) ?_
  show own_Fin p e below G (s₁.setTop (mkF m 11 #[rv a1, rv a2, iv (0 : Int32), iv (1 : Int32)] [(.ref a1)]))
  refine own_st (fun _ k => XS.iloadN X0.here hx rfl (hb hby d7_11) rfl  k) ?_
  show own_Fin p e below G (s₁.setTop (mkF m 12 #[rv a1, rv a2, iv (0 : Int32), iv (1 : Int32)] [(.int (0 : Int32)), (.ref a1)]))
  refine own_st (fun _ k => XS.aloadN X0.here hx rfl (hb hby d7_12) rfl rfl k) ?_
  show own_Fin p e below G (s₁.setTop (mkF m 13 #[rv a1, rv a2, iv (0 : Int32), iv (1 : Int32)] [(.ref a2), (.int (0 : Int32)), (.ref a1)]))
  obtain ⟨T19, h19, X19, e19, W19, V19, st19⟩ := own_stR X0 hx hZ e0 B1 (j := (0 : Int32)) (n := 1) rfl (by decide) rfl (fun A q => Sto.ofV A q O1 (Ins.self E2)) (g := (mkF m 13 #[rv a1, rv a2, iv (0 : Int32), iv (1 : Int32)] [(.ref a2), (.int (0 : Int32)), (.ref a1)])) rfl rfl (hb hby d7_13)
  clear X0 e0 B1 O1
  have f20_1 := E2.wr W19
  clear E2 f20_1
  have K21 : Keep h0 h19 [a1] := K0.wr W19 (Or.inl (List.mem_of_getElem? (i := 0) rfl))
  clear K0 W19
  have N22 := Fr.snoc X19 N0 g1
  clear N0
  replace V19 : own_AVk Z h19 a1 kk (.object "com/example/urania/urania/layered/Ports$Freedom") [(.ref a2)] := V19
  clear V19
  refine own_st st19 ?_
  clear st19
  show own_Fin p e below G (T19.setTop (mkF m 14 #[rv a1, rv a2, iv (0 : Int32), iv (1 : Int32)] []))
  refine own_st (fun _ k => XS.iinc X19.here hx rfl (hb hby d7_14) rfl (l' := #[rv a1, rv a2, iv (1 : Int32), iv (1 : Int32)]) rfl k) ?_
  show own_Fin p e below G (T19.setTop (mkF m 17 #[rv a1, rv a2, iv (1 : Int32), iv (1 : Int32)] []))
  refine own_st (fun _ k => XS.goto X19.here hx rfl (pc0 := 17) (pc' := 5) rfl (hb hby d7_17) (by decide) (by decide) k) ?_
  show own_Fin p e below G (T19.setTop (mkF m 5 #[rv a1, rv a2, iv (1 : Int32), iv (1 : Int32)] []))
  refine own_st (fun _ k => XS.iloadN X19.here hx rfl (hb hby d7_5) rfl  k) ?_
  show own_Fin p e below G (T19.setTop (mkF m 6 #[rv a1, rv a2, iv (1 : Int32), iv (1 : Int32)] [(.int (1 : Int32))]))
  refine own_st (fun _ k => XS.iloadN X19.here hx rfl (hb hby d7_6) rfl  k) ?_
  show own_Fin p e below G (T19.setTop (mkF m 7 #[rv a1, rv a2, iv (1 : Int32), iv (1 : Int32)] [(.int (1 : Int32)), (.int (1 : Int32))]))
  refine own_st (fun _ k => XS.icmpYes X19.here hx rfl (pc0 := 7) (pc' := 20) rfl (hb hby d7_7) rfl (flt (by decide : ¬ ((1 : Int32) < (1 : Int32)))).2.1 (by decide) (by decide) k) ?_
  show own_Fin p e below G (T19.setTop (mkF m 20 #[rv a1, rv a2, iv (1 : Int32), iv (1 : Int32)] []))
  refine own_out X19 Bd.notSynchronized (v := none) (fun _ => rfl) hG (fun fs hr => X19.returnOut hx Bd.returns (hb hby d7_20) hr) (by decide) (by decide) ?_
  exact ⟨rfl, N22, e19.symm ▸ K21⟩

def Qrm_fo2 (Z : State) (a1 : Addr) (a2 : Addr) (kk : ClassId) (h0 : Heap) (n0 : Nat) (v : Option Value) (h : Heap) (L : List Loc) : Prop := v = none ∧ Fr n0 L ∧ Keep h0 h [a1]
set_option maxRecDepth 65536 in
set_option maxHeartbeats 40000000 in
theorem rm_fo2 (l : Launch) (Z : State) (a0 : Array Value) (hw : ∀ d ∈ tables_1, d.before a0 Z = true) (ws : List Jvm.Cond) (a1 : Addr) (a2 : Addr) (kk : ClassId) (h0 : Heap) (n0 : Nat) (Z0 : n0 ≤ h0.size) (B1 : own_AVk Z h0 a1 kk (.object "com/example/urania/urania/layered/Ports$Freedom") [.null, .null]) (O1 : Ovr Z kk "com/example/urania/urania/layered/Ports$Freedom") (E2 : Exa Z h0 a2 "com/example/urania/urania/layered/Ports$Freedom") (g1 : n0 ≤ a1) :
    MetFree l own_y4 (head1 (Jvm.Cond.code own_y4 jdk_65_method_117_code 4 none :: ws) ({ frames := 0, cells := 0, slots := 0, locals := 0 } : Room)) (fun a U => a = #[(.ref a1), (.ref a2)] ∧ Z.Warmed39 U.vm ∧ U.heap = h0) (fun _ _ _ _ _ => True) (fun _ U o U' => ∃ v L, o = .returned v ∧ Qrm_fo2 Z a1 a2 kk h0 n0 v U'.heap L ∧ FrameEnd U o U' L ({ frames := 0, cells := 0, slots := 0, locals := 0 } : Room).cells ({ frames := 0, cells := 0, slots := 0, locals := 0 } : Room).slots) := by
  refine MetFree.of_bodySF (plainFor_of_name pn_java_util_Arrays) hisR ?_
  intro p e s m args below meth c s₁ Bd hml0 hP hK
  obtain ⟨rfl, hZ, hh⟩ := hP
  have hx := Bd.exec
  have hby := Bd.bytes
  have hml : c.maxLocals = 4 := hml0
  have hown : s.vm.findClass "java/util/Arrays" = some m.cls := findClass_of_methodNamed Bd.named
  have hnm := (name_of_methodNamed Bd.named Bd.method).1
  have X0 : Stand p l e ({ frames := 0, cells := 0, slots := 0, locals := 0 } : Room) s m #[(.ref a1), (.ref a2)] below meth c s₁ [] 0 0 := Stand.of_body Bd
  have e0 : s₁.heap = h0 := by rw [← hh, Bd.state]; rfl
  have N0 := Fr.nil n0
  have K0 : Keep h0 h0 [a1] := Keep.refl _ _
  refine own_start (Qk := Qrm_fo2 Z a1 a2 kk h0 n0) (fun G hG => ?_)
  refine own_st (fun _ k => castTop (ef_7_RR m a1 a2) k) ?_
  show own_Fin p e below G (s₁.setTop (mkF m 0 #[rv a1, rv a2, .unset, .unset] []))
  refine own_st (fun _ k => XS.iconst X0.here hx rfl (hb hby d7_0) k) ?_
  show own_Fin p e below G (s₁.setTop (mkF m 1 #[rv a1, rv a2, .unset, .unset] [(.int (0 : Int32))]))
  refine own_st (fun _ k => XS.istoreN X0.here hx rfl (hb hby d7_1) rfl (l' := #[rv a1, rv a2, iv (0 : Int32), .unset]) rfl k) ?_
  show own_Fin p e below G (s₁.setTop (mkF m 2 #[rv a1, rv a2, iv (0 : Int32), .unset] []))
  refine own_st (fun _ k => XS.aloadN X0.here hx rfl (hb hby d7_2) rfl rfl k) ?_
  show own_Fin p e below G (s₁.setTop (mkF m 3 #[rv a1, rv a2, iv (0 : Int32), .unset] [(.ref a1)]))
  refine own_st (fun _ k => own_len X0 hx hZ e0 B1.av (z := (2 : Int32)) rfl (g := (mkF m 3 #[rv a1, rv a2, iv (0 : Int32), .unset] [(.ref a1)])) rfl rfl (hb hby d7_3) k) ?_
  show own_Fin p e below G (s₁.setTop (mkF m 4 #[rv a1, rv a2, iv (0 : Int32), .unset] [(.int (2 : Int32))]))
  refine own_st (fun _ k => XS.istoreN X0.here hx rfl (hb hby d7_4) rfl (l' := #[rv a1, rv a2, iv (0 : Int32), iv (2 : Int32)]) rfl k) ?_
  show own_Fin p e below G (s₁.setTop (mkF m 5 #[rv a1, rv a2, iv (0 : Int32), iv (2 : Int32)] []))
  refine own_st (fun _ k => XS.iloadN X0.here hx rfl (hb hby d7_5) rfl  k) ?_
  show own_Fin p e below G (s₁.setTop (mkF m 6 #[rv a1, rv a2, iv (0 : Int32), iv (2 : Int32)] [(.int (0 : Int32))]))
  refine own_st (fun _ k => XS.iloadN X0.here hx rfl (hb hby d7_6) rfl  k) ?_
  show own_Fin p e below G (s₁.setTop (mkF m 7 #[rv a1, rv a2, iv (0 : Int32), iv (2 : Int32)] [(.int (2 : Int32)), (.int (0 : Int32))]))
  refine own_st (fun _ k => XS.icmpNo X0.here hx rfl (hb hby d7_7) rfl (tlt (by decide : ((0 : Int32) < (2 : Int32)))).2.1 k) ?_
  show own_Fin p e below G (s₁.setTop (mkF m 10 #[rv a1, rv a2, iv (0 : Int32), iv (2 : Int32)] []))
  refine own_st (fun _ k => XS.aloadN X0.here hx rfl (hb hby d7_10) rfl rfl k) ?_
  show own_Fin p e below G (s₁.setTop (mkF m 11 #[rv a1, rv a2, iv (0 : Int32), iv (2 : Int32)] [(.ref a1)]))
  refine own_st (fun _ k => XS.iloadN X0.here hx rfl (hb hby d7_11) rfl  k) ?_
  show own_Fin p e below G (s₁.setTop (mkF m 12 #[rv a1, rv a2, iv (0 : Int32), iv (2 : Int32)] [(.int (0 : Int32)), (.ref a1)]))
  refine own_st (fun _ k => XS.aloadN X0.here hx rfl (hb hby d7_12) rfl rfl k) ?_
  show own_Fin p e below G (s₁.setTop (mkF m 13 #[rv a1, rv a2, iv (0 : Int32), iv (2 : Int32)] [(.ref a2), (.int (0 : Int32)), (.ref a1)]))
  obtain ⟨T23, h23, X23, e23, W23, V23, st23⟩ := own_stR X0 hx hZ e0 B1 (j := (0 : Int32)) (n := 2) rfl (by decide) rfl (fun A q => Sto.ofV A q O1 (Ins.self E2)) (g := (mkF m 13 #[rv a1, rv a2, iv (0 : Int32), iv (2 : Int32)] [(.ref a2), (.int (0 : Int32)), (.ref a1)])) rfl rfl (hb hby d7_13)
  clear X0 e0 B1
  have f24_1 := E2.wr W23
  clear E2
  have K25 : Keep h0 h23 [a1] := K0.wr W23 (Or.inl (List.mem_of_getElem? (i := 0) rfl))
  clear K0 W23
  have N26 := Fr.snoc X23 N0 g1
  clear N0
  replace V23 : own_AVk Z h23 a1 kk (.object "com/example/urania/urania/layered/Ports$Freedom") [(.ref a2), .null] := V23
  refine own_st st23 ?_
  clear st23
  show own_Fin p e below G (T23.setTop (mkF m 14 #[rv a1, rv a2, iv (0 : Int32), iv (2 : Int32)] []))
  refine own_st (fun _ k => XS.iinc X23.here hx rfl (hb hby d7_14) rfl (l' := #[rv a1, rv a2, iv (1 : Int32), iv (2 : Int32)]) rfl k) ?_
  show own_Fin p e below G (T23.setTop (mkF m 17 #[rv a1, rv a2, iv (1 : Int32), iv (2 : Int32)] []))
  refine own_st (fun _ k => XS.goto X23.here hx rfl (pc0 := 17) (pc' := 5) rfl (hb hby d7_17) (by decide) (by decide) k) ?_
  show own_Fin p e below G (T23.setTop (mkF m 5 #[rv a1, rv a2, iv (1 : Int32), iv (2 : Int32)] []))
  refine own_st (fun _ k => XS.iloadN X23.here hx rfl (hb hby d7_5) rfl  k) ?_
  show own_Fin p e below G (T23.setTop (mkF m 6 #[rv a1, rv a2, iv (1 : Int32), iv (2 : Int32)] [(.int (1 : Int32))]))
  refine own_st (fun _ k => XS.iloadN X23.here hx rfl (hb hby d7_6) rfl  k) ?_
  show own_Fin p e below G (T23.setTop (mkF m 7 #[rv a1, rv a2, iv (1 : Int32), iv (2 : Int32)] [(.int (2 : Int32)), (.int (1 : Int32))]))
  refine own_st (fun _ k => XS.icmpNo X23.here hx rfl (hb hby d7_7) rfl (tlt (by decide : ((1 : Int32) < (2 : Int32)))).2.1 k) ?_
  show own_Fin p e below G (T23.setTop (mkF m 10 #[rv a1, rv a2, iv (1 : Int32), iv (2 : Int32)] []))
  refine own_st (fun _ k => XS.aloadN X23.here hx rfl (hb hby d7_10) rfl rfl k) ?_
  show own_Fin p e below G (T23.setTop (mkF m 11 #[rv a1, rv a2, iv (1 : Int32), iv (2 : Int32)] [(.ref a1)]))
  refine own_st (fun _ k => XS.iloadN X23.here hx rfl (hb hby d7_11) rfl  k) ?_
  show own_Fin p e below G (T23.setTop (mkF m 12 #[rv a1, rv a2, iv (1 : Int32), iv (2 : Int32)] [(.int (1 : Int32)), (.ref a1)]))
  refine own_st (fun _ k => XS.aloadN X23.here hx rfl (hb hby d7_12) rfl rfl k) ?_
  show own_Fin p e below G (T23.setTop (mkF m 13 #[rv a1, rv a2, iv (1 : Int32), iv (2 : Int32)] [(.ref a2), (.int (1 : Int32)), (.ref a1)]))
  obtain ⟨T27, h27, X27, e27, W27, V27, st27⟩ := own_stR X23 hx hZ e23 V23 (j := (1 : Int32)) (n := 2) rfl (by decide) rfl (fun A q => Sto.ofV A q O1 (Ins.self f24_1)) (g := (mkF m 13 #[rv a1, rv a2, iv (1 : Int32), iv (2 : Int32)] [(.ref a2), (.int (1 : Int32)), (.ref a1)])) rfl rfl (hb hby d7_13)
  clear X23 e23 V23 O1
  have f28_1 := f24_1.wr W27
  clear f24_1 f28_1
  have K29 : Keep h0 h27 [a1] := K25.wr W27 (Or.inl (List.mem_of_getElem? (i := 0) rfl))
  clear K25 W27
  have N30 := Fr.snoc X27 N26 g1
  clear N26
  replace V27 : own_AVk Z h27 a1 kk (.object "com/example/urania/urania/layered/Ports$Freedom") [(.ref a2), (.ref a2)] := V27
  clear V27
  refine own_st st27 ?_
  clear st27
  show own_Fin p e below G (T27.setTop (mkF m 14 #[rv a1, rv a2, iv (1 : Int32), iv (2 : Int32)] []))
  refine own_st (fun _ k => XS.iinc X27.here hx rfl (hb hby d7_14) rfl (l' := #[rv a1, rv a2, iv (2 : Int32), iv (2 : Int32)]) rfl k) ?_
  show own_Fin p e below G (T27.setTop (mkF m 17 #[rv a1, rv a2, iv (2 : Int32), iv (2 : Int32)] []))
  refine own_st (fun _ k => XS.goto X27.here hx rfl (pc0 := 17) (pc' := 5) rfl (hb hby d7_17) (by decide) (by decide) k) ?_
  show own_Fin p e below G (T27.setTop (mkF m 5 #[rv a1, rv a2, iv (2 : Int32), iv (2 : Int32)] []))
  refine own_st (fun _ k => XS.iloadN X27.here hx rfl (hb hby d7_5) rfl  k) ?_
  show own_Fin p e below G (T27.setTop (mkF m 6 #[rv a1, rv a2, iv (2 : Int32), iv (2 : Int32)] [(.int (2 : Int32))]))
  refine own_st (fun _ k => XS.iloadN X27.here hx rfl (hb hby d7_6) rfl  k) ?_
  show own_Fin p e below G (T27.setTop (mkF m 7 #[rv a1, rv a2, iv (2 : Int32), iv (2 : Int32)] [(.int (2 : Int32)), (.int (2 : Int32))]))
  refine own_st (fun _ k => XS.icmpYes X27.here hx rfl (pc0 := 7) (pc' := 20) rfl (hb hby d7_7) rfl (flt (by decide : ¬ ((2 : Int32) < (2 : Int32)))).2.1 (by decide) (by decide) k) ?_
  show own_Fin p e below G (T27.setTop (mkF m 20 #[rv a1, rv a2, iv (2 : Int32), iv (2 : Int32)] []))
  refine own_out X27 Bd.notSynchronized (v := none) (fun _ => rfl) hG (fun fs hr => X27.returnOut hx Bd.returns (hb hby d7_20) hr) (by decide) (by decide) ?_
  exact ⟨rfl, N30, e27.symm ▸ K29⟩

def Qrm_fo3 (Z : State) (a1 : Addr) (a2 : Addr) (kk : ClassId) (h0 : Heap) (n0 : Nat) (v : Option Value) (h : Heap) (L : List Loc) : Prop := v = none ∧ Fr n0 L ∧ Keep h0 h [a1]
set_option maxRecDepth 65536 in
set_option maxHeartbeats 40000000 in
theorem rm_fo3 (l : Launch) (Z : State) (a0 : Array Value) (hw : ∀ d ∈ tables_1, d.before a0 Z = true) (ws : List Jvm.Cond) (a1 : Addr) (a2 : Addr) (kk : ClassId) (h0 : Heap) (n0 : Nat) (Z0 : n0 ≤ h0.size) (B1 : own_AVk Z h0 a1 kk (.object "com/example/urania/urania/layered/Ports$Freedom") [.null, .null, .null]) (O1 : Ovr Z kk "com/example/urania/urania/layered/Ports$Freedom") (E2 : Exa Z h0 a2 "com/example/urania/urania/layered/Ports$Freedom") (g1 : n0 ≤ a1) :
    MetFree l own_y4 (head1 (Jvm.Cond.code own_y4 jdk_65_method_117_code 4 none :: ws) ({ frames := 0, cells := 0, slots := 0, locals := 0 } : Room)) (fun a U => a = #[(.ref a1), (.ref a2)] ∧ Z.Warmed39 U.vm ∧ U.heap = h0) (fun _ _ _ _ _ => True) (fun _ U o U' => ∃ v L, o = .returned v ∧ Qrm_fo3 Z a1 a2 kk h0 n0 v U'.heap L ∧ FrameEnd U o U' L ({ frames := 0, cells := 0, slots := 0, locals := 0 } : Room).cells ({ frames := 0, cells := 0, slots := 0, locals := 0 } : Room).slots) := by
  refine MetFree.of_bodySF (plainFor_of_name pn_java_util_Arrays) hisR ?_
  intro p e s m args below meth c s₁ Bd hml0 hP hK
  obtain ⟨rfl, hZ, hh⟩ := hP
  have hx := Bd.exec
  have hby := Bd.bytes
  have hml : c.maxLocals = 4 := hml0
  have hown : s.vm.findClass "java/util/Arrays" = some m.cls := findClass_of_methodNamed Bd.named
  have hnm := (name_of_methodNamed Bd.named Bd.method).1
  have X0 : Stand p l e ({ frames := 0, cells := 0, slots := 0, locals := 0 } : Room) s m #[(.ref a1), (.ref a2)] below meth c s₁ [] 0 0 := Stand.of_body Bd
  have e0 : s₁.heap = h0 := by rw [← hh, Bd.state]; rfl
  have N0 := Fr.nil n0
  have K0 : Keep h0 h0 [a1] := Keep.refl _ _
  refine own_start (Qk := Qrm_fo3 Z a1 a2 kk h0 n0) (fun G hG => ?_)
  refine own_st (fun _ k => castTop (ef_7_RR m a1 a2) k) ?_
  show own_Fin p e below G (s₁.setTop (mkF m 0 #[rv a1, rv a2, .unset, .unset] []))
  refine own_st (fun _ k => XS.iconst X0.here hx rfl (hb hby d7_0) k) ?_
  show own_Fin p e below G (s₁.setTop (mkF m 1 #[rv a1, rv a2, .unset, .unset] [(.int (0 : Int32))]))
  refine own_st (fun _ k => XS.istoreN X0.here hx rfl (hb hby d7_1) rfl (l' := #[rv a1, rv a2, iv (0 : Int32), .unset]) rfl k) ?_
  show own_Fin p e below G (s₁.setTop (mkF m 2 #[rv a1, rv a2, iv (0 : Int32), .unset] []))
  refine own_st (fun _ k => XS.aloadN X0.here hx rfl (hb hby d7_2) rfl rfl k) ?_
  show own_Fin p e below G (s₁.setTop (mkF m 3 #[rv a1, rv a2, iv (0 : Int32), .unset] [(.ref a1)]))
  refine own_st (fun _ k => own_len X0 hx hZ e0 B1.av (z := (3 : Int32)) rfl (g := (mkF m 3 #[rv a1, rv a2, iv (0 : Int32), .unset] [(.ref a1)])) rfl rfl (hb hby d7_3) k) ?_
  show own_Fin p e below G (s₁.setTop (mkF m 4 #[rv a1, rv a2, iv (0 : Int32), .unset] [(.int (3 : Int32))]))
  refine own_st (fun _ k => XS.istoreN X0.here hx rfl (hb hby d7_4) rfl (l' := #[rv a1, rv a2, iv (0 : Int32), iv (3 : Int32)]) rfl k) ?_
  show own_Fin p e below G (s₁.setTop (mkF m 5 #[rv a1, rv a2, iv (0 : Int32), iv (3 : Int32)] []))
  refine own_st (fun _ k => XS.iloadN X0.here hx rfl (hb hby d7_5) rfl  k) ?_
  show own_Fin p e below G (s₁.setTop (mkF m 6 #[rv a1, rv a2, iv (0 : Int32), iv (3 : Int32)] [(.int (0 : Int32))]))
  refine own_st (fun _ k => XS.iloadN X0.here hx rfl (hb hby d7_6) rfl  k) ?_
  show own_Fin p e below G (s₁.setTop (mkF m 7 #[rv a1, rv a2, iv (0 : Int32), iv (3 : Int32)] [(.int (3 : Int32)), (.int (0 : Int32))]))
  refine own_st (fun _ k => XS.icmpNo X0.here hx rfl (hb hby d7_7) rfl (tlt (by decide : ((0 : Int32) < (3 : Int32)))).2.1 k) ?_
  show own_Fin p e below G (s₁.setTop (mkF m 10 #[rv a1, rv a2, iv (0 : Int32), iv (3 : Int32)] []))
  refine own_st (fun _ k => XS.aloadN X0.here hx rfl (hb hby d7_10) rfl rfl k) ?_
  show own_Fin p e below G (s₁.setTop (mkF m 11 #[rv a1, rv a2, iv (0 : Int32), iv (3 : Int32)] [(.ref a1)]))
  refine own_st (fun _ k => XS.iloadN X0.here hx rfl (hb hby d7_11) rfl  k) ?_
  show own_Fin p e below G (s₁.setTop (mkF m 12 #[rv a1, rv a2, iv (0 : Int32), iv (3 : Int32)] [(.int (0 : Int32)), (.ref a1)]))
  refine own_st (fun _ k => XS.aloadN X0.here hx rfl (hb hby d7_12) rfl rfl k) ?_
  show own_Fin p e below G (s₁.setTop (mkF m 13 #[rv a1, rv a2, iv (0 : Int32), iv (3 : Int32)] [(.ref a2), (.int (0 : Int32)), (.ref a1)]))
  obtain ⟨T31, h31, X31, e31, W31, V31, st31⟩ := own_stR X0 hx hZ e0 B1 (j := (0 : Int32)) (n := 3) rfl (by decide) rfl (fun A q => Sto.ofV A q O1 (Ins.self E2)) (g := (mkF m 13 #[rv a1, rv a2, iv (0 : Int32), iv (3 : Int32)] [(.ref a2), (.int (0 : Int32)), (.ref a1)])) rfl rfl (hb hby d7_13)
  clear X0 e0 B1
  have f32_1 := E2.wr W31
  clear E2
  have K33 : Keep h0 h31 [a1] := K0.wr W31 (Or.inl (List.mem_of_getElem? (i := 0) rfl))
  clear K0 W31
  have N34 := Fr.snoc X31 N0 g1
  clear N0
  replace V31 : own_AVk Z h31 a1 kk (.object "com/example/urania/urania/layered/Ports$Freedom") [(.ref a2), .null, .null] := V31
  refine own_st st31 ?_
  clear st31
  show own_Fin p e below G (T31.setTop (mkF m 14 #[rv a1, rv a2, iv (0 : Int32), iv (3 : Int32)] []))
  refine own_st (fun _ k => XS.iinc X31.here hx rfl (hb hby d7_14) rfl (l' := #[rv a1, rv a2, iv (1 : Int32), iv (3 : Int32)]) rfl k) ?_
  show own_Fin p e below G (T31.setTop (mkF m 17 #[rv a1, rv a2, iv (1 : Int32), iv (3 : Int32)] []))
  refine own_st (fun _ k => XS.goto X31.here hx rfl (pc0 := 17) (pc' := 5) rfl (hb hby d7_17) (by decide) (by decide) k) ?_
  show own_Fin p e below G (T31.setTop (mkF m 5 #[rv a1, rv a2, iv (1 : Int32), iv (3 : Int32)] []))
  refine own_st (fun _ k => XS.iloadN X31.here hx rfl (hb hby d7_5) rfl  k) ?_
  show own_Fin p e below G (T31.setTop (mkF m 6 #[rv a1, rv a2, iv (1 : Int32), iv (3 : Int32)] [(.int (1 : Int32))]))
  refine own_st (fun _ k => XS.iloadN X31.here hx rfl (hb hby d7_6) rfl  k) ?_
  show own_Fin p e below G (T31.setTop (mkF m 7 #[rv a1, rv a2, iv (1 : Int32), iv (3 : Int32)] [(.int (3 : Int32)), (.int (1 : Int32))]))
  refine own_st (fun _ k => XS.icmpNo X31.here hx rfl (hb hby d7_7) rfl (tlt (by decide : ((1 : Int32) < (3 : Int32)))).2.1 k) ?_
  show own_Fin p e below G (T31.setTop (mkF m 10 #[rv a1, rv a2, iv (1 : Int32), iv (3 : Int32)] []))
  refine own_st (fun _ k => XS.aloadN X31.here hx rfl (hb hby d7_10) rfl rfl k) ?_
  show own_Fin p e below G (T31.setTop (mkF m 11 #[rv a1, rv a2, iv (1 : Int32), iv (3 : Int32)] [(.ref a1)]))
  refine own_st (fun _ k => XS.iloadN X31.here hx rfl (hb hby d7_11) rfl  k) ?_
  show own_Fin p e below G (T31.setTop (mkF m 12 #[rv a1, rv a2, iv (1 : Int32), iv (3 : Int32)] [(.int (1 : Int32)), (.ref a1)]))
  refine own_st (fun _ k => XS.aloadN X31.here hx rfl (hb hby d7_12) rfl rfl k) ?_
  show own_Fin p e below G (T31.setTop (mkF m 13 #[rv a1, rv a2, iv (1 : Int32), iv (3 : Int32)] [(.ref a2), (.int (1 : Int32)), (.ref a1)]))
  obtain ⟨T35, h35, X35, e35, W35, V35, st35⟩ := own_stR X31 hx hZ e31 V31 (j := (1 : Int32)) (n := 3) rfl (by decide) rfl (fun A q => Sto.ofV A q O1 (Ins.self f32_1)) (g := (mkF m 13 #[rv a1, rv a2, iv (1 : Int32), iv (3 : Int32)] [(.ref a2), (.int (1 : Int32)), (.ref a1)])) rfl rfl (hb hby d7_13)
  clear X31 e31 V31
  have f36_1 := f32_1.wr W35
  clear f32_1
  have K37 : Keep h0 h35 [a1] := K33.wr W35 (Or.inl (List.mem_of_getElem? (i := 0) rfl))
  clear K33 W35
  have N38 := Fr.snoc X35 N34 g1
  clear N34
  replace V35 : own_AVk Z h35 a1 kk (.object "com/example/urania/urania/layered/Ports$Freedom") [(.ref a2), (.ref a2), .null] := V35
  refine own_st st35 ?_
  clear st35
  show own_Fin p e below G (T35.setTop (mkF m 14 #[rv a1, rv a2, iv (1 : Int32), iv (3 : Int32)] []))
  refine own_st (fun _ k => XS.iinc X35.here hx rfl (hb hby d7_14) rfl (l' := #[rv a1, rv a2, iv (2 : Int32), iv (3 : Int32)]) rfl k) ?_
  show own_Fin p e below G (T35.setTop (mkF m 17 #[rv a1, rv a2, iv (2 : Int32), iv (3 : Int32)] []))
  refine own_st (fun _ k => XS.goto X35.here hx rfl (pc0 := 17) (pc' := 5) rfl (hb hby d7_17) (by decide) (by decide) k) ?_
  show own_Fin p e below G (T35.setTop (mkF m 5 #[rv a1, rv a2, iv (2 : Int32), iv (3 : Int32)] []))
  refine own_st (fun _ k => XS.iloadN X35.here hx rfl (hb hby d7_5) rfl  k) ?_
  show own_Fin p e below G (T35.setTop (mkF m 6 #[rv a1, rv a2, iv (2 : Int32), iv (3 : Int32)] [(.int (2 : Int32))]))
  refine own_st (fun _ k => XS.iloadN X35.here hx rfl (hb hby d7_6) rfl  k) ?_
  show own_Fin p e below G (T35.setTop (mkF m 7 #[rv a1, rv a2, iv (2 : Int32), iv (3 : Int32)] [(.int (3 : Int32)), (.int (2 : Int32))]))
  refine own_st (fun _ k => XS.icmpNo X35.here hx rfl (hb hby d7_7) rfl (tlt (by decide : ((2 : Int32) < (3 : Int32)))).2.1 k) ?_
  show own_Fin p e below G (T35.setTop (mkF m 10 #[rv a1, rv a2, iv (2 : Int32), iv (3 : Int32)] []))
  refine own_st (fun _ k => XS.aloadN X35.here hx rfl (hb hby d7_10) rfl rfl k) ?_
  show own_Fin p e below G (T35.setTop (mkF m 11 #[rv a1, rv a2, iv (2 : Int32), iv (3 : Int32)] [(.ref a1)]))
  refine own_st (fun _ k => XS.iloadN X35.here hx rfl (hb hby d7_11) rfl  k) ?_
  show own_Fin p e below G (T35.setTop (mkF m 12 #[rv a1, rv a2, iv (2 : Int32), iv (3 : Int32)] [(.int (2 : Int32)), (.ref a1)]))
  refine own_st (fun _ k => XS.aloadN X35.here hx rfl (hb hby d7_12) rfl rfl k) ?_
  show own_Fin p e below G (T35.setTop (mkF m 13 #[rv a1, rv a2, iv (2 : Int32), iv (3 : Int32)] [(.ref a2), (.int (2 : Int32)), (.ref a1)]))
  obtain ⟨T39, h39, X39, e39, W39, V39, st39⟩ := own_stR X35 hx hZ e35 V35 (j := (2 : Int32)) (n := 3) rfl (by decide) rfl (fun A q => Sto.ofV A q O1 (Ins.self f36_1)) (g := (mkF m 13 #[rv a1, rv a2, iv (2 : Int32), iv (3 : Int32)] [(.ref a2), (.int (2 : Int32)), (.ref a1)])) rfl rfl (hb hby d7_13)
  clear O1 X35 e35 V35
  have f40_1 := f36_1.wr W39
  clear f36_1 f40_1
  have K41 : Keep h0 h39 [a1] := K37.wr W39 (Or.inl (List.mem_of_getElem? (i := 0) rfl))
  clear K37 W39
  have N42 := Fr.snoc X39 N38 g1
  clear N38
  replace V39 : own_AVk Z h39 a1 kk (.object "com/example/urania/urania/layered/Ports$Freedom") [(.ref a2), (.ref a2), (.ref a2)] := V39
  clear V39
  refine own_st st39 ?_
  clear st39
  show own_Fin p e below G (T39.setTop (mkF m 14 #[rv a1, rv a2, iv (2 : Int32), iv (3 : Int32)] []))
  refine own_st (fun _ k => XS.iinc X39.here hx rfl (hb hby d7_14) rfl (l' := #[rv a1, rv a2, iv (3 : Int32), iv (3 : Int32)]) rfl k) ?_
  show own_Fin p e below G (T39.setTop (mkF m 17 #[rv a1, rv a2, iv (3 : Int32), iv (3 : Int32)] []))
  refine own_st (fun _ k => XS.goto X39.here hx rfl (pc0 := 17) (pc' := 5) rfl (hb hby d7_17) (by decide) (by decide) k) ?_
  show own_Fin p e below G (T39.setTop (mkF m 5 #[rv a1, rv a2, iv (3 : Int32), iv (3 : Int32)] []))
  refine own_st (fun _ k => XS.iloadN X39.here hx rfl (hb hby d7_5) rfl  k) ?_
  show own_Fin p e below G (T39.setTop (mkF m 6 #[rv a1, rv a2, iv (3 : Int32), iv (3 : Int32)] [(.int (3 : Int32))]))
  refine own_st (fun _ k => XS.iloadN X39.here hx rfl (hb hby d7_6) rfl  k) ?_
  show own_Fin p e below G (T39.setTop (mkF m 7 #[rv a1, rv a2, iv (3 : Int32), iv (3 : Int32)] [(.int (3 : Int32)), (.int (3 : Int32))]))
  refine own_st (fun _ k => XS.icmpYes X39.here hx rfl (pc0 := 7) (pc' := 20) rfl (hb hby d7_7) rfl (flt (by decide : ¬ ((3 : Int32) < (3 : Int32)))).2.1 (by decide) (by decide) k) ?_
  show own_Fin p e below G (T39.setTop (mkF m 20 #[rv a1, rv a2, iv (3 : Int32), iv (3 : Int32)] []))
  refine own_out X39 Bd.notSynchronized (v := none) (fun _ => rfl) hG (fun fs hr => X39.returnOut hx Bd.returns (hb hby d7_20) hr) (by decide) (by decide) ?_
  exact ⟨rfl, N42, e39.symm ▸ K41⟩

def Qrm_fo4 (Z : State) (a1 : Addr) (a2 : Addr) (kk : ClassId) (h0 : Heap) (n0 : Nat) (v : Option Value) (h : Heap) (L : List Loc) : Prop := v = none ∧ Fr n0 L ∧ Keep h0 h [a1]
set_option maxRecDepth 65536 in
set_option maxHeartbeats 40000000 in
theorem rm_fo4 (l : Launch) (Z : State) (a0 : Array Value) (hw : ∀ d ∈ tables_1, d.before a0 Z = true) (ws : List Jvm.Cond) (a1 : Addr) (a2 : Addr) (kk : ClassId) (h0 : Heap) (n0 : Nat) (Z0 : n0 ≤ h0.size) (B1 : own_AVk Z h0 a1 kk (.object "com/example/urania/urania/layered/Ports$Freedom") [.null, .null, .null, .null]) (O1 : Ovr Z kk "com/example/urania/urania/layered/Ports$Freedom") (E2 : Exa Z h0 a2 "com/example/urania/urania/layered/Ports$Freedom") (g1 : n0 ≤ a1) :
    MetFree l own_y4 (head1 (Jvm.Cond.code own_y4 jdk_65_method_117_code 4 none :: ws) ({ frames := 0, cells := 0, slots := 0, locals := 0 } : Room)) (fun a U => a = #[(.ref a1), (.ref a2)] ∧ Z.Warmed39 U.vm ∧ U.heap = h0) (fun _ _ _ _ _ => True) (fun _ U o U' => ∃ v L, o = .returned v ∧ Qrm_fo4 Z a1 a2 kk h0 n0 v U'.heap L ∧ FrameEnd U o U' L ({ frames := 0, cells := 0, slots := 0, locals := 0 } : Room).cells ({ frames := 0, cells := 0, slots := 0, locals := 0 } : Room).slots) := by
  refine MetFree.of_bodySF (plainFor_of_name pn_java_util_Arrays) hisR ?_
  intro p e s m args below meth c s₁ Bd hml0 hP hK
  obtain ⟨rfl, hZ, hh⟩ := hP
  have hx := Bd.exec
  have hby := Bd.bytes
  have hml : c.maxLocals = 4 := hml0
  have hown : s.vm.findClass "java/util/Arrays" = some m.cls := findClass_of_methodNamed Bd.named
  have hnm := (name_of_methodNamed Bd.named Bd.method).1
  have X0 : Stand p l e ({ frames := 0, cells := 0, slots := 0, locals := 0 } : Room) s m #[(.ref a1), (.ref a2)] below meth c s₁ [] 0 0 := Stand.of_body Bd
  have e0 : s₁.heap = h0 := by rw [← hh, Bd.state]; rfl
  have N0 := Fr.nil n0
  have K0 : Keep h0 h0 [a1] := Keep.refl _ _
  refine own_start (Qk := Qrm_fo4 Z a1 a2 kk h0 n0) (fun G hG => ?_)
  refine own_st (fun _ k => castTop (ef_7_RR m a1 a2) k) ?_
  show own_Fin p e below G (s₁.setTop (mkF m 0 #[rv a1, rv a2, .unset, .unset] []))
  refine own_st (fun _ k => XS.iconst X0.here hx rfl (hb hby d7_0) k) ?_
  show own_Fin p e below G (s₁.setTop (mkF m 1 #[rv a1, rv a2, .unset, .unset] [(.int (0 : Int32))]))
  refine own_st (fun _ k => XS.istoreN X0.here hx rfl (hb hby d7_1) rfl (l' := #[rv a1, rv a2, iv (0 : Int32), .unset]) rfl k) ?_
  show own_Fin p e below G (s₁.setTop (mkF m 2 #[rv a1, rv a2, iv (0 : Int32), .unset] []))
  refine own_st (fun _ k => XS.aloadN X0.here hx rfl (hb hby d7_2) rfl rfl k) ?_
  show own_Fin p e below G (s₁.setTop (mkF m 3 #[rv a1, rv a2, iv (0 : Int32), .unset] [(.ref a1)]))
  refine own_st (fun _ k => own_len X0 hx hZ e0 B1.av (z := (4 : Int32)) rfl (g := (mkF m 3 #[rv a1, rv a2, iv (0 : Int32), .unset] [(.ref a1)])) rfl rfl (hb hby d7_3) k) ?_
  show own_Fin p e below G (s₁.setTop (mkF m 4 #[rv a1, rv a2, iv (0 : Int32), .unset] [(.int (4 : Int32))]))
  refine own_st (fun _ k => XS.istoreN X0.here hx rfl (hb hby d7_4) rfl (l' := #[rv a1, rv a2, iv (0 : Int32), iv (4 : Int32)]) rfl k) ?_
  show own_Fin p e below G (s₁.setTop (mkF m 5 #[rv a1, rv a2, iv (0 : Int32), iv (4 : Int32)] []))
  refine own_st (fun _ k => XS.iloadN X0.here hx rfl (hb hby d7_5) rfl  k) ?_
  show own_Fin p e below G (s₁.setTop (mkF m 6 #[rv a1, rv a2, iv (0 : Int32), iv (4 : Int32)] [(.int (0 : Int32))]))
  refine own_st (fun _ k => XS.iloadN X0.here hx rfl (hb hby d7_6) rfl  k) ?_
  show own_Fin p e below G (s₁.setTop (mkF m 7 #[rv a1, rv a2, iv (0 : Int32), iv (4 : Int32)] [(.int (4 : Int32)), (.int (0 : Int32))]))
  refine own_st (fun _ k => XS.icmpNo X0.here hx rfl (hb hby d7_7) rfl (tlt (by decide : ((0 : Int32) < (4 : Int32)))).2.1 k) ?_
  show own_Fin p e below G (s₁.setTop (mkF m 10 #[rv a1, rv a2, iv (0 : Int32), iv (4 : Int32)] []))
  refine own_st (fun _ k => XS.aloadN X0.here hx rfl (hb hby d7_10) rfl rfl k) ?_
  show own_Fin p e below G (s₁.setTop (mkF m 11 #[rv a1, rv a2, iv (0 : Int32), iv (4 : Int32)] [(.ref a1)]))
  refine own_st (fun _ k => XS.iloadN X0.here hx rfl (hb hby d7_11) rfl  k) ?_
  show own_Fin p e below G (s₁.setTop (mkF m 12 #[rv a1, rv a2, iv (0 : Int32), iv (4 : Int32)] [(.int (0 : Int32)), (.ref a1)]))
  refine own_st (fun _ k => XS.aloadN X0.here hx rfl (hb hby d7_12) rfl rfl k) ?_
  show own_Fin p e below G (s₁.setTop (mkF m 13 #[rv a1, rv a2, iv (0 : Int32), iv (4 : Int32)] [(.ref a2), (.int (0 : Int32)), (.ref a1)]))
  obtain ⟨T43, h43, X43, e43, W43, V43, st43⟩ := own_stR X0 hx hZ e0 B1 (j := (0 : Int32)) (n := 4) rfl (by decide) rfl (fun A q => Sto.ofV A q O1 (Ins.self E2)) (g := (mkF m 13 #[rv a1, rv a2, iv (0 : Int32), iv (4 : Int32)] [(.ref a2), (.int (0 : Int32)), (.ref a1)])) rfl rfl (hb hby d7_13)
  clear X0 e0 B1
  have f44_1 := E2.wr W43
  clear E2
  have K45 : Keep h0 h43 [a1] := K0.wr W43 (Or.inl (List.mem_of_getElem? (i := 0) rfl))
  clear K0 W43
  have N46 := Fr.snoc X43 N0 g1
  clear N0
  replace V43 : own_AVk Z h43 a1 kk (.object "com/example/urania/urania/layered/Ports$Freedom") [(.ref a2), .null, .null, .null] := V43
  refine own_st st43 ?_
  clear st43
  show own_Fin p e below G (T43.setTop (mkF m 14 #[rv a1, rv a2, iv (0 : Int32), iv (4 : Int32)] []))
  refine own_st (fun _ k => XS.iinc X43.here hx rfl (hb hby d7_14) rfl (l' := #[rv a1, rv a2, iv (1 : Int32), iv (4 : Int32)]) rfl k) ?_
  show own_Fin p e below G (T43.setTop (mkF m 17 #[rv a1, rv a2, iv (1 : Int32), iv (4 : Int32)] []))
  refine own_st (fun _ k => XS.goto X43.here hx rfl (pc0 := 17) (pc' := 5) rfl (hb hby d7_17) (by decide) (by decide) k) ?_
  show own_Fin p e below G (T43.setTop (mkF m 5 #[rv a1, rv a2, iv (1 : Int32), iv (4 : Int32)] []))
  refine own_st (fun _ k => XS.iloadN X43.here hx rfl (hb hby d7_5) rfl  k) ?_
  show own_Fin p e below G (T43.setTop (mkF m 6 #[rv a1, rv a2, iv (1 : Int32), iv (4 : Int32)] [(.int (1 : Int32))]))
  refine own_st (fun _ k => XS.iloadN X43.here hx rfl (hb hby d7_6) rfl  k) ?_
  show own_Fin p e below G (T43.setTop (mkF m 7 #[rv a1, rv a2, iv (1 : Int32), iv (4 : Int32)] [(.int (4 : Int32)), (.int (1 : Int32))]))
  refine own_st (fun _ k => XS.icmpNo X43.here hx rfl (hb hby d7_7) rfl (tlt (by decide : ((1 : Int32) < (4 : Int32)))).2.1 k) ?_
  show own_Fin p e below G (T43.setTop (mkF m 10 #[rv a1, rv a2, iv (1 : Int32), iv (4 : Int32)] []))
  refine own_st (fun _ k => XS.aloadN X43.here hx rfl (hb hby d7_10) rfl rfl k) ?_
  show own_Fin p e below G (T43.setTop (mkF m 11 #[rv a1, rv a2, iv (1 : Int32), iv (4 : Int32)] [(.ref a1)]))
  refine own_st (fun _ k => XS.iloadN X43.here hx rfl (hb hby d7_11) rfl  k) ?_
  show own_Fin p e below G (T43.setTop (mkF m 12 #[rv a1, rv a2, iv (1 : Int32), iv (4 : Int32)] [(.int (1 : Int32)), (.ref a1)]))
  refine own_st (fun _ k => XS.aloadN X43.here hx rfl (hb hby d7_12) rfl rfl k) ?_
  show own_Fin p e below G (T43.setTop (mkF m 13 #[rv a1, rv a2, iv (1 : Int32), iv (4 : Int32)] [(.ref a2), (.int (1 : Int32)), (.ref a1)]))
  obtain ⟨T47, h47, X47, e47, W47, V47, st47⟩ := own_stR X43 hx hZ e43 V43 (j := (1 : Int32)) (n := 4) rfl (by decide) rfl (fun A q => Sto.ofV A q O1 (Ins.self f44_1)) (g := (mkF m 13 #[rv a1, rv a2, iv (1 : Int32), iv (4 : Int32)] [(.ref a2), (.int (1 : Int32)), (.ref a1)])) rfl rfl (hb hby d7_13)
  clear X43 e43 V43
  have f48_1 := f44_1.wr W47
  clear f44_1
  have K49 : Keep h0 h47 [a1] := K45.wr W47 (Or.inl (List.mem_of_getElem? (i := 0) rfl))
  clear K45 W47
  have N50 := Fr.snoc X47 N46 g1
  clear N46
  replace V47 : own_AVk Z h47 a1 kk (.object "com/example/urania/urania/layered/Ports$Freedom") [(.ref a2), (.ref a2), .null, .null] := V47
  refine own_st st47 ?_
  clear st47
  show own_Fin p e below G (T47.setTop (mkF m 14 #[rv a1, rv a2, iv (1 : Int32), iv (4 : Int32)] []))
  refine own_st (fun _ k => XS.iinc X47.here hx rfl (hb hby d7_14) rfl (l' := #[rv a1, rv a2, iv (2 : Int32), iv (4 : Int32)]) rfl k) ?_
  show own_Fin p e below G (T47.setTop (mkF m 17 #[rv a1, rv a2, iv (2 : Int32), iv (4 : Int32)] []))
  refine own_st (fun _ k => XS.goto X47.here hx rfl (pc0 := 17) (pc' := 5) rfl (hb hby d7_17) (by decide) (by decide) k) ?_
  show own_Fin p e below G (T47.setTop (mkF m 5 #[rv a1, rv a2, iv (2 : Int32), iv (4 : Int32)] []))
  refine own_st (fun _ k => XS.iloadN X47.here hx rfl (hb hby d7_5) rfl  k) ?_
  show own_Fin p e below G (T47.setTop (mkF m 6 #[rv a1, rv a2, iv (2 : Int32), iv (4 : Int32)] [(.int (2 : Int32))]))
  refine own_st (fun _ k => XS.iloadN X47.here hx rfl (hb hby d7_6) rfl  k) ?_
  show own_Fin p e below G (T47.setTop (mkF m 7 #[rv a1, rv a2, iv (2 : Int32), iv (4 : Int32)] [(.int (4 : Int32)), (.int (2 : Int32))]))
  refine own_st (fun _ k => XS.icmpNo X47.here hx rfl (hb hby d7_7) rfl (tlt (by decide : ((2 : Int32) < (4 : Int32)))).2.1 k) ?_
  show own_Fin p e below G (T47.setTop (mkF m 10 #[rv a1, rv a2, iv (2 : Int32), iv (4 : Int32)] []))
  refine own_st (fun _ k => XS.aloadN X47.here hx rfl (hb hby d7_10) rfl rfl k) ?_
  show own_Fin p e below G (T47.setTop (mkF m 11 #[rv a1, rv a2, iv (2 : Int32), iv (4 : Int32)] [(.ref a1)]))
  refine own_st (fun _ k => XS.iloadN X47.here hx rfl (hb hby d7_11) rfl  k) ?_
  show own_Fin p e below G (T47.setTop (mkF m 12 #[rv a1, rv a2, iv (2 : Int32), iv (4 : Int32)] [(.int (2 : Int32)), (.ref a1)]))
  refine own_st (fun _ k => XS.aloadN X47.here hx rfl (hb hby d7_12) rfl rfl k) ?_
  show own_Fin p e below G (T47.setTop (mkF m 13 #[rv a1, rv a2, iv (2 : Int32), iv (4 : Int32)] [(.ref a2), (.int (2 : Int32)), (.ref a1)]))
  obtain ⟨T51, h51, X51, e51, W51, V51, st51⟩ := own_stR X47 hx hZ e47 V47 (j := (2 : Int32)) (n := 4) rfl (by decide) rfl (fun A q => Sto.ofV A q O1 (Ins.self f48_1)) (g := (mkF m 13 #[rv a1, rv a2, iv (2 : Int32), iv (4 : Int32)] [(.ref a2), (.int (2 : Int32)), (.ref a1)])) rfl rfl (hb hby d7_13)
  clear X47 e47 V47
  have f52_1 := f48_1.wr W51
  clear f48_1
  have K53 : Keep h0 h51 [a1] := K49.wr W51 (Or.inl (List.mem_of_getElem? (i := 0) rfl))
  clear K49 W51
  have N54 := Fr.snoc X51 N50 g1
  clear N50
  replace V51 : own_AVk Z h51 a1 kk (.object "com/example/urania/urania/layered/Ports$Freedom") [(.ref a2), (.ref a2), (.ref a2), .null] := V51
  refine own_st st51 ?_
  clear st51
  show own_Fin p e below G (T51.setTop (mkF m 14 #[rv a1, rv a2, iv (2 : Int32), iv (4 : Int32)] []))
  refine own_st (fun _ k => XS.iinc X51.here hx rfl (hb hby d7_14) rfl (l' := #[rv a1, rv a2, iv (3 : Int32), iv (4 : Int32)]) rfl k) ?_
  show own_Fin p e below G (T51.setTop (mkF m 17 #[rv a1, rv a2, iv (3 : Int32), iv (4 : Int32)] []))
  refine own_st (fun _ k => XS.goto X51.here hx rfl (pc0 := 17) (pc' := 5) rfl (hb hby d7_17) (by decide) (by decide) k) ?_
  show own_Fin p e below G (T51.setTop (mkF m 5 #[rv a1, rv a2, iv (3 : Int32), iv (4 : Int32)] []))
  refine own_st (fun _ k => XS.iloadN X51.here hx rfl (hb hby d7_5) rfl  k) ?_
  show own_Fin p e below G (T51.setTop (mkF m 6 #[rv a1, rv a2, iv (3 : Int32), iv (4 : Int32)] [(.int (3 : Int32))]))
  refine own_st (fun _ k => XS.iloadN X51.here hx rfl (hb hby d7_6) rfl  k) ?_
  show own_Fin p e below G (T51.setTop (mkF m 7 #[rv a1, rv a2, iv (3 : Int32), iv (4 : Int32)] [(.int (4 : Int32)), (.int (3 : Int32))]))
  refine own_st (fun _ k => XS.icmpNo X51.here hx rfl (hb hby d7_7) rfl (tlt (by decide : ((3 : Int32) < (4 : Int32)))).2.1 k) ?_
  show own_Fin p e below G (T51.setTop (mkF m 10 #[rv a1, rv a2, iv (3 : Int32), iv (4 : Int32)] []))
  refine own_st (fun _ k => XS.aloadN X51.here hx rfl (hb hby d7_10) rfl rfl k) ?_
  show own_Fin p e below G (T51.setTop (mkF m 11 #[rv a1, rv a2, iv (3 : Int32), iv (4 : Int32)] [(.ref a1)]))
  refine own_st (fun _ k => XS.iloadN X51.here hx rfl (hb hby d7_11) rfl  k) ?_
  show own_Fin p e below G (T51.setTop (mkF m 12 #[rv a1, rv a2, iv (3 : Int32), iv (4 : Int32)] [(.int (3 : Int32)), (.ref a1)]))
  refine own_st (fun _ k => XS.aloadN X51.here hx rfl (hb hby d7_12) rfl rfl k) ?_
  show own_Fin p e below G (T51.setTop (mkF m 13 #[rv a1, rv a2, iv (3 : Int32), iv (4 : Int32)] [(.ref a2), (.int (3 : Int32)), (.ref a1)]))
  obtain ⟨T55, h55, X55, e55, W55, V55, st55⟩ := own_stR X51 hx hZ e51 V51 (j := (3 : Int32)) (n := 4) rfl (by decide) rfl (fun A q => Sto.ofV A q O1 (Ins.self f52_1)) (g := (mkF m 13 #[rv a1, rv a2, iv (3 : Int32), iv (4 : Int32)] [(.ref a2), (.int (3 : Int32)), (.ref a1)])) rfl rfl (hb hby d7_13)
  clear O1 X51 e51 V51
  have f56_1 := f52_1.wr W55
  clear f52_1 f56_1
  have K57 : Keep h0 h55 [a1] := K53.wr W55 (Or.inl (List.mem_of_getElem? (i := 0) rfl))
  clear K53 W55
  have N58 := Fr.snoc X55 N54 g1
  clear N54
  replace V55 : own_AVk Z h55 a1 kk (.object "com/example/urania/urania/layered/Ports$Freedom") [(.ref a2), (.ref a2), (.ref a2), (.ref a2)] := V55
  clear V55
  refine own_st st55 ?_
  clear st55
  show own_Fin p e below G (T55.setTop (mkF m 14 #[rv a1, rv a2, iv (3 : Int32), iv (4 : Int32)] []))
  refine own_st (fun _ k => XS.iinc X55.here hx rfl (hb hby d7_14) rfl (l' := #[rv a1, rv a2, iv (4 : Int32), iv (4 : Int32)]) rfl k) ?_
  show own_Fin p e below G (T55.setTop (mkF m 17 #[rv a1, rv a2, iv (4 : Int32), iv (4 : Int32)] []))
  refine own_st (fun _ k => XS.goto X55.here hx rfl (pc0 := 17) (pc' := 5) rfl (hb hby d7_17) (by decide) (by decide) k) ?_
  show own_Fin p e below G (T55.setTop (mkF m 5 #[rv a1, rv a2, iv (4 : Int32), iv (4 : Int32)] []))
  refine own_st (fun _ k => XS.iloadN X55.here hx rfl (hb hby d7_5) rfl  k) ?_
  show own_Fin p e below G (T55.setTop (mkF m 6 #[rv a1, rv a2, iv (4 : Int32), iv (4 : Int32)] [(.int (4 : Int32))]))
  refine own_st (fun _ k => XS.iloadN X55.here hx rfl (hb hby d7_6) rfl  k) ?_
  show own_Fin p e below G (T55.setTop (mkF m 7 #[rv a1, rv a2, iv (4 : Int32), iv (4 : Int32)] [(.int (4 : Int32)), (.int (4 : Int32))]))
  refine own_st (fun _ k => XS.icmpYes X55.here hx rfl (pc0 := 7) (pc' := 20) rfl (hb hby d7_7) rfl (flt (by decide : ¬ ((4 : Int32) < (4 : Int32)))).2.1 (by decide) (by decide) k) ?_
  show own_Fin p e below G (T55.setTop (mkF m 20 #[rv a1, rv a2, iv (4 : Int32), iv (4 : Int32)] []))
  refine own_out X55 Bd.notSynchronized (v := none) (fun _ => rfl) hG (fun fs hr => X55.returnOut hx Bd.returns (hb hby d7_20) hr) (by decide) (by decide) ?_
  exact ⟨rfl, N58, e55.symm ▸ K57⟩

theorem d13_0 : decode jdk_65_method_103_code 0 = .ok (.iconst 0, 1) := by decide +kernel
theorem d13_1 : decode jdk_65_method_103_code 1 = .ok (.istore_n 2, 1) := by decide +kernel
theorem d13_2 : decode jdk_65_method_103_code 2 = .ok (.aload_n 0, 1) := by decide +kernel
theorem d13_3 : decode jdk_65_method_103_code 3 = .ok (.arraylength, 1) := by decide +kernel
theorem d13_4 : decode jdk_65_method_103_code 4 = .ok (.istore_n 3, 1) := by decide +kernel
theorem d13_5 : decode jdk_65_method_103_code 5 = .ok (.iload_n 2, 1) := by decide +kernel
theorem d13_6 : decode jdk_65_method_103_code 6 = .ok (.iload_n 3, 1) := by decide +kernel
theorem d13_7 : decode jdk_65_method_103_code 7 = .ok (.if_icmp .ge 13, 3) := by decide +kernel
theorem d13_20 : decode jdk_65_method_103_code 20 = .ok (.return_, 1) := by decide +kernel
theorem ef_13_RI (m : MethodId) (x0 : Addr) (x1 : Int32) : entryFrame m #[(.ref x0), (.int x1)] 4 = mkF m 0 #[rv x0, iv x1, .unset, .unset] [] := by first | (simp [entryFrame, mkF, argsToLocals, Value.category]; done) | rfl
def Qrm_fi (Z : State) (a1 : Addr) (h0 : Heap) (n0 : Nat) (v : Option Value) (h : Heap) (L : List Loc) : Prop := v = none ∧ Fr n0 L ∧ h = h0
set_option maxRecDepth 65536 in
set_option maxHeartbeats 40000000 in
theorem rm_fi (l : Launch) (Z : State) (a0 : Array Value) (hw : ∀ d ∈ tables_1, d.before a0 Z = true) (ws : List Jvm.Cond) (a1 : Addr) (h0 : Heap) (n0 : Nat) (Z0 : n0 ≤ h0.size) (A1 : own_AV Z h0 a1 .int (own_is [])) :
    MetFree l own_y5 (head1 (Jvm.Cond.code own_y5 jdk_65_method_103_code 4 none :: ws) ({ frames := 0, cells := 0, slots := 0, locals := 0 } : Room)) (fun a U => a = #[(.ref a1), (.int (-1 : Int32))] ∧ Z.Warmed39 U.vm ∧ U.heap = h0) (fun _ _ _ _ _ => True) (fun _ U o U' => ∃ v L, o = .returned v ∧ Qrm_fi Z a1 h0 n0 v U'.heap L ∧ FrameEnd U o U' L ({ frames := 0, cells := 0, slots := 0, locals := 0 } : Room).cells ({ frames := 0, cells := 0, slots := 0, locals := 0 } : Room).slots) := by
  refine MetFree.of_bodySF (plainFor_of_name pn_java_util_Arrays) hisR ?_
  intro p e s m args below meth c s₁ Bd hml0 hP hK
  obtain ⟨rfl, hZ, hh⟩ := hP
  have hx := Bd.exec
  have hby := Bd.bytes
  have hml : c.maxLocals = 4 := hml0
  have hown : s.vm.findClass "java/util/Arrays" = some m.cls := findClass_of_methodNamed Bd.named
  have hnm := (name_of_methodNamed Bd.named Bd.method).1
  have X0 : Stand p l e ({ frames := 0, cells := 0, slots := 0, locals := 0 } : Room) s m #[(.ref a1), (.int (-1 : Int32))] below meth c s₁ [] 0 0 := Stand.of_body Bd
  have e0 : s₁.heap = h0 := by rw [← hh, Bd.state]; rfl
  have N0 := Fr.nil n0
  have K0 : Keep h0 h0 [] := Keep.refl _ _
  clear K0
  refine own_start (Qk := Qrm_fi Z a1 h0 n0) (fun G hG => ?_)
  refine own_st (fun _ k => castTop (ef_13_RI m a1 (-1 : Int32)) k) ?_
  show own_Fin p e below G (s₁.setTop (mkF m 0 #[rv a1, iv (-1 : Int32), .unset, .unset] []))
  refine own_st (fun _ k => XS.iconst X0.here hx rfl (hb hby d13_0) k) ?_
  show own_Fin p e below G (s₁.setTop (mkF m 1 #[rv a1, iv (-1 : Int32), .unset, .unset] [(.int (0 : Int32))]))
  refine own_st (fun _ k => XS.istoreN X0.here hx rfl (hb hby d13_1) rfl (l' := #[rv a1, iv (-1 : Int32), iv (0 : Int32), .unset]) rfl k) ?_
  show own_Fin p e below G (s₁.setTop (mkF m 2 #[rv a1, iv (-1 : Int32), iv (0 : Int32), .unset] []))
  refine own_st (fun _ k => XS.aloadN X0.here hx rfl (hb hby d13_2) rfl rfl k) ?_
  show own_Fin p e below G (s₁.setTop (mkF m 3 #[rv a1, iv (-1 : Int32), iv (0 : Int32), .unset] [(.ref a1)]))
  refine own_st (fun _ k => own_len X0 hx hZ e0 A1 (z := (0 : Int32)) rfl (g := (mkF m 3 #[rv a1, iv (-1 : Int32), iv (0 : Int32), .unset] [(.ref a1)])) rfl rfl (hb hby d13_3) k) ?_
  clear A1
  show own_Fin p e below G (s₁.setTop (mkF m 4 #[rv a1, iv (-1 : Int32), iv (0 : Int32), .unset] [(.int (0 : Int32))]))
  refine own_st (fun _ k => XS.istoreN X0.here hx rfl (hb hby d13_4) rfl (l' := #[rv a1, iv (-1 : Int32), iv (0 : Int32), iv (0 : Int32)]) rfl k) ?_
  show own_Fin p e below G (s₁.setTop (mkF m 5 #[rv a1, iv (-1 : Int32), iv (0 : Int32), iv (0 : Int32)] []))
  refine own_st (fun _ k => XS.iloadN X0.here hx rfl (hb hby d13_5) rfl  k) ?_
  show own_Fin p e below G (s₁.setTop (mkF m 6 #[rv a1, iv (-1 : Int32), iv (0 : Int32), iv (0 : Int32)] [(.int (0 : Int32))]))
  refine own_st (fun _ k => XS.iloadN X0.here hx rfl (hb hby d13_6) rfl  k) ?_
  show own_Fin p e below G (s₁.setTop (mkF m 7 #[rv a1, iv (-1 : Int32), iv (0 : Int32), iv (0 : Int32)] [(.int (0 : Int32)), (.int (0 : Int32))]))
  refine own_st (fun _ k => XS.icmpYes X0.here hx rfl (pc0 := 7) (pc' := 20) rfl (hb hby d13_7) rfl (flt (by decide : ¬ ((0 : Int32) < (0 : Int32)))).2.1 (by decide) (by decide) k) ?_
  show own_Fin p e below G (s₁.setTop (mkF m 20 #[rv a1, iv (-1 : Int32), iv (0 : Int32), iv (0 : Int32)] []))
  refine own_out X0 Bd.notSynchronized (v := none) (fun _ => rfl) hG (fun fs hr => X0.returnOut hx Bd.returns (hb hby d13_20) hr) (by decide) (by decide) ?_
  exact ⟨rfl, N0, e0⟩

theorem d11_0 : decode jdk_38_method_6_code 0 = .ok (.aload_n 0, 1) := by decide +kernel
theorem d11_1 : decode jdk_38_method_6_code 1 = .ok (.getfield 9, 3) := by decide +kernel
theorem d11_4 : decode jdk_38_method_6_code 4 = .ok (.arraylength, 1) := by decide +kernel
theorem d11_5 : decode jdk_38_method_6_code 5 = .ok (.istore_n 2, 1) := by decide +kernel
theorem d11_6 : decode jdk_38_method_6_code 6 = .ok (.iload_n 2, 1) := by decide +kernel
theorem d11_7 : decode jdk_38_method_6_code 7 = .ok (.ifCond .gt 13, 3) := by decide +kernel
theorem d11_10 : decode jdk_38_method_6_code 10 = .ok (.aload_n 0, 1) := by decide +kernel
theorem d11_11 : decode jdk_38_method_6_code 11 = .ok (.getfield 9, 3) := by decide +kernel
theorem d11_14 : decode jdk_38_method_6_code 14 = .ok (.getstatic 39, 3) := by decide +kernel
theorem d11_17 : decode jdk_38_method_6_code 17 = .ok (.if_acmp .eq 28, 3) := by decide +kernel
theorem d11_45 : decode jdk_38_method_6_code 45 = .ok (.aload_n 0, 1) := by decide +kernel
theorem d11_46 : decode jdk_38_method_6_code 46 = .ok (.bipush 10, 2) := by decide +kernel
theorem d11_48 : decode jdk_38_method_6_code 48 = .ok (.iload_n 1, 1) := by decide +kernel
theorem d11_49 : decode jdk_38_method_6_code 49 = .ok (.invokestatic 79, 3) := by decide +kernel
theorem pd__II_I_300 : parseMethodDescriptor "(II)I" = some ⟨[.int, .int], some .int⟩ := by decide +kernel
theorem d11_52 : decode jdk_38_method_6_code 52 = .ok (.anewarray 7, 3) := by decide +kernel
theorem d11_55 : decode jdk_38_method_6_code 55 = .ok (.dup_x1, 1) := by decide +kernel
theorem d11_56 : decode jdk_38_method_6_code 56 = .ok (.putfield 9, 3) := by decide +kernel
theorem d11_59 : decode jdk_38_method_6_code 59 = .ok (.areturn, 1) := by decide +kernel
theorem ef_11_RI (m : MethodId) (x0 : Addr) (x1 : Int32) : entryFrame m #[(.ref x0), (.int x1)] 4 = mkF m 0 #[rv x0, iv x1, .unset, .unset] [] := by first | (simp [entryFrame, mkF, argsToLocals, Value.category]; done) | rfl
def Qrm_gri (Z : State) (a1 : Addr) (ed : Addr) (ke : ClassId) (h0 : Heap) (n0 : Nat) (v : Option Value) (h : Heap) (L : List Loc) : Prop := ∃ (b : Addr) (kb : ClassId), v = some (.ref b) ∧ Fr n0 L ∧ Keep h0 h [a1] ∧ h0.size ≤ b ∧ Fld Z h a1 "java/util/AbstractList" "modCount" "I" (.int (1 : Int32)) ∧ Fld Z h a1 "java/util/ArrayList" "elementData" "[Ljava/lang/Object;" (.ref b) ∧ Fld Z h a1 "java/util/ArrayList" "size" "I" (.int (0 : Int32)) ∧ own_AVk Z h b kb (.object "java/lang/Object") [.null, .null, .null, .null, .null, .null, .null, .null, .null, .null] ∧ Ovr Z kb "java/lang/Object"
set_option maxRecDepth 65536 in
set_option maxHeartbeats 40000000 in
theorem rm_gri (l : Launch) (Z : State) (a0 : Array Value) (hw : ∀ d ∈ tables_1, d.before a0 Z = true) (ws : List Jvm.Cond) (a1 : Addr) (ed : Addr) (ke : ClassId) (h0 : Heap) (n0 : Nat) (Z0 : n0 ≤ h0.size) (E1 : Exa Z h0 a1 "java/util/ArrayList") (F10 : Fld Z h0 a1 "java/util/AbstractList" "modCount" "I" (.int (1 : Int32))) (F11 : Fld Z h0 a1 "java/util/ArrayList" "elementData" "[Ljava/lang/Object;" (.ref ed)) (F12 : Fld Z h0 a1 "java/util/ArrayList" "size" "I" (.int (0 : Int32))) (g1 : n0 ≤ a1) (Sed : Sta Z h0 "java/util/ArrayList" "DEFAULTCAPACITY_EMPTY_ELEMENTDATA" "[Ljava/lang/Object;" (.ref ed)) (Bed : own_AVk Z h0 ed ke (.object "java/lang/Object") []) (ned : ed ≠ a1) :
    MetFree l own_y6 (head1 (Jvm.Cond.code own_y6 jdk_38_method_6_code 4 (some (.array (.object "java/lang/Object"))) :: ws) ({ frames := 1, cells := 1, slots := 10, locals := 14 } : Room)) (fun a U => a = #[(.ref a1), (.int (1 : Int32))] ∧ Z.Warmed39 U.vm ∧ U.heap = h0) (fun _ _ _ _ _ => True) (fun _ U o U' => ∃ v L, o = .returned v ∧ Qrm_gri Z a1 ed ke h0 n0 v U'.heap L ∧ FrameEnd U o U' L ({ frames := 1, cells := 1, slots := 10, locals := 14 } : Room).cells ({ frames := 1, cells := 1, slots := 10, locals := 14 } : Room).slots) := by
  refine MetFree.of_bodySF (plainFor_of_name pn_java_util_ArrayList) hisR ?_
  intro p e s m args below meth c s₁ Bd hml0 hP hK
  obtain ⟨rfl, hZ, hh⟩ := hP
  have hx := Bd.exec
  have hby := Bd.bytes
  have hml : c.maxLocals = 4 := hml0
  have hown : s.vm.findClass "java/util/ArrayList" = some m.cls := findClass_of_methodNamed Bd.named
  have hnm := (name_of_methodNamed Bd.named Bd.method).1
  have X0 : Stand p l e ({ frames := 1, cells := 1, slots := 10, locals := 14 } : Room) s m #[(.ref a1), (.int (1 : Int32))] below meth c s₁ [] 0 0 := Stand.of_body Bd
  have e0 : s₁.heap = h0 := by rw [← hh, Bd.state]; rfl
  have N0 := Fr.nil n0
  have K0 : Keep h0 h0 [a1] := Keep.refl _ _
  refine own_start (Qk := Qrm_gri Z a1 ed ke h0 n0) (fun G hG => ?_)
  refine own_st (fun _ k => castTop (ef_11_RI m a1 (1 : Int32)) k) ?_
  show own_Fin p e below G (s₁.setTop (mkF m 0 #[rv a1, iv (1 : Int32), .unset, .unset] []))
  refine own_st (fun _ k => XS.aloadN X0.here hx rfl (hb hby d11_0) rfl rfl k) ?_
  show own_Fin p e below G (s₁.setTop (mkF m 1 #[rv a1, iv (1 : Int32), .unset, .unset] [(.ref a1)]))
  obtain ⟨T59, X59, e59, st59⟩ := getF X0 hx hZ hown (host := "") (Or.inl (own_w hw 42 rfl)) Via.refl e0 F11 (g := (mkF m 1 #[rv a1, iv (1 : Int32), .unset, .unset] [(.ref a1)])) rfl rfl (hb hby d11_1)
  clear X0 e0
  refine own_st st59 ?_
  clear st59
  show own_Fin p e below G (T59.setTop (mkF m 4 #[rv a1, iv (1 : Int32), .unset, .unset] [(.ref ed)]))
  refine own_st (fun _ k => own_len X59 hx hZ e59 Bed.av (z := (0 : Int32)) rfl (g := (mkF m 4 #[rv a1, iv (1 : Int32), .unset, .unset] [(.ref ed)])) rfl rfl (hb hby d11_4) k) ?_
  show own_Fin p e below G (T59.setTop (mkF m 5 #[rv a1, iv (1 : Int32), .unset, .unset] [(.int (0 : Int32))]))
  refine own_st (fun _ k => XS.istoreN X59.here hx rfl (hb hby d11_5) rfl (l' := #[rv a1, iv (1 : Int32), iv (0 : Int32), .unset]) rfl k) ?_
  show own_Fin p e below G (T59.setTop (mkF m 6 #[rv a1, iv (1 : Int32), iv (0 : Int32), .unset] []))
  refine own_st (fun _ k => XS.iloadN X59.here hx rfl (hb hby d11_6) rfl  k) ?_
  show own_Fin p e below G (T59.setTop (mkF m 7 #[rv a1, iv (1 : Int32), iv (0 : Int32), .unset] [(.int (0 : Int32))]))
  refine own_st (fun _ k => XS.ifNo X59.here hx rfl (hb hby d11_7) rfl ((if0 _ _).trans (flt (by decide : ¬ ((0 : Int32) < (0 : Int32)))).2.2.1) k) ?_
  show own_Fin p e below G (T59.setTop (mkF m 10 #[rv a1, iv (1 : Int32), iv (0 : Int32), .unset] []))
  refine own_st (fun _ k => XS.aloadN X59.here hx rfl (hb hby d11_10) rfl rfl k) ?_
  show own_Fin p e below G (T59.setTop (mkF m 11 #[rv a1, iv (1 : Int32), iv (0 : Int32), .unset] [(.ref a1)]))
  obtain ⟨T60, X60, e60, st60⟩ := getF X59 hx hZ hown (host := "") (Or.inl (own_w hw 42 rfl)) Via.refl e59 F11 (g := (mkF m 11 #[rv a1, iv (1 : Int32), iv (0 : Int32), .unset] [(.ref a1)])) rfl rfl (hb hby d11_11)
  clear X59 e59
  refine own_st st60 ?_
  clear st60
  show own_Fin p e below G (T60.setTop (mkF m 14 #[rv a1, iv (1 : Int32), iv (0 : Int32), .unset] [(.ref ed)]))
  obtain ⟨T61, X61, e61, st61⟩ := getS2 X60 hx hZ hown (host := "") (Or.inl (own_w hw 41 rfl)) Via.refl e60 Sed (g := (mkF m 14 #[rv a1, iv (1 : Int32), iv (0 : Int32), .unset] [(.ref ed)])) rfl (hb hby d11_14)
  clear X60 e60
  refine own_st st61 ?_
  clear st61
  show own_Fin p e below G (T61.setTop (mkF m 17 #[rv a1, iv (1 : Int32), iv (0 : Int32), .unset] [(.ref ed), (.ref ed)]))
  refine own_st (fun _ k => Jvm.RoadKit.acmp (g := (mkF m 17 #[rv a1, iv (1 : Int32), iv (0 : Int32), .unset] [(.ref ed), (.ref ed)])) X61 hx rfl rfl rfl (pc0 := 17) (pc' := 45) (same := true) rfl (hb hby d11_17) rfl (decide_eq_true rfl) (by decide) (by decide) k) ?_
  show own_Fin p e below G (T61.setTop (mkF m 45 #[rv a1, iv (1 : Int32), iv (0 : Int32), .unset] []))
  refine own_st (fun _ k => XS.aloadN X61.here hx rfl (hb hby d11_45) rfl rfl k) ?_
  show own_Fin p e below G (T61.setTop (mkF m 46 #[rv a1, iv (1 : Int32), iv (0 : Int32), .unset] [(.ref a1)]))
  refine own_st (fun _ k => XS.bipush X61.here hx rfl (hb hby d11_46) k) ?_
  show own_Fin p e below G (T61.setTop (mkF m 48 #[rv a1, iv (1 : Int32), iv (0 : Int32), .unset] [(.int (10 : Int32)), (.ref a1)]))
  refine own_st (fun _ k => XS.iloadN X61.here hx rfl (hb hby d11_48) rfl  k) ?_
  show own_Fin p e below G (T61.setTop (mkF m 49 #[rv a1, iv (1 : Int32), iv (0 : Int32), .unset] [(.int (1 : Int32)), (.int (10 : Int32)), (.ref a1)]))
  obtain ⟨_, _, ⟨T62, L62, k62, n62⟩, -, X62, ⟨Lc62, hQ62, l62, y62, z62⟩, st62⟩ := Jvm.LawKit.callS X61 hx (y := own_y0) hown (mvT hZ (own_w hw 90 rfl)) (mvT hZ (own_w hw 91 rfl)) (mvT hZ (own_w hw 92 rfl)) (mvT hZ (own_w hw 93 rfl)) (by decide) (backOf (W := 1) (rm_max l Z a0 hw []  h0 n0 (Nat.le_trans Z0 K0.1) ) hZ (own_w hw 93 rfl) (own_w hw 92 rfl) (by decide) (by decide)) (g := (mkF m 49 #[rv a1, iv (1 : Int32), iv (0 : Int32), .unset] [(.int (1 : Int32)), (.int (10 : Int32)), (.ref a1)])) rfl (by rw [hml]; rfl) (argsL := [(.int (10 : Int32)), (.int (1 : Int32))]) (rest := [(.ref a1)]) (lenOf pd__II_I_300 rfl) rfl (by show 2 * 0 + _ ≤ _; exact Nat.le_of_eq rfl) (hb hby d11_49) (fun _ _ => ⟨rfl, e61, (by decide : 0 + 0 ≤ _), (by decide : 0 + 0 ≤ _)⟩)
  clear X61 e61
  dsimp only [Pt.U, Pt.locs, Pt.cells, Pt.slots] at X62 l62 y62 z62 st62 hQ62
  subst l62 y62 z62
  obtain ⟨rfl, N62q, e62⟩ := hQ62
  skip
  have N62 := Fr.app N0 N62q
  clear N0 N62q
  refine own_st st62 ?_
  clear st62
  show own_Fin p e below G (T62.setTop (mkF m 52 #[rv a1, iv (1 : Int32), iv (0 : Int32), .unset] [(.int (10 : Int32)), (.ref a1)]))
  obtain ⟨T63, h63, k63, X63, e63, E63, A63, O63, st63⟩ := newR X62 hx hZ hown (own_w hw 94 rfl) (own_w hw 95 rfl) e62 (g := (mkF m 52 #[rv a1, iv (1 : Int32), iv (0 : Int32), .unset] [(.int (10 : Int32)), (.ref a1)])) rfl (hb hby d11_52) rfl (by decide) (cap := 10) (by decide) (by decide) (by decide) (by decide)
  clear X62 e62
  obtain ⟨b63, g63⟩ : ∃ z, z = h0.size := ⟨_, rfl⟩
  rw [← g63] at A63 st63
  have ne_a1_b63 : a1 ≠ b63 := Nat.ne_of_lt (Nat.lt_of_lt_of_le E1.lt (Nat.le_of_eq g63.symm))
  have ne_ed_b63 : ed ≠ b63 := Nat.ne_of_lt (Nat.lt_of_lt_of_le Bed.lt (Nat.le_of_eq g63.symm))
  have sz_b63 : h0.size ≤ b63 := Nat.le_trans K0.1 (Nat.le_of_eq g63.symm)
  have g_b63 : n0 ≤ b63 := Nat.le_trans Z0 sz_b63
  have f64_0 := E1.ext E63
  clear E1
  have f64_1 := F10.ext E63
  have f64_2 := F11.ext E63
  have f64_3 := F12.ext E63
  have f64_4 := Sed.ext E63
  have f64_5 := Bed.ext E63
  have K65 : Keep h0 h63 [a1] := K0.ext E63
  clear K0 E63
  have V63 : own_AVk Z h63 b63 k63 (.object "java/lang/Object") [.null, .null, .null, .null, .null, .null, .null, .null, .null, .null] := own_AVk_new A63
  clear A63
  refine own_st st63 ?_
  clear st63
  show own_Fin p e below G (T63.setTop (mkF m 55 #[rv a1, iv (1 : Int32), iv (0 : Int32), .unset] [(.ref b63), (.ref a1)]))
  refine own_st (fun _ k => XS.dupX1 X63.here hx rfl (hb hby d11_55) rfl rfl rfl k) ?_
  show own_Fin p e below G (T63.setTop (mkF m 56 #[rv a1, iv (1 : Int32), iv (0 : Int32), .unset] [(.ref b63), (.ref a1), (.ref b63)]))
  obtain ⟨T66, h66, X66, e66, W66, st66⟩ := putF X63 hx hZ hown (host := "") (Or.inl (own_w hw 42 rfl)) Via.refl e63 f64_2 f64_0 (Or.inl (own_w hw 43 rfl)) (own_w hw 21 rfl) (ty := (.array (.object "java/lang/Object"))) (by decide) rfl rfl (g := (mkF m 56 #[rv a1, iv (1 : Int32), iv (0 : Int32), .unset] [(.ref b63), (.ref a1), (.ref b63)])) rfl rfl (hb hby d11_56)
  clear X63 e63
  have f67_0 := f64_0.wr W66
  clear f64_0 f67_0
  have sl68 := slot_ne (Z := Z) (a0 := a0) (Or.inl (own_w hw 40 rfl)) (Or.inl (own_w hw 43 rfl)) (by decide) (t := .int) (t' := (.array (.object "java/lang/Object"))) (by decide) (by decide)
  have f67_1 := f64_1.other W66 (Or.inr sl68)
  clear f64_1
  have sl69 := slot_ne (Z := Z) (a0 := a0) (Or.inl (own_w hw 74 rfl)) (Or.inl (own_w hw 43 rfl)) (by decide) (t := .int) (t' := (.array (.object "java/lang/Object"))) (by decide) (by decide)
  have f67_3 := f64_3.other W66 (Or.inr sl69)
  clear f64_3
  have f67_4 := f64_4.wr W66
  clear f64_4 f67_4
  have f67_5 := f64_5.other W66 ned
  clear f64_5 f67_5
  have f67_6 := V63.other W66 (Ne.symm ne_a1_b63)
  clear V63
  have K70 : Keep h0 h66 [a1] := K65.wr W66 (Or.inl (List.mem_of_getElem? (i := 0) rfl))
  clear K65
  have N71 := Fr.snoc X66 N62 g1
  clear N62
  have Fw66 : Fld Z h66 a1 "java/util/ArrayList" "elementData" "[Ljava/lang/Object;" (.ref b63) := f64_2.same W66
  clear f64_2 W66
  refine own_st st66 ?_
  clear st66
  show own_Fin p e below G (T66.setTop (mkF m 59 #[rv a1, iv (1 : Int32), iv (0 : Int32), .unset] [(.ref b63)]))
  refine own_out X66 Bd.notSynchronized (v := (some (.ref b63))) (fun h => by rw [Bd.returns] at h; cases h) hG (fun fs hr => retOut X66 hx Bd.returns rfl (Or.inr (Or.inr (Or.inr (Or.inr ⟨rfl, rfl, rfl⟩)))) (hb hby d11_59) hr) (by decide) (by decide) ?_
  exact ⟨b63, k63, rfl, N71, e66.symm ▸ K70, sz_b63, e66.symm ▸ f67_1, e66.symm ▸ Fw66, e66.symm ▸ f67_3, e66.symm ▸ f67_6, O63⟩

theorem d10_0 : decode jdk_38_method_7_code 0 = .ok (.aload_n 0, 1) := by decide +kernel
theorem d10_1 : decode jdk_38_method_7_code 1 = .ok (.aload_n 0, 1) := by decide +kernel
theorem d10_2 : decode jdk_38_method_7_code 2 = .ok (.getfield 48, 3) := by decide +kernel
theorem d10_5 : decode jdk_38_method_7_code 5 = .ok (.iconst 1, 1) := by decide +kernel
theorem d10_6 : decode jdk_38_method_7_code 6 = .ok (.iadd, 1) := by decide +kernel
theorem d10_7 : decode jdk_38_method_7_code 7 = .ok (.invokevirtual 69, 3) := by decide +kernel
theorem pd__I__Ljava_lang_Object__912 : parseMethodDescriptor "(I)[Ljava/lang/Object;" = some ⟨[.int], some (.array (.object "java/lang/Object"))⟩ := by decide +kernel
theorem d10_10 : decode jdk_38_method_7_code 10 = .ok (.areturn, 1) := by decide +kernel
theorem ef_10_R (m : MethodId) (x0 : Addr) : entryFrame m #[(.ref x0)] 1 = mkF m 0 #[rv x0] [] := by first | (simp [entryFrame, mkF, argsToLocals, Value.category]; done) | rfl
def Qrm_gr (Z : State) (a1 : Addr) (ed : Addr) (ke : ClassId) (h0 : Heap) (n0 : Nat) (v : Option Value) (h : Heap) (L : List Loc) : Prop := ∃ (b : Addr) (kb : ClassId), v = some (.ref b) ∧ Fr n0 L ∧ Keep h0 h [a1] ∧ h0.size ≤ b ∧ Fld Z h a1 "java/util/AbstractList" "modCount" "I" (.int (1 : Int32)) ∧ Fld Z h a1 "java/util/ArrayList" "elementData" "[Ljava/lang/Object;" (.ref b) ∧ Fld Z h a1 "java/util/ArrayList" "size" "I" (.int (0 : Int32)) ∧ own_AVk Z h b kb (.object "java/lang/Object") [.null, .null, .null, .null, .null, .null, .null, .null, .null, .null] ∧ Ovr Z kb "java/lang/Object"
set_option maxRecDepth 65536 in
set_option maxHeartbeats 40000000 in
theorem rm_gr (l : Launch) (Z : State) (a0 : Array Value) (hw : ∀ d ∈ tables_1, d.before a0 Z = true) (ws : List Jvm.Cond) (a1 : Addr) (ed : Addr) (ke : ClassId) (h0 : Heap) (n0 : Nat) (Z0 : n0 ≤ h0.size) (E1 : Exa Z h0 a1 "java/util/ArrayList") (F10 : Fld Z h0 a1 "java/util/AbstractList" "modCount" "I" (.int (1 : Int32))) (F11 : Fld Z h0 a1 "java/util/ArrayList" "elementData" "[Ljava/lang/Object;" (.ref ed)) (F12 : Fld Z h0 a1 "java/util/ArrayList" "size" "I" (.int (0 : Int32))) (g1 : n0 ≤ a1) (Sed : Sta Z h0 "java/util/ArrayList" "DEFAULTCAPACITY_EMPTY_ELEMENTDATA" "[Ljava/lang/Object;" (.ref ed)) (Bed : own_AVk Z h0 ed ke (.object "java/lang/Object") []) (ned : ed ≠ a1) :
    MetFree l own_y7 (head1 (Jvm.Cond.code own_y7 jdk_38_method_7_code 1 (some (.array (.object "java/lang/Object"))) :: ws) ({ frames := 2, cells := 1, slots := 10, locals := 29 } : Room)) (fun a U => a = #[(.ref a1)] ∧ Z.Warmed39 U.vm ∧ U.heap = h0) (fun _ _ _ _ _ => True) (fun _ U o U' => ∃ v L, o = .returned v ∧ Qrm_gr Z a1 ed ke h0 n0 v U'.heap L ∧ FrameEnd U o U' L ({ frames := 2, cells := 1, slots := 10, locals := 29 } : Room).cells ({ frames := 2, cells := 1, slots := 10, locals := 29 } : Room).slots) := by
  refine MetFree.of_bodySF (plainFor_of_name pn_java_util_ArrayList) hisR ?_
  intro p e s m args below meth c s₁ Bd hml0 hP hK
  obtain ⟨rfl, hZ, hh⟩ := hP
  have hx := Bd.exec
  have hby := Bd.bytes
  have hml : c.maxLocals = 1 := hml0
  have hown : s.vm.findClass "java/util/ArrayList" = some m.cls := findClass_of_methodNamed Bd.named
  have hnm := (name_of_methodNamed Bd.named Bd.method).1
  have X0 : Stand p l e ({ frames := 2, cells := 1, slots := 10, locals := 29 } : Room) s m #[(.ref a1)] below meth c s₁ [] 0 0 := Stand.of_body Bd
  have e0 : s₁.heap = h0 := by rw [← hh, Bd.state]; rfl
  have N0 := Fr.nil n0
  have K0 : Keep h0 h0 [a1] := Keep.refl _ _
  refine own_start (Qk := Qrm_gr Z a1 ed ke h0 n0) (fun G hG => ?_)
  refine own_st (fun _ k => castTop (ef_10_R m a1) k) ?_
  show own_Fin p e below G (s₁.setTop (mkF m 0 #[rv a1] []))
  refine own_st (fun _ k => XS.aloadN X0.here hx rfl (hb hby d10_0) rfl rfl k) ?_
  show own_Fin p e below G (s₁.setTop (mkF m 1 #[rv a1] [(.ref a1)]))
  refine own_st (fun _ k => XS.aloadN X0.here hx rfl (hb hby d10_1) rfl rfl k) ?_
  show own_Fin p e below G (s₁.setTop (mkF m 2 #[rv a1] [(.ref a1), (.ref a1)]))
  obtain ⟨T72, X72, e72, st72⟩ := getF X0 hx hZ hown (host := "") (Or.inl (own_w hw 73 rfl)) Via.refl e0 F12 (g := (mkF m 2 #[rv a1] [(.ref a1), (.ref a1)])) rfl rfl (hb hby d10_2)
  clear X0 e0
  refine own_st st72 ?_
  clear st72
  show own_Fin p e below G (T72.setTop (mkF m 5 #[rv a1] [(.int (0 : Int32)), (.ref a1)]))
  refine own_st (fun _ k => XS.iconst X72.here hx rfl (hb hby d10_5) k) ?_
  show own_Fin p e below G (T72.setTop (mkF m 6 #[rv a1] [(.int (1 : Int32)), (.int (0 : Int32)), (.ref a1)]))
  refine own_st (fun _ k => XS.iadd X72.here hx rfl (hb hby d10_6) rfl k) ?_
  show own_Fin p e below G (T72.setTop (mkF m 7 #[rv a1] [(.int (1 : Int32)), (.ref a1)]))
  obtain ⟨cq73, q73, q73'⟩ := E1.cell
  obtain ⟨_, _, ⟨T73, L73, k73, n73⟩, -, X73, ⟨Lc73, hQ73, l73, y73, z73⟩, st73⟩ := X72.privateBack hx (y := own_y6) hown (mvT hZ (own_w hw 85 rfl)) (mvT hZ (own_w hw 86 rfl)) (mvT hZ (own_w hw 88 rfl)) (Cond.privateMethod_at (mvP hZ (own_w hw 87 rfl) (args := #[]))) (mvT hZ (own_w hw 89 rfl)) (by decide) (backOf (W := 0) (rm_gri l Z a0 hw [] a1 ed ke h0 n0 (Nat.le_trans Z0 K0.1) E1 F10 F11 F12 g1 Sed Bed ned) hZ (own_w hw 89 rfl) (own_w hw 22 rfl) (by decide) (by decide)) (g := (mkF m 7 #[rv a1] [(.int (1 : Int32)), (.ref a1)])) rfl (by rw [hml]; rfl) (Steps.refl _) (a := a1) (by rw [e72]; exact q73) q73' (argsL := [(.int (1 : Int32))]) (rest := []) (lenOf pd__I__Ljava_lang_Object__912 rfl) rfl (by show 2 * 0 + _ ≤ _; exact Nat.le_of_eq rfl) (hb hby d10_7) (fun _ _ => ⟨rfl, e72, (by decide : 0 + 1 ≤ _), (by decide : 0 + 10 ≤ _)⟩)
  clear X72 e72
  dsimp only [Pt.U, Pt.locs, Pt.cells, Pt.slots] at X73 l73 y73 z73 st73 hQ73
  subst l73 y73 z73
  obtain ⟨gb73, gk73, hQ73⟩ := hQ73
  have lt73 := E1.lt
  obtain ⟨rfl, N73q, Kc73, gz73, gL73_0, gL73_1, gL73_2, gB73, gO73⟩ := hQ73
  have N73 := Fr.app N0 N73q
  clear N0 N73q
  have f74_0 := E1.keep Kc73
  clear f74_0
  have f74_4 := own_Sta_keep Sed Kc73 (allS E1.cell all0)
  clear f74_4
  have f74_5 := Bed.keep Kc73 (ninS ned nin0)
  clear f74_5
  have K75 : Keep h0 T73.heap [a1] := K0.trans Kc73 (allS (Or.inl (List.mem_of_getElem? (i := 0) rfl)) all0)
  clear Kc73
  have ne_a1_gb73 : a1 ≠ gb73 := Nat.ne_of_lt (Nat.lt_of_lt_of_le E1.lt gz73)
  clear E1
  have ne_ed_gb73 : ed ≠ gb73 := Nat.ne_of_lt (Nat.lt_of_lt_of_le Bed.lt gz73)
  have sz_gb73 : h0.size ≤ gb73 := Nat.le_trans K0.1 gz73
  clear K0
  have g_gb73 : n0 ≤ gb73 := Nat.le_trans Z0 sz_gb73
  refine own_tr st73 ?_
  clear st73
  show own_Fin p e below G (T73.setTop (mkF m 10 #[rv a1] [(.ref gb73)]))
  refine own_out X73 Bd.notSynchronized (v := (some (.ref gb73))) (fun h => by rw [Bd.returns] at h; cases h) hG (fun fs hr => retOut X73 hx Bd.returns rfl (Or.inr (Or.inr (Or.inr (Or.inr ⟨rfl, rfl, rfl⟩)))) (hb hby d10_10) hr) (by decide) (by decide) ?_
  exact ⟨gb73, gk73, rfl, N73, K75, sz_gb73, gL73_0, gL73_1, gL73_2, gB73, gO73⟩

theorem d9_0 : decode jdk_38_method_24_code 0 = .ok (.iload_n 3, 1) := by decide +kernel
theorem d9_1 : decode jdk_38_method_24_code 1 = .ok (.aload_n 2, 1) := by decide +kernel
theorem d9_2 : decode jdk_38_method_24_code 2 = .ok (.arraylength, 1) := by decide +kernel
theorem d9_3 : decode jdk_38_method_24_code 3 = .ok (.if_icmp .ne 8, 3) := by decide +kernel
theorem d9_6 : decode jdk_38_method_24_code 6 = .ok (.aload_n 0, 1) := by decide +kernel
theorem d9_7 : decode jdk_38_method_24_code 7 = .ok (.invokevirtual 129, 3) := by decide +kernel
theorem pd____Ljava_lang_Object__839 : parseMethodDescriptor "()[Ljava/lang/Object;" = some ⟨[], some (.array (.object "java/lang/Object"))⟩ := by decide +kernel
theorem d9_10 : decode jdk_38_method_24_code 10 = .ok (.astore_n 2, 1) := by decide +kernel
theorem d9_11 : decode jdk_38_method_24_code 11 = .ok (.aload_n 2, 1) := by decide +kernel
theorem d9_12 : decode jdk_38_method_24_code 12 = .ok (.iload_n 3, 1) := by decide +kernel
theorem d9_13 : decode jdk_38_method_24_code 13 = .ok (.aload_n 1, 1) := by decide +kernel
theorem d9_14 : decode jdk_38_method_24_code 14 = .ok (.aastore, 1) := by decide +kernel
theorem d9_15 : decode jdk_38_method_24_code 15 = .ok (.aload_n 0, 1) := by decide +kernel
theorem d9_16 : decode jdk_38_method_24_code 16 = .ok (.iload_n 3, 1) := by decide +kernel
theorem d9_17 : decode jdk_38_method_24_code 17 = .ok (.iconst 1, 1) := by decide +kernel
theorem d9_18 : decode jdk_38_method_24_code 18 = .ok (.iadd, 1) := by decide +kernel
theorem d9_19 : decode jdk_38_method_24_code 19 = .ok (.putfield 48, 3) := by decide +kernel
theorem d9_22 : decode jdk_38_method_24_code 22 = .ok (.return_, 1) := by decide +kernel
theorem ef_9_RRRI (m : MethodId) (x0 : Addr) (x1 : Addr) (x2 : Addr) (x3 : Int32) : entryFrame m #[(.ref x0), (.ref x1), (.ref x2), (.int x3)] 4 = mkF m 0 #[rv x0, rv x1, rv x2, iv x3] [] := by first | (simp [entryFrame, mkF, argsToLocals, Value.category]; done) | rfl
def Qrm_ap0 (Z : State) (a1 : Addr) (a2 : Addr) (ed : Addr) (ke : ClassId) (h0 : Heap) (n0 : Nat) (v : Option Value) (h : Heap) (L : List Loc) : Prop := ∃ (b : Addr) (kb : ClassId), v = none ∧ Fr n0 L ∧ Keep h0 h [a1] ∧ h0.size ≤ b ∧ Fld Z h a1 "java/util/AbstractList" "modCount" "I" (.int (1 : Int32)) ∧ Fld Z h a1 "java/util/ArrayList" "elementData" "[Ljava/lang/Object;" (.ref b) ∧ Fld Z h a1 "java/util/ArrayList" "size" "I" (.int (1 : Int32)) ∧ own_AVk Z h b kb (.object "java/lang/Object") [(.ref a2), .null, .null, .null, .null, .null, .null, .null, .null, .null] ∧ Ovr Z kb "java/lang/Object"
set_option maxRecDepth 65536 in
set_option maxHeartbeats 40000000 in
theorem rm_ap0 (l : Launch) (Z : State) (a0 : Array Value) (hw : ∀ d ∈ tables_1, d.before a0 Z = true) (ws : List Jvm.Cond) (a1 : Addr) (a2 : Addr) (ed : Addr) (ke : ClassId) (h0 : Heap) (n0 : Nat) (Z0 : n0 ≤ h0.size) (E1 : Exa Z h0 a1 "java/util/ArrayList") (F10 : Fld Z h0 a1 "java/util/AbstractList" "modCount" "I" (.int (1 : Int32))) (F11 : Fld Z h0 a1 "java/util/ArrayList" "elementData" "[Ljava/lang/Object;" (.ref ed)) (F12 : Fld Z h0 a1 "java/util/ArrayList" "size" "I" (.int (0 : Int32))) (g1 : n0 ≤ a1) (E2 : Exa Z h0 a2 "java/util/ArrayList") (Sed : Sta Z h0 "java/util/ArrayList" "DEFAULTCAPACITY_EMPTY_ELEMENTDATA" "[Ljava/lang/Object;" (.ref ed)) (Bed : own_AVk Z h0 ed ke (.object "java/lang/Object") []) (ned : ed ≠ a1) :
    MetFree l own_y8 (head1 (Jvm.Cond.code own_y8 jdk_38_method_24_code 4 none :: ws) ({ frames := 3, cells := 1, slots := 10, locals := 41 } : Room)) (fun a U => a = #[(.ref a1), (.ref a2), (.ref ed), (.int (0 : Int32))] ∧ Z.Warmed39 U.vm ∧ U.heap = h0) (fun _ _ _ _ _ => True) (fun _ U o U' => ∃ v L, o = .returned v ∧ Qrm_ap0 Z a1 a2 ed ke h0 n0 v U'.heap L ∧ FrameEnd U o U' L ({ frames := 3, cells := 1, slots := 10, locals := 41 } : Room).cells ({ frames := 3, cells := 1, slots := 10, locals := 41 } : Room).slots) := by
  refine MetFree.of_bodySF (plainFor_of_name pn_java_util_ArrayList) hisR ?_
  intro p e s m args below meth c s₁ Bd hml0 hP hK
  obtain ⟨rfl, hZ, hh⟩ := hP
  have hx := Bd.exec
  have hby := Bd.bytes
  have hml : c.maxLocals = 4 := hml0
  have hown : s.vm.findClass "java/util/ArrayList" = some m.cls := findClass_of_methodNamed Bd.named
  have hnm := (name_of_methodNamed Bd.named Bd.method).1
  have X0 : Stand p l e ({ frames := 3, cells := 1, slots := 10, locals := 41 } : Room) s m #[(.ref a1), (.ref a2), (.ref ed), (.int (0 : Int32))] below meth c s₁ [] 0 0 := Stand.of_body Bd
  have e0 : s₁.heap = h0 := by rw [← hh, Bd.state]; rfl
  have N0 := Fr.nil n0
  have K0 : Keep h0 h0 [a1] := Keep.refl _ _
  refine own_start (Qk := Qrm_ap0 Z a1 a2 ed ke h0 n0) (fun G hG => ?_)
  refine own_st (fun _ k => castTop (ef_9_RRRI m a1 a2 ed (0 : Int32)) k) ?_
  show own_Fin p e below G (s₁.setTop (mkF m 0 #[rv a1, rv a2, rv ed, iv (0 : Int32)] []))
  refine own_st (fun _ k => XS.iloadN X0.here hx rfl (hb hby d9_0) rfl  k) ?_
  show own_Fin p e below G (s₁.setTop (mkF m 1 #[rv a1, rv a2, rv ed, iv (0 : Int32)] [(.int (0 : Int32))]))
  refine own_st (fun _ k => XS.aloadN X0.here hx rfl (hb hby d9_1) rfl rfl k) ?_
  show own_Fin p e below G (s₁.setTop (mkF m 2 #[rv a1, rv a2, rv ed, iv (0 : Int32)] [(.ref ed), (.int (0 : Int32))]))
  refine own_st (fun _ k => own_len X0 hx hZ e0 Bed.av (z := (0 : Int32)) rfl (g := (mkF m 2 #[rv a1, rv a2, rv ed, iv (0 : Int32)] [(.ref ed), (.int (0 : Int32))])) rfl rfl (hb hby d9_2) k) ?_
  show own_Fin p e below G (s₁.setTop (mkF m 3 #[rv a1, rv a2, rv ed, iv (0 : Int32)] [(.int (0 : Int32)), (.int (0 : Int32))]))
  refine own_st (fun _ k => XS.icmpNo X0.here hx rfl (hb hby d9_3) rfl (teq (by decide : ((0 : Int32) = (0 : Int32)))).2 k) ?_
  show own_Fin p e below G (s₁.setTop (mkF m 6 #[rv a1, rv a2, rv ed, iv (0 : Int32)] []))
  refine own_st (fun _ k => XS.aloadN X0.here hx rfl (hb hby d9_6) rfl rfl k) ?_
  show own_Fin p e below G (s₁.setTop (mkF m 7 #[rv a1, rv a2, rv ed, iv (0 : Int32)] [(.ref a1)]))
  obtain ⟨cq76, q76, q76'⟩ := E1.cell
  obtain ⟨_, _, ⟨T76, L76, k76, n76⟩, -, X76, ⟨Lc76, hQ76, l76, y76, z76⟩, st76⟩ := X0.privateBack hx (y := own_y7) hown (mvT hZ (own_w hw 80 rfl)) (mvT hZ (own_w hw 81 rfl)) (mvT hZ (own_w hw 83 rfl)) (Cond.privateMethod_at (mvP hZ (own_w hw 82 rfl) (args := #[]))) (mvT hZ (own_w hw 84 rfl)) (by decide) (backOf (W := 0) (rm_gr l Z a0 hw [] a1 ed ke h0 n0 (Nat.le_trans Z0 K0.1) E1 F10 F11 F12 g1 Sed Bed ned) hZ (own_w hw 84 rfl) (own_w hw 22 rfl) (by decide) (by decide)) (g := (mkF m 7 #[rv a1, rv a2, rv ed, iv (0 : Int32)] [(.ref a1)])) rfl (by rw [hml]; rfl) (Steps.refl _) (a := a1) (by rw [e0]; exact q76) q76' (argsL := []) (rest := []) (lenOf pd____Ljava_lang_Object__839 rfl) rfl (by show 2 * 0 + _ ≤ _; exact Nat.le_of_eq rfl) (hb hby d9_7) (fun _ _ => ⟨rfl, e0, (by decide : 0 + 1 ≤ _), (by decide : 0 + 10 ≤ _)⟩)
  clear X0 e0
  dsimp only [Pt.U, Pt.locs, Pt.cells, Pt.slots] at X76 l76 y76 z76 st76 hQ76
  subst l76 y76 z76
  obtain ⟨gb76, gk76, hQ76⟩ := hQ76
  have lt76 := E1.lt
  obtain ⟨rfl, N76q, Kc76, gz76, gL76_0, gL76_1, gL76_2, gB76, gO76⟩ := hQ76
  have N76 := Fr.app N0 N76q
  clear N0 N76q
  have f77_0 := E1.keep Kc76
  have f77_4 := E2.keep Kc76
  have f77_5 := own_Sta_keep Sed Kc76 (allS E1.cell all0)
  have f77_6 := Bed.keep Kc76 (ninS ned nin0)
  have K78 : Keep h0 T76.heap [a1] := K0.trans Kc76 (allS (Or.inl (List.mem_of_getElem? (i := 0) rfl)) all0)
  clear Kc76
  have ne_a1_gb76 : a1 ≠ gb76 := Nat.ne_of_lt (Nat.lt_of_lt_of_le E1.lt gz76)
  clear E1
  have ne_a2_gb76 : a2 ≠ gb76 := Nat.ne_of_lt (Nat.lt_of_lt_of_le E2.lt gz76)
  clear E2
  have ne_ed_gb76 : ed ≠ gb76 := Nat.ne_of_lt (Nat.lt_of_lt_of_le Bed.lt gz76)
  have sz_gb76 : h0.size ≤ gb76 := Nat.le_trans K0.1 gz76
  clear K0
  have g_gb76 : n0 ≤ gb76 := Nat.le_trans Z0 sz_gb76
  refine own_tr st76 ?_
  clear st76
  show own_Fin p e below G (T76.setTop (mkF m 10 #[rv a1, rv a2, rv ed, iv (0 : Int32)] [(.ref gb76)]))
  refine own_st (fun _ k => XS.astoreN X76.here hx rfl (hb hby d9_10) rfl rfl (l' := #[rv a1, rv a2, rv gb76, iv (0 : Int32)]) rfl k) ?_
  show own_Fin p e below G (T76.setTop (mkF m 11 #[rv a1, rv a2, rv gb76, iv (0 : Int32)] []))
  refine own_st (fun _ k => XS.aloadN X76.here hx rfl (hb hby d9_11) rfl rfl k) ?_
  show own_Fin p e below G (T76.setTop (mkF m 12 #[rv a1, rv a2, rv gb76, iv (0 : Int32)] [(.ref gb76)]))
  refine own_st (fun _ k => XS.iloadN X76.here hx rfl (hb hby d9_12) rfl  k) ?_
  show own_Fin p e below G (T76.setTop (mkF m 13 #[rv a1, rv a2, rv gb76, iv (0 : Int32)] [(.int (0 : Int32)), (.ref gb76)]))
  refine own_st (fun _ k => XS.aloadN X76.here hx rfl (hb hby d9_13) rfl rfl k) ?_
  show own_Fin p e below G (T76.setTop (mkF m 14 #[rv a1, rv a2, rv gb76, iv (0 : Int32)] [(.ref a2), (.int (0 : Int32)), (.ref gb76)]))
  obtain ⟨T79, h79, X79, e79, W79, V79, st79⟩ := own_stR X76 hx hZ rfl gB76 (j := (0 : Int32)) (n := 10) rfl (by decide) rfl (fun A q => Sto.ofV A q gO76 (Ins.of_exa f77_4 (own_w hw 96 rfl))) (g := (mkF m 14 #[rv a1, rv a2, rv gb76, iv (0 : Int32)] [(.ref a2), (.int (0 : Int32)), (.ref gb76)])) rfl rfl (hb hby d9_14)
  clear X76
  have f80_0 := f77_0.wr W79
  clear f77_0
  have f80_1 := f77_4.wr W79
  clear f77_4
  have f80_2 := f77_5.wr W79
  clear f77_5
  have f80_3 := f77_6.other W79 ne_ed_gb76
  clear f77_6
  have f80_4 := gL76_0.other W79 (Or.inl ne_a1_gb76)
  have f80_5 := gL76_1.other W79 (Or.inl ne_a1_gb76)
  have f80_6 := gL76_2.other W79 (Or.inl ne_a1_gb76)
  have K81 : Keep h0 h79 [a1] := K78.wr W79 (Or.inr sz_gb76)
  clear K78 W79
  have N82 := Fr.snoc X79 N76 g_gb76
  clear N76
  replace V79 : own_AVk Z h79 gb76 gk76 (.object "java/lang/Object") [(.ref a2), .null, .null, .null, .null, .null, .null, .null, .null, .null] := V79
  refine own_st st79 ?_
  clear st79
  show own_Fin p e below G (T79.setTop (mkF m 15 #[rv a1, rv a2, rv gb76, iv (0 : Int32)] []))
  refine own_st (fun _ k => XS.aloadN X79.here hx rfl (hb hby d9_15) rfl rfl k) ?_
  show own_Fin p e below G (T79.setTop (mkF m 16 #[rv a1, rv a2, rv gb76, iv (0 : Int32)] [(.ref a1)]))
  refine own_st (fun _ k => XS.iloadN X79.here hx rfl (hb hby d9_16) rfl  k) ?_
  show own_Fin p e below G (T79.setTop (mkF m 17 #[rv a1, rv a2, rv gb76, iv (0 : Int32)] [(.int (0 : Int32)), (.ref a1)]))
  refine own_st (fun _ k => XS.iconst X79.here hx rfl (hb hby d9_17) k) ?_
  show own_Fin p e below G (T79.setTop (mkF m 18 #[rv a1, rv a2, rv gb76, iv (0 : Int32)] [(.int (1 : Int32)), (.int (0 : Int32)), (.ref a1)]))
  refine own_st (fun _ k => XS.iadd X79.here hx rfl (hb hby d9_18) rfl k) ?_
  show own_Fin p e below G (T79.setTop (mkF m 19 #[rv a1, rv a2, rv gb76, iv (0 : Int32)] [(.int (1 : Int32)), (.ref a1)]))
  obtain ⟨T83, h83, X83, e83, W83, st83⟩ := putF X79 hx hZ hown (host := "") (Or.inl (own_w hw 73 rfl)) Via.refl e79 f80_6 f80_0 (Or.inl (own_w hw 74 rfl)) (own_w hw 21 rfl) (ty := .int) (by decide) rfl rfl (g := (mkF m 19 #[rv a1, rv a2, rv gb76, iv (0 : Int32)] [(.int (1 : Int32)), (.ref a1)])) rfl rfl (hb hby d9_19)
  clear X79 e79
  have f84_0 := f80_0.wr W83
  clear f80_0 f84_0
  have f84_1 := f80_1.wr W83
  clear f80_1 f84_1
  have f84_2 := f80_2.wr W83
  clear f80_2 f84_2
  have f84_3 := f80_3.other W83 ned
  clear f80_3 f84_3
  have sl85 := slot_ne (Z := Z) (a0 := a0) (Or.inl (own_w hw 40 rfl)) (Or.inl (own_w hw 74 rfl)) (by decide) (t := .int) (t' := .int) (by decide) (by decide)
  have f84_4 := f80_4.other W83 (Or.inr sl85)
  clear f80_4
  have sl86 := slot_ne (Z := Z) (a0 := a0) (Or.inl (own_w hw 43 rfl)) (Or.inl (own_w hw 74 rfl)) (by decide) (t := (.array (.object "java/lang/Object"))) (t' := .int) (by decide) (by decide)
  have f84_5 := f80_5.other W83 (Or.inr sl86)
  clear f80_5
  have f84_7 := V79.other W83 (Ne.symm ne_a1_gb76)
  clear V79
  have K87 : Keep h0 h83 [a1] := K81.wr W83 (Or.inl (List.mem_of_getElem? (i := 0) rfl))
  clear K81
  have N88 := Fr.snoc X83 N82 g1
  clear N82
  have Fw83 : Fld Z h83 a1 "java/util/ArrayList" "size" "I" (.int (1 : Int32)) := f80_6.same W83
  clear f80_6 W83
  refine own_st st83 ?_
  clear st83
  show own_Fin p e below G (T83.setTop (mkF m 22 #[rv a1, rv a2, rv gb76, iv (0 : Int32)] []))
  refine own_out X83 Bd.notSynchronized (v := none) (fun _ => rfl) hG (fun fs hr => X83.returnOut hx Bd.returns (hb hby d9_22) hr) (by decide) (by decide) ?_
  exact ⟨gb76, gk76, rfl, N88, e83.symm ▸ K87, sz_gb76, e83.symm ▸ f84_4, e83.symm ▸ f84_5, e83.symm ▸ Fw83, e83.symm ▸ f84_7, gO76⟩

def Qrm_ap1 (Z : State) (a1 : Addr) (a2 : Addr) (b : Addr) (kb : ClassId) (w0 : Value) (w1 : Value) (w2 : Value) (w3 : Value) (w4 : Value) (w5 : Value) (w6 : Value) (w7 : Value) (w8 : Value) (w9 : Value) (h0 : Heap) (n0 : Nat) (v : Option Value) (h : Heap) (L : List Loc) : Prop := v = none ∧ Fr n0 L ∧ Keep h0 h [a1, b] ∧ Fld Z h a1 "java/util/AbstractList" "modCount" "I" (.int (2 : Int32)) ∧ Fld Z h a1 "java/util/ArrayList" "elementData" "[Ljava/lang/Object;" (.ref b) ∧ Fld Z h a1 "java/util/ArrayList" "size" "I" (.int (2 : Int32)) ∧ own_AVk Z h b kb (.object "java/lang/Object") [w0, (.ref a2), w2, w3, w4, w5, w6, w7, w8, w9]
set_option maxRecDepth 65536 in
set_option maxHeartbeats 40000000 in
theorem rm_ap1 (l : Launch) (Z : State) (a0 : Array Value) (hw : ∀ d ∈ tables_1, d.before a0 Z = true) (ws : List Jvm.Cond) (a1 : Addr) (a2 : Addr) (b : Addr) (kb : ClassId) (w0 : Value) (w1 : Value) (w2 : Value) (w3 : Value) (w4 : Value) (w5 : Value) (w6 : Value) (w7 : Value) (w8 : Value) (w9 : Value) (h0 : Heap) (n0 : Nat) (Z0 : n0 ≤ h0.size) (E1 : Exa Z h0 a1 "java/util/ArrayList") (F10 : Fld Z h0 a1 "java/util/AbstractList" "modCount" "I" (.int (2 : Int32))) (F11 : Fld Z h0 a1 "java/util/ArrayList" "elementData" "[Ljava/lang/Object;" (.ref b)) (F12 : Fld Z h0 a1 "java/util/ArrayList" "size" "I" (.int (1 : Int32))) (g1 : n0 ≤ a1) (E2 : Exa Z h0 a2 "java/util/ArrayList") (Bb : own_AVk Z h0 b kb (.object "java/lang/Object") [w0, w1, w2, w3, w4, w5, w6, w7, w8, w9]) (Ob : Ovr Z kb "java/lang/Object") (neb : a1 ≠ b) (gb : n0 ≤ b) :
    MetFree l own_y8 (head1 (Jvm.Cond.code own_y8 jdk_38_method_24_code 4 none :: ws) ({ frames := 0, cells := 0, slots := 0, locals := 0 } : Room)) (fun a U => a = #[(.ref a1), (.ref a2), (.ref b), (.int (1 : Int32))] ∧ Z.Warmed39 U.vm ∧ U.heap = h0) (fun _ _ _ _ _ => True) (fun _ U o U' => ∃ v L, o = .returned v ∧ Qrm_ap1 Z a1 a2 b kb w0 w1 w2 w3 w4 w5 w6 w7 w8 w9 h0 n0 v U'.heap L ∧ FrameEnd U o U' L ({ frames := 0, cells := 0, slots := 0, locals := 0 } : Room).cells ({ frames := 0, cells := 0, slots := 0, locals := 0 } : Room).slots) := by
  refine MetFree.of_bodySF (plainFor_of_name pn_java_util_ArrayList) hisR ?_
  intro p e s m args below meth c s₁ Bd hml0 hP hK
  obtain ⟨rfl, hZ, hh⟩ := hP
  have hx := Bd.exec
  have hby := Bd.bytes
  have hml : c.maxLocals = 4 := hml0
  have hown : s.vm.findClass "java/util/ArrayList" = some m.cls := findClass_of_methodNamed Bd.named
  have hnm := (name_of_methodNamed Bd.named Bd.method).1
  have X0 : Stand p l e ({ frames := 0, cells := 0, slots := 0, locals := 0 } : Room) s m #[(.ref a1), (.ref a2), (.ref b), (.int (1 : Int32))] below meth c s₁ [] 0 0 := Stand.of_body Bd
  have e0 : s₁.heap = h0 := by rw [← hh, Bd.state]; rfl
  have N0 := Fr.nil n0
  have K0 : Keep h0 h0 [a1, b] := Keep.refl _ _
  refine own_start (Qk := Qrm_ap1 Z a1 a2 b kb w0 w1 w2 w3 w4 w5 w6 w7 w8 w9 h0 n0) (fun G hG => ?_)
  refine own_st (fun _ k => castTop (ef_9_RRRI m a1 a2 b (1 : Int32)) k) ?_
  show own_Fin p e below G (s₁.setTop (mkF m 0 #[rv a1, rv a2, rv b, iv (1 : Int32)] []))
  refine own_st (fun _ k => XS.iloadN X0.here hx rfl (hb hby d9_0) rfl  k) ?_
  show own_Fin p e below G (s₁.setTop (mkF m 1 #[rv a1, rv a2, rv b, iv (1 : Int32)] [(.int (1 : Int32))]))
  refine own_st (fun _ k => XS.aloadN X0.here hx rfl (hb hby d9_1) rfl rfl k) ?_
  show own_Fin p e below G (s₁.setTop (mkF m 2 #[rv a1, rv a2, rv b, iv (1 : Int32)] [(.ref b), (.int (1 : Int32))]))
  refine own_st (fun _ k => own_len X0 hx hZ e0 Bb.av (z := (10 : Int32)) rfl (g := (mkF m 2 #[rv a1, rv a2, rv b, iv (1 : Int32)] [(.ref b), (.int (1 : Int32))])) rfl rfl (hb hby d9_2) k) ?_
  show own_Fin p e below G (s₁.setTop (mkF m 3 #[rv a1, rv a2, rv b, iv (1 : Int32)] [(.int (10 : Int32)), (.int (1 : Int32))]))
  refine own_st (fun _ k => XS.icmpYes X0.here hx rfl (pc0 := 3) (pc' := 11) rfl (hb hby d9_3) rfl (feq (by decide : ¬ ((1 : Int32) = (10 : Int32)))).2 (by decide) (by decide) k) ?_
  show own_Fin p e below G (s₁.setTop (mkF m 11 #[rv a1, rv a2, rv b, iv (1 : Int32)] []))
  refine own_st (fun _ k => XS.aloadN X0.here hx rfl (hb hby d9_11) rfl rfl k) ?_
  show own_Fin p e below G (s₁.setTop (mkF m 12 #[rv a1, rv a2, rv b, iv (1 : Int32)] [(.ref b)]))
  refine own_st (fun _ k => XS.iloadN X0.here hx rfl (hb hby d9_12) rfl  k) ?_
  show own_Fin p e below G (s₁.setTop (mkF m 13 #[rv a1, rv a2, rv b, iv (1 : Int32)] [(.int (1 : Int32)), (.ref b)]))
  refine own_st (fun _ k => XS.aloadN X0.here hx rfl (hb hby d9_13) rfl rfl k) ?_
  show own_Fin p e below G (s₁.setTop (mkF m 14 #[rv a1, rv a2, rv b, iv (1 : Int32)] [(.ref a2), (.int (1 : Int32)), (.ref b)]))
  obtain ⟨T89, h89, X89, e89, W89, V89, st89⟩ := own_stR X0 hx hZ e0 Bb (j := (1 : Int32)) (n := 10) rfl (by decide) rfl (fun A q => Sto.ofV A q Ob (Ins.of_exa E2 (own_w hw 96 rfl))) (g := (mkF m 14 #[rv a1, rv a2, rv b, iv (1 : Int32)] [(.ref a2), (.int (1 : Int32)), (.ref b)])) rfl rfl (hb hby d9_14)
  clear X0 e0
  have f90_0 := E1.wr W89
  clear E1
  have f90_1 := F10.other W89 (Or.inl neb)
  have f90_2 := F11.other W89 (Or.inl neb)
  have f90_3 := F12.other W89 (Or.inl neb)
  have f90_4 := E2.wr W89
  clear E2
  have K91 : Keep h0 h89 [a1, b] := K0.wr W89 (Or.inl (List.mem_of_getElem? (i := 1) rfl))
  clear K0 W89
  have N92 := Fr.snoc X89 N0 gb
  clear N0
  replace V89 : own_AVk Z h89 b kb (.object "java/lang/Object") [w0, (.ref a2), w2, w3, w4, w5, w6, w7, w8, w9] := V89
  refine own_st st89 ?_
  clear st89
  show own_Fin p e below G (T89.setTop (mkF m 15 #[rv a1, rv a2, rv b, iv (1 : Int32)] []))
  refine own_st (fun _ k => XS.aloadN X89.here hx rfl (hb hby d9_15) rfl rfl k) ?_
  show own_Fin p e below G (T89.setTop (mkF m 16 #[rv a1, rv a2, rv b, iv (1 : Int32)] [(.ref a1)]))
  refine own_st (fun _ k => XS.iloadN X89.here hx rfl (hb hby d9_16) rfl  k) ?_
  show own_Fin p e below G (T89.setTop (mkF m 17 #[rv a1, rv a2, rv b, iv (1 : Int32)] [(.int (1 : Int32)), (.ref a1)]))
  refine own_st (fun _ k => XS.iconst X89.here hx rfl (hb hby d9_17) k) ?_
  show own_Fin p e below G (T89.setTop (mkF m 18 #[rv a1, rv a2, rv b, iv (1 : Int32)] [(.int (1 : Int32)), (.int (1 : Int32)), (.ref a1)]))
  refine own_st (fun _ k => XS.iadd X89.here hx rfl (hb hby d9_18) rfl k) ?_
  show own_Fin p e below G (T89.setTop (mkF m 19 #[rv a1, rv a2, rv b, iv (1 : Int32)] [(.int (2 : Int32)), (.ref a1)]))
  obtain ⟨T93, h93, X93, e93, W93, st93⟩ := putF X89 hx hZ hown (host := "") (Or.inl (own_w hw 73 rfl)) Via.refl e89 f90_3 f90_0 (Or.inl (own_w hw 74 rfl)) (own_w hw 21 rfl) (ty := .int) (by decide) rfl rfl (g := (mkF m 19 #[rv a1, rv a2, rv b, iv (1 : Int32)] [(.int (2 : Int32)), (.ref a1)])) rfl rfl (hb hby d9_19)
  clear X89 e89
  have f94_0 := f90_0.wr W93
  clear f90_0 f94_0
  have sl95 := slot_ne (Z := Z) (a0 := a0) (Or.inl (own_w hw 40 rfl)) (Or.inl (own_w hw 74 rfl)) (by decide) (t := .int) (t' := .int) (by decide) (by decide)
  have f94_1 := f90_1.other W93 (Or.inr sl95)
  clear f90_1
  have sl96 := slot_ne (Z := Z) (a0 := a0) (Or.inl (own_w hw 43 rfl)) (Or.inl (own_w hw 74 rfl)) (by decide) (t := (.array (.object "java/lang/Object"))) (t' := .int) (by decide) (by decide)
  have f94_2 := f90_2.other W93 (Or.inr sl96)
  clear f90_2
  have f94_4 := f90_4.wr W93
  clear f90_4 f94_4
  have f94_5 := V89.other W93 (Ne.symm neb)
  clear V89
  have K97 : Keep h0 h93 [a1, b] := K91.wr W93 (Or.inl (List.mem_of_getElem? (i := 0) rfl))
  clear K91
  have N98 := Fr.snoc X93 N92 g1
  clear N92
  have Fw93 : Fld Z h93 a1 "java/util/ArrayList" "size" "I" (.int (2 : Int32)) := f90_3.same W93
  clear f90_3 W93
  refine own_st st93 ?_
  clear st93
  show own_Fin p e below G (T93.setTop (mkF m 22 #[rv a1, rv a2, rv b, iv (1 : Int32)] []))
  refine own_out X93 Bd.notSynchronized (v := none) (fun _ => rfl) hG (fun fs hr => X93.returnOut hx Bd.returns (hb hby d9_22) hr) (by decide) (by decide) ?_
  exact ⟨rfl, N98, e93.symm ▸ K97, e93.symm ▸ f94_1, e93.symm ▸ f94_2, e93.symm ▸ Fw93, e93.symm ▸ f94_5⟩

def Qrm_ap2 (Z : State) (a1 : Addr) (a2 : Addr) (b : Addr) (kb : ClassId) (w0 : Value) (w1 : Value) (w2 : Value) (w3 : Value) (w4 : Value) (w5 : Value) (w6 : Value) (w7 : Value) (w8 : Value) (w9 : Value) (h0 : Heap) (n0 : Nat) (v : Option Value) (h : Heap) (L : List Loc) : Prop := v = none ∧ Fr n0 L ∧ Keep h0 h [a1, b] ∧ Fld Z h a1 "java/util/AbstractList" "modCount" "I" (.int (3 : Int32)) ∧ Fld Z h a1 "java/util/ArrayList" "elementData" "[Ljava/lang/Object;" (.ref b) ∧ Fld Z h a1 "java/util/ArrayList" "size" "I" (.int (3 : Int32)) ∧ own_AVk Z h b kb (.object "java/lang/Object") [w0, w1, (.ref a2), w3, w4, w5, w6, w7, w8, w9]
set_option maxRecDepth 65536 in
set_option maxHeartbeats 40000000 in
theorem rm_ap2 (l : Launch) (Z : State) (a0 : Array Value) (hw : ∀ d ∈ tables_1, d.before a0 Z = true) (ws : List Jvm.Cond) (a1 : Addr) (a2 : Addr) (b : Addr) (kb : ClassId) (w0 : Value) (w1 : Value) (w2 : Value) (w3 : Value) (w4 : Value) (w5 : Value) (w6 : Value) (w7 : Value) (w8 : Value) (w9 : Value) (h0 : Heap) (n0 : Nat) (Z0 : n0 ≤ h0.size) (E1 : Exa Z h0 a1 "java/util/ArrayList") (F10 : Fld Z h0 a1 "java/util/AbstractList" "modCount" "I" (.int (3 : Int32))) (F11 : Fld Z h0 a1 "java/util/ArrayList" "elementData" "[Ljava/lang/Object;" (.ref b)) (F12 : Fld Z h0 a1 "java/util/ArrayList" "size" "I" (.int (2 : Int32))) (g1 : n0 ≤ a1) (E2 : Exa Z h0 a2 "java/util/ArrayList") (Bb : own_AVk Z h0 b kb (.object "java/lang/Object") [w0, w1, w2, w3, w4, w5, w6, w7, w8, w9]) (Ob : Ovr Z kb "java/lang/Object") (neb : a1 ≠ b) (gb : n0 ≤ b) :
    MetFree l own_y8 (head1 (Jvm.Cond.code own_y8 jdk_38_method_24_code 4 none :: ws) ({ frames := 0, cells := 0, slots := 0, locals := 0 } : Room)) (fun a U => a = #[(.ref a1), (.ref a2), (.ref b), (.int (2 : Int32))] ∧ Z.Warmed39 U.vm ∧ U.heap = h0) (fun _ _ _ _ _ => True) (fun _ U o U' => ∃ v L, o = .returned v ∧ Qrm_ap2 Z a1 a2 b kb w0 w1 w2 w3 w4 w5 w6 w7 w8 w9 h0 n0 v U'.heap L ∧ FrameEnd U o U' L ({ frames := 0, cells := 0, slots := 0, locals := 0 } : Room).cells ({ frames := 0, cells := 0, slots := 0, locals := 0 } : Room).slots) := by
  refine MetFree.of_bodySF (plainFor_of_name pn_java_util_ArrayList) hisR ?_
  intro p e s m args below meth c s₁ Bd hml0 hP hK
  obtain ⟨rfl, hZ, hh⟩ := hP
  have hx := Bd.exec
  have hby := Bd.bytes
  have hml : c.maxLocals = 4 := hml0
  have hown : s.vm.findClass "java/util/ArrayList" = some m.cls := findClass_of_methodNamed Bd.named
  have hnm := (name_of_methodNamed Bd.named Bd.method).1
  have X0 : Stand p l e ({ frames := 0, cells := 0, slots := 0, locals := 0 } : Room) s m #[(.ref a1), (.ref a2), (.ref b), (.int (2 : Int32))] below meth c s₁ [] 0 0 := Stand.of_body Bd
  have e0 : s₁.heap = h0 := by rw [← hh, Bd.state]; rfl
  have N0 := Fr.nil n0
  have K0 : Keep h0 h0 [a1, b] := Keep.refl _ _
  refine own_start (Qk := Qrm_ap2 Z a1 a2 b kb w0 w1 w2 w3 w4 w5 w6 w7 w8 w9 h0 n0) (fun G hG => ?_)
  refine own_st (fun _ k => castTop (ef_9_RRRI m a1 a2 b (2 : Int32)) k) ?_
  show own_Fin p e below G (s₁.setTop (mkF m 0 #[rv a1, rv a2, rv b, iv (2 : Int32)] []))
  refine own_st (fun _ k => XS.iloadN X0.here hx rfl (hb hby d9_0) rfl  k) ?_
  show own_Fin p e below G (s₁.setTop (mkF m 1 #[rv a1, rv a2, rv b, iv (2 : Int32)] [(.int (2 : Int32))]))
  refine own_st (fun _ k => XS.aloadN X0.here hx rfl (hb hby d9_1) rfl rfl k) ?_
  show own_Fin p e below G (s₁.setTop (mkF m 2 #[rv a1, rv a2, rv b, iv (2 : Int32)] [(.ref b), (.int (2 : Int32))]))
  refine own_st (fun _ k => own_len X0 hx hZ e0 Bb.av (z := (10 : Int32)) rfl (g := (mkF m 2 #[rv a1, rv a2, rv b, iv (2 : Int32)] [(.ref b), (.int (2 : Int32))])) rfl rfl (hb hby d9_2) k) ?_
  show own_Fin p e below G (s₁.setTop (mkF m 3 #[rv a1, rv a2, rv b, iv (2 : Int32)] [(.int (10 : Int32)), (.int (2 : Int32))]))
  refine own_st (fun _ k => XS.icmpYes X0.here hx rfl (pc0 := 3) (pc' := 11) rfl (hb hby d9_3) rfl (feq (by decide : ¬ ((2 : Int32) = (10 : Int32)))).2 (by decide) (by decide) k) ?_
  show own_Fin p e below G (s₁.setTop (mkF m 11 #[rv a1, rv a2, rv b, iv (2 : Int32)] []))
  refine own_st (fun _ k => XS.aloadN X0.here hx rfl (hb hby d9_11) rfl rfl k) ?_
  show own_Fin p e below G (s₁.setTop (mkF m 12 #[rv a1, rv a2, rv b, iv (2 : Int32)] [(.ref b)]))
  refine own_st (fun _ k => XS.iloadN X0.here hx rfl (hb hby d9_12) rfl  k) ?_
  show own_Fin p e below G (s₁.setTop (mkF m 13 #[rv a1, rv a2, rv b, iv (2 : Int32)] [(.int (2 : Int32)), (.ref b)]))
  refine own_st (fun _ k => XS.aloadN X0.here hx rfl (hb hby d9_13) rfl rfl k) ?_
  show own_Fin p e below G (s₁.setTop (mkF m 14 #[rv a1, rv a2, rv b, iv (2 : Int32)] [(.ref a2), (.int (2 : Int32)), (.ref b)]))
  obtain ⟨T99, h99, X99, e99, W99, V99, st99⟩ := own_stR X0 hx hZ e0 Bb (j := (2 : Int32)) (n := 10) rfl (by decide) rfl (fun A q => Sto.ofV A q Ob (Ins.of_exa E2 (own_w hw 96 rfl))) (g := (mkF m 14 #[rv a1, rv a2, rv b, iv (2 : Int32)] [(.ref a2), (.int (2 : Int32)), (.ref b)])) rfl rfl (hb hby d9_14)
  clear X0 e0
  have f100_0 := E1.wr W99
  clear E1
  have f100_1 := F10.other W99 (Or.inl neb)
  have f100_2 := F11.other W99 (Or.inl neb)
  have f100_3 := F12.other W99 (Or.inl neb)
  have f100_4 := E2.wr W99
  clear E2
  have K101 : Keep h0 h99 [a1, b] := K0.wr W99 (Or.inl (List.mem_of_getElem? (i := 1) rfl))
  clear K0 W99
  have N102 := Fr.snoc X99 N0 gb
  clear N0
  replace V99 : own_AVk Z h99 b kb (.object "java/lang/Object") [w0, w1, (.ref a2), w3, w4, w5, w6, w7, w8, w9] := V99
  refine own_st st99 ?_
  clear st99
  show own_Fin p e below G (T99.setTop (mkF m 15 #[rv a1, rv a2, rv b, iv (2 : Int32)] []))
  refine own_st (fun _ k => XS.aloadN X99.here hx rfl (hb hby d9_15) rfl rfl k) ?_
  show own_Fin p e below G (T99.setTop (mkF m 16 #[rv a1, rv a2, rv b, iv (2 : Int32)] [(.ref a1)]))
  refine own_st (fun _ k => XS.iloadN X99.here hx rfl (hb hby d9_16) rfl  k) ?_
  show own_Fin p e below G (T99.setTop (mkF m 17 #[rv a1, rv a2, rv b, iv (2 : Int32)] [(.int (2 : Int32)), (.ref a1)]))
  refine own_st (fun _ k => XS.iconst X99.here hx rfl (hb hby d9_17) k) ?_
  show own_Fin p e below G (T99.setTop (mkF m 18 #[rv a1, rv a2, rv b, iv (2 : Int32)] [(.int (1 : Int32)), (.int (2 : Int32)), (.ref a1)]))
  refine own_st (fun _ k => XS.iadd X99.here hx rfl (hb hby d9_18) rfl k) ?_
  show own_Fin p e below G (T99.setTop (mkF m 19 #[rv a1, rv a2, rv b, iv (2 : Int32)] [(.int (3 : Int32)), (.ref a1)]))
  obtain ⟨T103, h103, X103, e103, W103, st103⟩ := putF X99 hx hZ hown (host := "") (Or.inl (own_w hw 73 rfl)) Via.refl e99 f100_3 f100_0 (Or.inl (own_w hw 74 rfl)) (own_w hw 21 rfl) (ty := .int) (by decide) rfl rfl (g := (mkF m 19 #[rv a1, rv a2, rv b, iv (2 : Int32)] [(.int (3 : Int32)), (.ref a1)])) rfl rfl (hb hby d9_19)
  clear X99 e99
  have f104_0 := f100_0.wr W103
  clear f100_0 f104_0
  have sl105 := slot_ne (Z := Z) (a0 := a0) (Or.inl (own_w hw 40 rfl)) (Or.inl (own_w hw 74 rfl)) (by decide) (t := .int) (t' := .int) (by decide) (by decide)
  have f104_1 := f100_1.other W103 (Or.inr sl105)
  clear f100_1
  have sl106 := slot_ne (Z := Z) (a0 := a0) (Or.inl (own_w hw 43 rfl)) (Or.inl (own_w hw 74 rfl)) (by decide) (t := (.array (.object "java/lang/Object"))) (t' := .int) (by decide) (by decide)
  have f104_2 := f100_2.other W103 (Or.inr sl106)
  clear f100_2
  have f104_4 := f100_4.wr W103
  clear f100_4 f104_4
  have f104_5 := V99.other W103 (Ne.symm neb)
  clear V99
  have K107 : Keep h0 h103 [a1, b] := K101.wr W103 (Or.inl (List.mem_of_getElem? (i := 0) rfl))
  clear K101
  have N108 := Fr.snoc X103 N102 g1
  clear N102
  have Fw103 : Fld Z h103 a1 "java/util/ArrayList" "size" "I" (.int (3 : Int32)) := f100_3.same W103
  clear f100_3 W103
  refine own_st st103 ?_
  clear st103
  show own_Fin p e below G (T103.setTop (mkF m 22 #[rv a1, rv a2, rv b, iv (2 : Int32)] []))
  refine own_out X103 Bd.notSynchronized (v := none) (fun _ => rfl) hG (fun fs hr => X103.returnOut hx Bd.returns (hb hby d9_22) hr) (by decide) (by decide) ?_
  exact ⟨rfl, N108, e103.symm ▸ K107, e103.symm ▸ f104_1, e103.symm ▸ f104_2, e103.symm ▸ Fw103, e103.symm ▸ f104_5⟩

def Qrm_ap3 (Z : State) (a1 : Addr) (a2 : Addr) (b : Addr) (kb : ClassId) (w0 : Value) (w1 : Value) (w2 : Value) (w3 : Value) (w4 : Value) (w5 : Value) (w6 : Value) (w7 : Value) (w8 : Value) (w9 : Value) (h0 : Heap) (n0 : Nat) (v : Option Value) (h : Heap) (L : List Loc) : Prop := v = none ∧ Fr n0 L ∧ Keep h0 h [a1, b] ∧ Fld Z h a1 "java/util/AbstractList" "modCount" "I" (.int (4 : Int32)) ∧ Fld Z h a1 "java/util/ArrayList" "elementData" "[Ljava/lang/Object;" (.ref b) ∧ Fld Z h a1 "java/util/ArrayList" "size" "I" (.int (4 : Int32)) ∧ own_AVk Z h b kb (.object "java/lang/Object") [w0, w1, w2, (.ref a2), w4, w5, w6, w7, w8, w9]
set_option maxRecDepth 65536 in
set_option maxHeartbeats 40000000 in
theorem rm_ap3 (l : Launch) (Z : State) (a0 : Array Value) (hw : ∀ d ∈ tables_1, d.before a0 Z = true) (ws : List Jvm.Cond) (a1 : Addr) (a2 : Addr) (b : Addr) (kb : ClassId) (w0 : Value) (w1 : Value) (w2 : Value) (w3 : Value) (w4 : Value) (w5 : Value) (w6 : Value) (w7 : Value) (w8 : Value) (w9 : Value) (h0 : Heap) (n0 : Nat) (Z0 : n0 ≤ h0.size) (E1 : Exa Z h0 a1 "java/util/ArrayList") (F10 : Fld Z h0 a1 "java/util/AbstractList" "modCount" "I" (.int (4 : Int32))) (F11 : Fld Z h0 a1 "java/util/ArrayList" "elementData" "[Ljava/lang/Object;" (.ref b)) (F12 : Fld Z h0 a1 "java/util/ArrayList" "size" "I" (.int (3 : Int32))) (g1 : n0 ≤ a1) (E2 : Exa Z h0 a2 "java/util/ArrayList") (Bb : own_AVk Z h0 b kb (.object "java/lang/Object") [w0, w1, w2, w3, w4, w5, w6, w7, w8, w9]) (Ob : Ovr Z kb "java/lang/Object") (neb : a1 ≠ b) (gb : n0 ≤ b) :
    MetFree l own_y8 (head1 (Jvm.Cond.code own_y8 jdk_38_method_24_code 4 none :: ws) ({ frames := 0, cells := 0, slots := 0, locals := 0 } : Room)) (fun a U => a = #[(.ref a1), (.ref a2), (.ref b), (.int (3 : Int32))] ∧ Z.Warmed39 U.vm ∧ U.heap = h0) (fun _ _ _ _ _ => True) (fun _ U o U' => ∃ v L, o = .returned v ∧ Qrm_ap3 Z a1 a2 b kb w0 w1 w2 w3 w4 w5 w6 w7 w8 w9 h0 n0 v U'.heap L ∧ FrameEnd U o U' L ({ frames := 0, cells := 0, slots := 0, locals := 0 } : Room).cells ({ frames := 0, cells := 0, slots := 0, locals := 0 } : Room).slots) := by
  refine MetFree.of_bodySF (plainFor_of_name pn_java_util_ArrayList) hisR ?_
  intro p e s m args below meth c s₁ Bd hml0 hP hK
  obtain ⟨rfl, hZ, hh⟩ := hP
  have hx := Bd.exec
  have hby := Bd.bytes
  have hml : c.maxLocals = 4 := hml0
  have hown : s.vm.findClass "java/util/ArrayList" = some m.cls := findClass_of_methodNamed Bd.named
  have hnm := (name_of_methodNamed Bd.named Bd.method).1
  have X0 : Stand p l e ({ frames := 0, cells := 0, slots := 0, locals := 0 } : Room) s m #[(.ref a1), (.ref a2), (.ref b), (.int (3 : Int32))] below meth c s₁ [] 0 0 := Stand.of_body Bd
  have e0 : s₁.heap = h0 := by rw [← hh, Bd.state]; rfl
  have N0 := Fr.nil n0
  have K0 : Keep h0 h0 [a1, b] := Keep.refl _ _
  refine own_start (Qk := Qrm_ap3 Z a1 a2 b kb w0 w1 w2 w3 w4 w5 w6 w7 w8 w9 h0 n0) (fun G hG => ?_)
  refine own_st (fun _ k => castTop (ef_9_RRRI m a1 a2 b (3 : Int32)) k) ?_
  show own_Fin p e below G (s₁.setTop (mkF m 0 #[rv a1, rv a2, rv b, iv (3 : Int32)] []))
  refine own_st (fun _ k => XS.iloadN X0.here hx rfl (hb hby d9_0) rfl  k) ?_
  show own_Fin p e below G (s₁.setTop (mkF m 1 #[rv a1, rv a2, rv b, iv (3 : Int32)] [(.int (3 : Int32))]))
  refine own_st (fun _ k => XS.aloadN X0.here hx rfl (hb hby d9_1) rfl rfl k) ?_
  show own_Fin p e below G (s₁.setTop (mkF m 2 #[rv a1, rv a2, rv b, iv (3 : Int32)] [(.ref b), (.int (3 : Int32))]))
  refine own_st (fun _ k => own_len X0 hx hZ e0 Bb.av (z := (10 : Int32)) rfl (g := (mkF m 2 #[rv a1, rv a2, rv b, iv (3 : Int32)] [(.ref b), (.int (3 : Int32))])) rfl rfl (hb hby d9_2) k) ?_
  show own_Fin p e below G (s₁.setTop (mkF m 3 #[rv a1, rv a2, rv b, iv (3 : Int32)] [(.int (10 : Int32)), (.int (3 : Int32))]))
  refine own_st (fun _ k => XS.icmpYes X0.here hx rfl (pc0 := 3) (pc' := 11) rfl (hb hby d9_3) rfl (feq (by decide : ¬ ((3 : Int32) = (10 : Int32)))).2 (by decide) (by decide) k) ?_
  show own_Fin p e below G (s₁.setTop (mkF m 11 #[rv a1, rv a2, rv b, iv (3 : Int32)] []))
  refine own_st (fun _ k => XS.aloadN X0.here hx rfl (hb hby d9_11) rfl rfl k) ?_
  show own_Fin p e below G (s₁.setTop (mkF m 12 #[rv a1, rv a2, rv b, iv (3 : Int32)] [(.ref b)]))
  refine own_st (fun _ k => XS.iloadN X0.here hx rfl (hb hby d9_12) rfl  k) ?_
  show own_Fin p e below G (s₁.setTop (mkF m 13 #[rv a1, rv a2, rv b, iv (3 : Int32)] [(.int (3 : Int32)), (.ref b)]))
  refine own_st (fun _ k => XS.aloadN X0.here hx rfl (hb hby d9_13) rfl rfl k) ?_
  show own_Fin p e below G (s₁.setTop (mkF m 14 #[rv a1, rv a2, rv b, iv (3 : Int32)] [(.ref a2), (.int (3 : Int32)), (.ref b)]))
  obtain ⟨T109, h109, X109, e109, W109, V109, st109⟩ := own_stR X0 hx hZ e0 Bb (j := (3 : Int32)) (n := 10) rfl (by decide) rfl (fun A q => Sto.ofV A q Ob (Ins.of_exa E2 (own_w hw 96 rfl))) (g := (mkF m 14 #[rv a1, rv a2, rv b, iv (3 : Int32)] [(.ref a2), (.int (3 : Int32)), (.ref b)])) rfl rfl (hb hby d9_14)
  clear X0 e0
  have f110_0 := E1.wr W109
  clear E1
  have f110_1 := F10.other W109 (Or.inl neb)
  have f110_2 := F11.other W109 (Or.inl neb)
  have f110_3 := F12.other W109 (Or.inl neb)
  have f110_4 := E2.wr W109
  clear E2
  have K111 : Keep h0 h109 [a1, b] := K0.wr W109 (Or.inl (List.mem_of_getElem? (i := 1) rfl))
  clear K0 W109
  have N112 := Fr.snoc X109 N0 gb
  clear N0
  replace V109 : own_AVk Z h109 b kb (.object "java/lang/Object") [w0, w1, w2, (.ref a2), w4, w5, w6, w7, w8, w9] := V109
  refine own_st st109 ?_
  clear st109
  show own_Fin p e below G (T109.setTop (mkF m 15 #[rv a1, rv a2, rv b, iv (3 : Int32)] []))
  refine own_st (fun _ k => XS.aloadN X109.here hx rfl (hb hby d9_15) rfl rfl k) ?_
  show own_Fin p e below G (T109.setTop (mkF m 16 #[rv a1, rv a2, rv b, iv (3 : Int32)] [(.ref a1)]))
  refine own_st (fun _ k => XS.iloadN X109.here hx rfl (hb hby d9_16) rfl  k) ?_
  show own_Fin p e below G (T109.setTop (mkF m 17 #[rv a1, rv a2, rv b, iv (3 : Int32)] [(.int (3 : Int32)), (.ref a1)]))
  refine own_st (fun _ k => XS.iconst X109.here hx rfl (hb hby d9_17) k) ?_
  show own_Fin p e below G (T109.setTop (mkF m 18 #[rv a1, rv a2, rv b, iv (3 : Int32)] [(.int (1 : Int32)), (.int (3 : Int32)), (.ref a1)]))
  refine own_st (fun _ k => XS.iadd X109.here hx rfl (hb hby d9_18) rfl k) ?_
  show own_Fin p e below G (T109.setTop (mkF m 19 #[rv a1, rv a2, rv b, iv (3 : Int32)] [(.int (4 : Int32)), (.ref a1)]))
  obtain ⟨T113, h113, X113, e113, W113, st113⟩ := putF X109 hx hZ hown (host := "") (Or.inl (own_w hw 73 rfl)) Via.refl e109 f110_3 f110_0 (Or.inl (own_w hw 74 rfl)) (own_w hw 21 rfl) (ty := .int) (by decide) rfl rfl (g := (mkF m 19 #[rv a1, rv a2, rv b, iv (3 : Int32)] [(.int (4 : Int32)), (.ref a1)])) rfl rfl (hb hby d9_19)
  clear X109 e109
  have f114_0 := f110_0.wr W113
  clear f110_0 f114_0
  have sl115 := slot_ne (Z := Z) (a0 := a0) (Or.inl (own_w hw 40 rfl)) (Or.inl (own_w hw 74 rfl)) (by decide) (t := .int) (t' := .int) (by decide) (by decide)
  have f114_1 := f110_1.other W113 (Or.inr sl115)
  clear f110_1
  have sl116 := slot_ne (Z := Z) (a0 := a0) (Or.inl (own_w hw 43 rfl)) (Or.inl (own_w hw 74 rfl)) (by decide) (t := (.array (.object "java/lang/Object"))) (t' := .int) (by decide) (by decide)
  have f114_2 := f110_2.other W113 (Or.inr sl116)
  clear f110_2
  have f114_4 := f110_4.wr W113
  clear f110_4 f114_4
  have f114_5 := V109.other W113 (Ne.symm neb)
  clear V109
  have K117 : Keep h0 h113 [a1, b] := K111.wr W113 (Or.inl (List.mem_of_getElem? (i := 0) rfl))
  clear K111
  have N118 := Fr.snoc X113 N112 g1
  clear N112
  have Fw113 : Fld Z h113 a1 "java/util/ArrayList" "size" "I" (.int (4 : Int32)) := f110_3.same W113
  clear f110_3 W113
  refine own_st st113 ?_
  clear st113
  show own_Fin p e below G (T113.setTop (mkF m 22 #[rv a1, rv a2, rv b, iv (3 : Int32)] []))
  refine own_out X113 Bd.notSynchronized (v := none) (fun _ => rfl) hG (fun fs hr => X113.returnOut hx Bd.returns (hb hby d9_22) hr) (by decide) (by decide) ?_
  exact ⟨rfl, N118, e113.symm ▸ K117, e113.symm ▸ f114_1, e113.symm ▸ f114_2, e113.symm ▸ Fw113, e113.symm ▸ f114_5⟩

theorem d8_0 : decode jdk_38_method_25_code 0 = .ok (.aload_n 0, 1) := by decide +kernel
theorem d8_1 : decode jdk_38_method_25_code 1 = .ok (.dup, 1) := by decide +kernel
theorem d8_2 : decode jdk_38_method_25_code 2 = .ok (.getfield 63, 3) := by decide +kernel
theorem d8_5 : decode jdk_38_method_25_code 5 = .ok (.iconst 1, 1) := by decide +kernel
theorem d8_6 : decode jdk_38_method_25_code 6 = .ok (.iadd, 1) := by decide +kernel
theorem d8_7 : decode jdk_38_method_25_code 7 = .ok (.putfield 63, 3) := by decide +kernel
theorem d8_10 : decode jdk_38_method_25_code 10 = .ok (.aload_n 0, 1) := by decide +kernel
theorem d8_11 : decode jdk_38_method_25_code 11 = .ok (.aload_n 1, 1) := by decide +kernel
theorem d8_12 : decode jdk_38_method_25_code 12 = .ok (.aload_n 0, 1) := by decide +kernel
theorem d8_13 : decode jdk_38_method_25_code 13 = .ok (.getfield 9, 3) := by decide +kernel
theorem d8_16 : decode jdk_38_method_25_code 16 = .ok (.aload_n 0, 1) := by decide +kernel
theorem d8_17 : decode jdk_38_method_25_code 17 = .ok (.getfield 48, 3) := by decide +kernel
theorem d8_20 : decode jdk_38_method_25_code 20 = .ok (.invokevirtual 131, 3) := by decide +kernel
theorem pd__Ljava_lang_Object__Ljava_lang_Object_I_V_668 : parseMethodDescriptor "(Ljava/lang/Object;[Ljava/lang/Object;I)V" = some ⟨[(.object "java/lang/Object"), (.array (.object "java/lang/Object")), .int], none⟩ := by decide +kernel
theorem d8_23 : decode jdk_38_method_25_code 23 = .ok (.iconst 1, 1) := by decide +kernel
theorem d8_24 : decode jdk_38_method_25_code 24 = .ok (.ireturn, 1) := by decide +kernel
theorem ef_8_RR (m : MethodId) (x0 : Addr) (x1 : Addr) : entryFrame m #[(.ref x0), (.ref x1)] 2 = mkF m 0 #[rv x0, rv x1] [] := by first | (simp [entryFrame, mkF, argsToLocals, Value.category]; done) | rfl
def Qrm_aq0 (Z : State) (a1 : Addr) (a2 : Addr) (ed : Addr) (ke : ClassId) (h0 : Heap) (n0 : Nat) (v : Option Value) (h : Heap) (L : List Loc) : Prop := ∃ (b : Addr) (kb : ClassId), v = some (.int 1) ∧ Fr n0 L ∧ Keep h0 h [a1] ∧ h0.size ≤ b ∧ Fld Z h a1 "java/util/AbstractList" "modCount" "I" (.int (1 : Int32)) ∧ Fld Z h a1 "java/util/ArrayList" "elementData" "[Ljava/lang/Object;" (.ref b) ∧ Fld Z h a1 "java/util/ArrayList" "size" "I" (.int (1 : Int32)) ∧ own_AVk Z h b kb (.object "java/lang/Object") [(.ref a2), .null, .null, .null, .null, .null, .null, .null, .null, .null] ∧ Ovr Z kb "java/lang/Object"
set_option maxRecDepth 65536 in
set_option maxHeartbeats 40000000 in
theorem rm_aq0 (l : Launch) (Z : State) (a0 : Array Value) (hw : ∀ d ∈ tables_1, d.before a0 Z = true) (ws : List Jvm.Cond) (a1 : Addr) (a2 : Addr) (ed : Addr) (ke : ClassId) (h0 : Heap) (n0 : Nat) (Z0 : n0 ≤ h0.size) (E1 : Exa Z h0 a1 "java/util/ArrayList") (F10 : Fld Z h0 a1 "java/util/AbstractList" "modCount" "I" (.int (0 : Int32))) (F11 : Fld Z h0 a1 "java/util/ArrayList" "elementData" "[Ljava/lang/Object;" (.ref ed)) (F12 : Fld Z h0 a1 "java/util/ArrayList" "size" "I" (.int (0 : Int32))) (g1 : n0 ≤ a1) (E2 : Exa Z h0 a2 "java/util/ArrayList") (Sed : Sta Z h0 "java/util/ArrayList" "DEFAULTCAPACITY_EMPTY_ELEMENTDATA" "[Ljava/lang/Object;" (.ref ed)) (Bed : own_AVk Z h0 ed ke (.object "java/lang/Object") []) (ned : ed ≠ a1) :
    MetFree l own_y9 (head1 (Jvm.Cond.code own_y9 jdk_38_method_25_code 2 (some .boolean) :: ws) ({ frames := 4, cells := 1, slots := 10, locals := 56 } : Room)) (fun a U => a = #[(.ref a1), (.ref a2)] ∧ Z.Warmed39 U.vm ∧ U.heap = h0) (fun _ _ _ _ _ => True) (fun _ U o U' => ∃ v L, o = .returned v ∧ Qrm_aq0 Z a1 a2 ed ke h0 n0 v U'.heap L ∧ FrameEnd U o U' L ({ frames := 4, cells := 1, slots := 10, locals := 56 } : Room).cells ({ frames := 4, cells := 1, slots := 10, locals := 56 } : Room).slots) := by
  refine MetFree.of_bodySF (plainFor_of_name pn_java_util_ArrayList) hisR ?_
  intro p e s m args below meth c s₁ Bd hml0 hP hK
  obtain ⟨rfl, hZ, hh⟩ := hP
  have hx := Bd.exec
  have hby := Bd.bytes
  have hml : c.maxLocals = 2 := hml0
  have hown : s.vm.findClass "java/util/ArrayList" = some m.cls := findClass_of_methodNamed Bd.named
  have hnm := (name_of_methodNamed Bd.named Bd.method).1
  have X0 : Stand p l e ({ frames := 4, cells := 1, slots := 10, locals := 56 } : Room) s m #[(.ref a1), (.ref a2)] below meth c s₁ [] 0 0 := Stand.of_body Bd
  have e0 : s₁.heap = h0 := by rw [← hh, Bd.state]; rfl
  have N0 := Fr.nil n0
  have K0 : Keep h0 h0 [a1] := Keep.refl _ _
  refine own_start (Qk := Qrm_aq0 Z a1 a2 ed ke h0 n0) (fun G hG => ?_)
  refine own_st (fun _ k => castTop (ef_8_RR m a1 a2) k) ?_
  show own_Fin p e below G (s₁.setTop (mkF m 0 #[rv a1, rv a2] []))
  refine own_st (fun _ k => XS.aloadN X0.here hx rfl (hb hby d8_0) rfl rfl k) ?_
  show own_Fin p e below G (s₁.setTop (mkF m 1 #[rv a1, rv a2] [(.ref a1)]))
  refine own_st (fun _ k => XS.dup X0.here hx rfl (hb hby d8_1) rfl rfl k) ?_
  show own_Fin p e below G (s₁.setTop (mkF m 2 #[rv a1, rv a2] [(.ref a1), (.ref a1)]))
  obtain ⟨T119, X119, e119, st119⟩ := getF X0 hx hZ hown (host := "") (Or.inl (own_w hw 71 rfl)) (Via.of (own_w hw 72 rfl)) e0 F10 (g := (mkF m 2 #[rv a1, rv a2] [(.ref a1), (.ref a1)])) rfl rfl (hb hby d8_2)
  clear X0 e0
  refine own_st st119 ?_
  clear st119
  show own_Fin p e below G (T119.setTop (mkF m 5 #[rv a1, rv a2] [(.int (0 : Int32)), (.ref a1)]))
  refine own_st (fun _ k => XS.iconst X119.here hx rfl (hb hby d8_5) k) ?_
  show own_Fin p e below G (T119.setTop (mkF m 6 #[rv a1, rv a2] [(.int (1 : Int32)), (.int (0 : Int32)), (.ref a1)]))
  refine own_st (fun _ k => XS.iadd X119.here hx rfl (hb hby d8_6) rfl k) ?_
  show own_Fin p e below G (T119.setTop (mkF m 7 #[rv a1, rv a2] [(.int (1 : Int32)), (.ref a1)]))
  obtain ⟨T120, h120, X120, e120, W120, st120⟩ := putF X119 hx hZ hown (host := "") (Or.inl (own_w hw 71 rfl)) (Via.of (own_w hw 72 rfl)) e119 F10 E1 (Or.inl (own_w hw 40 rfl)) (own_w hw 21 rfl) (ty := .int) (by decide) rfl rfl (g := (mkF m 7 #[rv a1, rv a2] [(.int (1 : Int32)), (.ref a1)])) rfl rfl (hb hby d8_7)
  clear X119 e119
  have f121_0 := E1.wr W120
  clear E1
  have sl122 := slot_ne (Z := Z) (a0 := a0) (Or.inl (own_w hw 43 rfl)) (Or.inl (own_w hw 40 rfl)) (by decide) (t := (.array (.object "java/lang/Object"))) (t' := .int) (by decide) (by decide)
  have f121_2 := F11.other W120 (Or.inr sl122)
  have sl123 := slot_ne (Z := Z) (a0 := a0) (Or.inl (own_w hw 74 rfl)) (Or.inl (own_w hw 40 rfl)) (by decide) (t := .int) (t' := .int) (by decide) (by decide)
  have f121_3 := F12.other W120 (Or.inr sl123)
  have f121_4 := E2.wr W120
  clear E2
  have f121_5 := Sed.wr W120
  have f121_6 := Bed.other W120 ned
  have K124 : Keep h0 h120 [a1] := K0.wr W120 (Or.inl (List.mem_of_getElem? (i := 0) rfl))
  clear K0
  have N125 := Fr.snoc X120 N0 g1
  clear N0
  have Fw120 : Fld Z h120 a1 "java/util/AbstractList" "modCount" "I" (.int (1 : Int32)) := F10.same W120
  clear W120
  refine own_st st120 ?_
  clear st120
  show own_Fin p e below G (T120.setTop (mkF m 10 #[rv a1, rv a2] []))
  refine own_st (fun _ k => XS.aloadN X120.here hx rfl (hb hby d8_10) rfl rfl k) ?_
  show own_Fin p e below G (T120.setTop (mkF m 11 #[rv a1, rv a2] [(.ref a1)]))
  refine own_st (fun _ k => XS.aloadN X120.here hx rfl (hb hby d8_11) rfl rfl k) ?_
  show own_Fin p e below G (T120.setTop (mkF m 12 #[rv a1, rv a2] [(.ref a2), (.ref a1)]))
  refine own_st (fun _ k => XS.aloadN X120.here hx rfl (hb hby d8_12) rfl rfl k) ?_
  show own_Fin p e below G (T120.setTop (mkF m 13 #[rv a1, rv a2] [(.ref a1), (.ref a2), (.ref a1)]))
  obtain ⟨T126, X126, e126, st126⟩ := getF X120 hx hZ hown (host := "") (Or.inl (own_w hw 42 rfl)) Via.refl e120 f121_2 (g := (mkF m 13 #[rv a1, rv a2] [(.ref a1), (.ref a2), (.ref a1)])) rfl rfl (hb hby d8_13)
  clear X120 e120
  refine own_st st126 ?_
  clear st126
  show own_Fin p e below G (T126.setTop (mkF m 16 #[rv a1, rv a2] [(.ref ed), (.ref a2), (.ref a1)]))
  refine own_st (fun _ k => XS.aloadN X126.here hx rfl (hb hby d8_16) rfl rfl k) ?_
  show own_Fin p e below G (T126.setTop (mkF m 17 #[rv a1, rv a2] [(.ref a1), (.ref ed), (.ref a2), (.ref a1)]))
  obtain ⟨T127, X127, e127, st127⟩ := getF X126 hx hZ hown (host := "") (Or.inl (own_w hw 73 rfl)) Via.refl e126 f121_3 (g := (mkF m 17 #[rv a1, rv a2] [(.ref a1), (.ref ed), (.ref a2), (.ref a1)])) rfl rfl (hb hby d8_17)
  clear X126 e126
  refine own_st st127 ?_
  clear st127
  show own_Fin p e below G (T127.setTop (mkF m 20 #[rv a1, rv a2] [(.int (0 : Int32)), (.ref ed), (.ref a2), (.ref a1)]))
  obtain ⟨cq128, q128, q128'⟩ := f121_0.cell
  obtain ⟨_, _, ⟨T128, L128, k128, n128⟩, -, X128, ⟨Lc128, hQ128, l128, y128, z128⟩, st128⟩ := X127.privateBack hx (y := own_y8) hown (mvT hZ (own_w hw 75 rfl)) (mvT hZ (own_w hw 76 rfl)) (mvT hZ (own_w hw 78 rfl)) (Cond.privateMethod_at (mvP hZ (own_w hw 77 rfl) (args := #[]))) (mvT hZ (own_w hw 79 rfl)) (by decide) (backOf (W := 0) (rm_ap0 l Z a0 hw [] a1 a2 ed ke h120 n0 (Nat.le_trans Z0 K124.1) f121_0 Fw120 f121_2 f121_3 g1 f121_4 f121_5 f121_6 ned) hZ (own_w hw 79 rfl) (own_w hw 22 rfl) (by decide) (by decide)) (g := (mkF m 20 #[rv a1, rv a2] [(.int (0 : Int32)), (.ref ed), (.ref a2), (.ref a1)])) rfl (by rw [hml]; rfl) (Steps.refl _) (a := a1) (by rw [e127]; exact q128) q128' (argsL := [(.ref a2), (.ref ed), (.int (0 : Int32))]) (rest := []) (lenOf pd__Ljava_lang_Object__Ljava_lang_Object_I_V_668 rfl) rfl (by show 2 * 0 + _ ≤ _; exact Nat.le_of_eq rfl) (hb hby d8_20) (fun _ _ => ⟨rfl, e127, (by decide : 0 + 1 ≤ _), (by decide : 0 + 10 ≤ _)⟩)
  clear f121_2 f121_3 Fw120 X127 e127
  dsimp only [Pt.U, Pt.locs, Pt.cells, Pt.slots] at X128 l128 y128 z128 st128 hQ128
  subst l128 y128 z128
  obtain ⟨gb128, gk128, hQ128⟩ := hQ128
  have lt128 := f121_0.lt
  obtain ⟨rfl, N128q, Kc128, gz128, gL128_0, gL128_1, gL128_2, gB128, gO128⟩ := hQ128
  have N128 := Fr.app N125 N128q
  clear N125 N128q
  have f129_0 := f121_0.keep Kc128
  clear f129_0
  have f129_4 := f121_4.keep Kc128
  clear f129_4
  have f129_5 := own_Sta_keep f121_5 Kc128 (allS f121_0.cell all0)
  clear f121_5 f129_5
  have f129_6 := f121_6.keep Kc128 (ninS ned nin0)
  clear f129_6
  have K130 : Keep h0 T128.heap [a1] := K124.trans Kc128 (allS (Or.inl (List.mem_of_getElem? (i := 0) rfl)) all0)
  clear Kc128
  have ne_a1_gb128 : a1 ≠ gb128 := Nat.ne_of_lt (Nat.lt_of_lt_of_le f121_0.lt gz128)
  clear f121_0
  have ne_a2_gb128 : a2 ≠ gb128 := Nat.ne_of_lt (Nat.lt_of_lt_of_le f121_4.lt gz128)
  clear f121_4
  have ne_ed_gb128 : ed ≠ gb128 := Nat.ne_of_lt (Nat.lt_of_lt_of_le f121_6.lt gz128)
  clear f121_6
  have sz_gb128 : h0.size ≤ gb128 := Nat.le_trans K124.1 gz128
  clear K124
  have g_gb128 : n0 ≤ gb128 := Nat.le_trans Z0 sz_gb128
  refine own_tr st128 ?_
  clear st128
  show own_Fin p e below G (T128.setTop (mkF m 23 #[rv a1, rv a2] []))
  refine own_st (fun _ k => XS.iconst X128.here hx rfl (hb hby d8_23) k) ?_
  show own_Fin p e below G (T128.setTop (mkF m 24 #[rv a1, rv a2] [(.int (1 : Int32))]))
  refine own_out X128 Bd.notSynchronized (v := (some (.int (1 : Int32)))) (fun h => by rw [Bd.returns] at h; cases h) hG (fun fs hr => retN X128 hx (t := .boolean) Bd.returns (by simp) (hb hby d8_24) hr) (by decide) (by decide) ?_
  exact ⟨gb128, gk128, rfl, N128, K130, sz_gb128, gL128_0, gL128_1, gL128_2, gB128, gO128⟩

def Qrm_aq1 (Z : State) (a1 : Addr) (a2 : Addr) (b : Addr) (kb : ClassId) (w0 : Value) (w1 : Value) (w2 : Value) (w3 : Value) (w4 : Value) (w5 : Value) (w6 : Value) (w7 : Value) (w8 : Value) (w9 : Value) (h0 : Heap) (n0 : Nat) (v : Option Value) (h : Heap) (L : List Loc) : Prop := v = some (.int 1) ∧ Fr n0 L ∧ Keep h0 h [a1, b] ∧ Fld Z h a1 "java/util/AbstractList" "modCount" "I" (.int (2 : Int32)) ∧ Fld Z h a1 "java/util/ArrayList" "elementData" "[Ljava/lang/Object;" (.ref b) ∧ Fld Z h a1 "java/util/ArrayList" "size" "I" (.int (2 : Int32)) ∧ own_AVk Z h b kb (.object "java/lang/Object") [w0, (.ref a2), w2, w3, w4, w5, w6, w7, w8, w9]
set_option maxRecDepth 65536 in
set_option maxHeartbeats 40000000 in
theorem rm_aq1 (l : Launch) (Z : State) (a0 : Array Value) (hw : ∀ d ∈ tables_1, d.before a0 Z = true) (ws : List Jvm.Cond) (a1 : Addr) (a2 : Addr) (b : Addr) (kb : ClassId) (w0 : Value) (w1 : Value) (w2 : Value) (w3 : Value) (w4 : Value) (w5 : Value) (w6 : Value) (w7 : Value) (w8 : Value) (w9 : Value) (h0 : Heap) (n0 : Nat) (Z0 : n0 ≤ h0.size) (E1 : Exa Z h0 a1 "java/util/ArrayList") (F10 : Fld Z h0 a1 "java/util/AbstractList" "modCount" "I" (.int (1 : Int32))) (F11 : Fld Z h0 a1 "java/util/ArrayList" "elementData" "[Ljava/lang/Object;" (.ref b)) (F12 : Fld Z h0 a1 "java/util/ArrayList" "size" "I" (.int (1 : Int32))) (g1 : n0 ≤ a1) (E2 : Exa Z h0 a2 "java/util/ArrayList") (Bb : own_AVk Z h0 b kb (.object "java/lang/Object") [w0, w1, w2, w3, w4, w5, w6, w7, w8, w9]) (Ob : Ovr Z kb "java/lang/Object") (neb : a1 ≠ b) (gb : n0 ≤ b) :
    MetFree l own_y9 (head1 (Jvm.Cond.code own_y9 jdk_38_method_25_code 2 (some .boolean) :: ws) ({ frames := 1, cells := 0, slots := 0, locals := 15 } : Room)) (fun a U => a = #[(.ref a1), (.ref a2)] ∧ Z.Warmed39 U.vm ∧ U.heap = h0) (fun _ _ _ _ _ => True) (fun _ U o U' => ∃ v L, o = .returned v ∧ Qrm_aq1 Z a1 a2 b kb w0 w1 w2 w3 w4 w5 w6 w7 w8 w9 h0 n0 v U'.heap L ∧ FrameEnd U o U' L ({ frames := 1, cells := 0, slots := 0, locals := 15 } : Room).cells ({ frames := 1, cells := 0, slots := 0, locals := 15 } : Room).slots) := by
  refine MetFree.of_bodySF (plainFor_of_name pn_java_util_ArrayList) hisR ?_
  intro p e s m args below meth c s₁ Bd hml0 hP hK
  obtain ⟨rfl, hZ, hh⟩ := hP
  have hx := Bd.exec
  have hby := Bd.bytes
  have hml : c.maxLocals = 2 := hml0
  have hown : s.vm.findClass "java/util/ArrayList" = some m.cls := findClass_of_methodNamed Bd.named
  have hnm := (name_of_methodNamed Bd.named Bd.method).1
  have X0 : Stand p l e ({ frames := 1, cells := 0, slots := 0, locals := 15 } : Room) s m #[(.ref a1), (.ref a2)] below meth c s₁ [] 0 0 := Stand.of_body Bd
  have e0 : s₁.heap = h0 := by rw [← hh, Bd.state]; rfl
  have N0 := Fr.nil n0
  have K0 : Keep h0 h0 [a1, b] := Keep.refl _ _
  refine own_start (Qk := Qrm_aq1 Z a1 a2 b kb w0 w1 w2 w3 w4 w5 w6 w7 w8 w9 h0 n0) (fun G hG => ?_)
  refine own_st (fun _ k => castTop (ef_8_RR m a1 a2) k) ?_
  show own_Fin p e below G (s₁.setTop (mkF m 0 #[rv a1, rv a2] []))
  refine own_st (fun _ k => XS.aloadN X0.here hx rfl (hb hby d8_0) rfl rfl k) ?_
  show own_Fin p e below G (s₁.setTop (mkF m 1 #[rv a1, rv a2] [(.ref a1)]))
  refine own_st (fun _ k => XS.dup X0.here hx rfl (hb hby d8_1) rfl rfl k) ?_
  show own_Fin p e below G (s₁.setTop (mkF m 2 #[rv a1, rv a2] [(.ref a1), (.ref a1)]))
  obtain ⟨T131, X131, e131, st131⟩ := getF X0 hx hZ hown (host := "") (Or.inl (own_w hw 71 rfl)) (Via.of (own_w hw 72 rfl)) e0 F10 (g := (mkF m 2 #[rv a1, rv a2] [(.ref a1), (.ref a1)])) rfl rfl (hb hby d8_2)
  clear X0 e0
  refine own_st st131 ?_
  clear st131
  show own_Fin p e below G (T131.setTop (mkF m 5 #[rv a1, rv a2] [(.int (1 : Int32)), (.ref a1)]))
  refine own_st (fun _ k => XS.iconst X131.here hx rfl (hb hby d8_5) k) ?_
  show own_Fin p e below G (T131.setTop (mkF m 6 #[rv a1, rv a2] [(.int (1 : Int32)), (.int (1 : Int32)), (.ref a1)]))
  refine own_st (fun _ k => XS.iadd X131.here hx rfl (hb hby d8_6) rfl k) ?_
  show own_Fin p e below G (T131.setTop (mkF m 7 #[rv a1, rv a2] [(.int (2 : Int32)), (.ref a1)]))
  obtain ⟨T132, h132, X132, e132, W132, st132⟩ := putF X131 hx hZ hown (host := "") (Or.inl (own_w hw 71 rfl)) (Via.of (own_w hw 72 rfl)) e131 F10 E1 (Or.inl (own_w hw 40 rfl)) (own_w hw 21 rfl) (ty := .int) (by decide) rfl rfl (g := (mkF m 7 #[rv a1, rv a2] [(.int (2 : Int32)), (.ref a1)])) rfl rfl (hb hby d8_7)
  clear X131 e131
  have f133_0 := E1.wr W132
  clear E1
  have sl134 := slot_ne (Z := Z) (a0 := a0) (Or.inl (own_w hw 43 rfl)) (Or.inl (own_w hw 40 rfl)) (by decide) (t := (.array (.object "java/lang/Object"))) (t' := .int) (by decide) (by decide)
  have f133_2 := F11.other W132 (Or.inr sl134)
  have sl135 := slot_ne (Z := Z) (a0 := a0) (Or.inl (own_w hw 74 rfl)) (Or.inl (own_w hw 40 rfl)) (by decide) (t := .int) (t' := .int) (by decide) (by decide)
  have f133_3 := F12.other W132 (Or.inr sl135)
  have f133_4 := E2.wr W132
  clear E2
  have f133_5 := Bb.other W132 (Ne.symm neb)
  have K136 : Keep h0 h132 [a1, b] := K0.wr W132 (Or.inl (List.mem_of_getElem? (i := 0) rfl))
  clear K0
  have N137 := Fr.snoc X132 N0 g1
  clear N0
  have Fw132 : Fld Z h132 a1 "java/util/AbstractList" "modCount" "I" (.int (2 : Int32)) := F10.same W132
  clear W132
  refine own_st st132 ?_
  clear st132
  show own_Fin p e below G (T132.setTop (mkF m 10 #[rv a1, rv a2] []))
  refine own_st (fun _ k => XS.aloadN X132.here hx rfl (hb hby d8_10) rfl rfl k) ?_
  show own_Fin p e below G (T132.setTop (mkF m 11 #[rv a1, rv a2] [(.ref a1)]))
  refine own_st (fun _ k => XS.aloadN X132.here hx rfl (hb hby d8_11) rfl rfl k) ?_
  show own_Fin p e below G (T132.setTop (mkF m 12 #[rv a1, rv a2] [(.ref a2), (.ref a1)]))
  refine own_st (fun _ k => XS.aloadN X132.here hx rfl (hb hby d8_12) rfl rfl k) ?_
  show own_Fin p e below G (T132.setTop (mkF m 13 #[rv a1, rv a2] [(.ref a1), (.ref a2), (.ref a1)]))
  obtain ⟨T138, X138, e138, st138⟩ := getF X132 hx hZ hown (host := "") (Or.inl (own_w hw 42 rfl)) Via.refl e132 f133_2 (g := (mkF m 13 #[rv a1, rv a2] [(.ref a1), (.ref a2), (.ref a1)])) rfl rfl (hb hby d8_13)
  clear X132 e132
  refine own_st st138 ?_
  clear st138
  show own_Fin p e below G (T138.setTop (mkF m 16 #[rv a1, rv a2] [(.ref b), (.ref a2), (.ref a1)]))
  refine own_st (fun _ k => XS.aloadN X138.here hx rfl (hb hby d8_16) rfl rfl k) ?_
  show own_Fin p e below G (T138.setTop (mkF m 17 #[rv a1, rv a2] [(.ref a1), (.ref b), (.ref a2), (.ref a1)]))
  obtain ⟨T139, X139, e139, st139⟩ := getF X138 hx hZ hown (host := "") (Or.inl (own_w hw 73 rfl)) Via.refl e138 f133_3 (g := (mkF m 17 #[rv a1, rv a2] [(.ref a1), (.ref b), (.ref a2), (.ref a1)])) rfl rfl (hb hby d8_17)
  clear X138 e138
  refine own_st st139 ?_
  clear st139
  show own_Fin p e below G (T139.setTop (mkF m 20 #[rv a1, rv a2] [(.int (1 : Int32)), (.ref b), (.ref a2), (.ref a1)]))
  obtain ⟨cq140, q140, q140'⟩ := f133_0.cell
  obtain ⟨_, _, ⟨T140, L140, k140, n140⟩, -, X140, ⟨Lc140, hQ140, l140, y140, z140⟩, st140⟩ := X139.privateBack hx (y := own_y8) hown (mvT hZ (own_w hw 75 rfl)) (mvT hZ (own_w hw 76 rfl)) (mvT hZ (own_w hw 78 rfl)) (Cond.privateMethod_at (mvP hZ (own_w hw 77 rfl) (args := #[]))) (mvT hZ (own_w hw 79 rfl)) (by decide) (backOf (W := 0) (rm_ap1 l Z a0 hw [] a1 a2 b kb w0 w1 w2 w3 w4 w5 w6 w7 w8 w9 h132 n0 (Nat.le_trans Z0 K136.1) f133_0 Fw132 f133_2 f133_3 g1 f133_4 f133_5 Ob neb gb) hZ (own_w hw 79 rfl) (own_w hw 22 rfl) (by decide) (by decide)) (g := (mkF m 20 #[rv a1, rv a2] [(.int (1 : Int32)), (.ref b), (.ref a2), (.ref a1)])) rfl (by rw [hml]; rfl) (Steps.refl _) (a := a1) (by rw [e139]; exact q140) q140' (argsL := [(.ref a2), (.ref b), (.int (1 : Int32))]) (rest := []) (lenOf pd__Ljava_lang_Object__Ljava_lang_Object_I_V_668 rfl) rfl (by show 2 * 0 + _ ≤ _; exact Nat.le_of_eq rfl) (hb hby d8_20) (fun _ _ => ⟨rfl, e139, (by decide : 0 + 0 ≤ _), (by decide : 0 + 0 ≤ _)⟩)
  clear f133_2 f133_3 f133_5 Fw132 X139 e139
  dsimp only [Pt.U, Pt.locs, Pt.cells, Pt.slots] at X140 l140 y140 z140 st140 hQ140
  subst l140 y140 z140
  obtain ⟨rfl, N140q, Kc140, gL140_0, gL140_1, gL140_2, gB140⟩ := hQ140
  have N140 := Fr.app N137 N140q
  clear N137 N140q
  have f141_0 := f133_0.keep Kc140
  clear f133_0 f141_0
  have f141_4 := f133_4.keep Kc140
  clear f133_4 f141_4
  have K142 : Keep h0 T140.heap [a1, b] := K136.trans Kc140 (allS (Or.inl (List.mem_of_getElem? (i := 0) rfl)) (allS (Or.inl (List.mem_of_getElem? (i := 1) rfl)) all0))
  clear K136 Kc140
  refine own_tr st140 ?_
  clear st140
  show own_Fin p e below G (T140.setTop (mkF m 23 #[rv a1, rv a2] []))
  refine own_st (fun _ k => XS.iconst X140.here hx rfl (hb hby d8_23) k) ?_
  show own_Fin p e below G (T140.setTop (mkF m 24 #[rv a1, rv a2] [(.int (1 : Int32))]))
  refine own_out X140 Bd.notSynchronized (v := (some (.int (1 : Int32)))) (fun h => by rw [Bd.returns] at h; cases h) hG (fun fs hr => retN X140 hx (t := .boolean) Bd.returns (by simp) (hb hby d8_24) hr) (by decide) (by decide) ?_
  exact ⟨rfl, N140, K142, gL140_0, gL140_1, gL140_2, gB140⟩

def Qrm_aq2 (Z : State) (a1 : Addr) (a2 : Addr) (b : Addr) (kb : ClassId) (w0 : Value) (w1 : Value) (w2 : Value) (w3 : Value) (w4 : Value) (w5 : Value) (w6 : Value) (w7 : Value) (w8 : Value) (w9 : Value) (h0 : Heap) (n0 : Nat) (v : Option Value) (h : Heap) (L : List Loc) : Prop := v = some (.int 1) ∧ Fr n0 L ∧ Keep h0 h [a1, b] ∧ Fld Z h a1 "java/util/AbstractList" "modCount" "I" (.int (3 : Int32)) ∧ Fld Z h a1 "java/util/ArrayList" "elementData" "[Ljava/lang/Object;" (.ref b) ∧ Fld Z h a1 "java/util/ArrayList" "size" "I" (.int (3 : Int32)) ∧ own_AVk Z h b kb (.object "java/lang/Object") [w0, w1, (.ref a2), w3, w4, w5, w6, w7, w8, w9]
set_option maxRecDepth 65536 in
set_option maxHeartbeats 40000000 in
theorem rm_aq2 (l : Launch) (Z : State) (a0 : Array Value) (hw : ∀ d ∈ tables_1, d.before a0 Z = true) (ws : List Jvm.Cond) (a1 : Addr) (a2 : Addr) (b : Addr) (kb : ClassId) (w0 : Value) (w1 : Value) (w2 : Value) (w3 : Value) (w4 : Value) (w5 : Value) (w6 : Value) (w7 : Value) (w8 : Value) (w9 : Value) (h0 : Heap) (n0 : Nat) (Z0 : n0 ≤ h0.size) (E1 : Exa Z h0 a1 "java/util/ArrayList") (F10 : Fld Z h0 a1 "java/util/AbstractList" "modCount" "I" (.int (2 : Int32))) (F11 : Fld Z h0 a1 "java/util/ArrayList" "elementData" "[Ljava/lang/Object;" (.ref b)) (F12 : Fld Z h0 a1 "java/util/ArrayList" "size" "I" (.int (2 : Int32))) (g1 : n0 ≤ a1) (E2 : Exa Z h0 a2 "java/util/ArrayList") (Bb : own_AVk Z h0 b kb (.object "java/lang/Object") [w0, w1, w2, w3, w4, w5, w6, w7, w8, w9]) (Ob : Ovr Z kb "java/lang/Object") (neb : a1 ≠ b) (gb : n0 ≤ b) :
    MetFree l own_y9 (head1 (Jvm.Cond.code own_y9 jdk_38_method_25_code 2 (some .boolean) :: ws) ({ frames := 1, cells := 0, slots := 0, locals := 15 } : Room)) (fun a U => a = #[(.ref a1), (.ref a2)] ∧ Z.Warmed39 U.vm ∧ U.heap = h0) (fun _ _ _ _ _ => True) (fun _ U o U' => ∃ v L, o = .returned v ∧ Qrm_aq2 Z a1 a2 b kb w0 w1 w2 w3 w4 w5 w6 w7 w8 w9 h0 n0 v U'.heap L ∧ FrameEnd U o U' L ({ frames := 1, cells := 0, slots := 0, locals := 15 } : Room).cells ({ frames := 1, cells := 0, slots := 0, locals := 15 } : Room).slots) := by
  refine MetFree.of_bodySF (plainFor_of_name pn_java_util_ArrayList) hisR ?_
  intro p e s m args below meth c s₁ Bd hml0 hP hK
  obtain ⟨rfl, hZ, hh⟩ := hP
  have hx := Bd.exec
  have hby := Bd.bytes
  have hml : c.maxLocals = 2 := hml0
  have hown : s.vm.findClass "java/util/ArrayList" = some m.cls := findClass_of_methodNamed Bd.named
  have hnm := (name_of_methodNamed Bd.named Bd.method).1
  have X0 : Stand p l e ({ frames := 1, cells := 0, slots := 0, locals := 15 } : Room) s m #[(.ref a1), (.ref a2)] below meth c s₁ [] 0 0 := Stand.of_body Bd
  have e0 : s₁.heap = h0 := by rw [← hh, Bd.state]; rfl
  have N0 := Fr.nil n0
  have K0 : Keep h0 h0 [a1, b] := Keep.refl _ _
  refine own_start (Qk := Qrm_aq2 Z a1 a2 b kb w0 w1 w2 w3 w4 w5 w6 w7 w8 w9 h0 n0) (fun G hG => ?_)
  refine own_st (fun _ k => castTop (ef_8_RR m a1 a2) k) ?_
  show own_Fin p e below G (s₁.setTop (mkF m 0 #[rv a1, rv a2] []))
  refine own_st (fun _ k => XS.aloadN X0.here hx rfl (hb hby d8_0) rfl rfl k) ?_
  show own_Fin p e below G (s₁.setTop (mkF m 1 #[rv a1, rv a2] [(.ref a1)]))
  refine own_st (fun _ k => XS.dup X0.here hx rfl (hb hby d8_1) rfl rfl k) ?_
  show own_Fin p e below G (s₁.setTop (mkF m 2 #[rv a1, rv a2] [(.ref a1), (.ref a1)]))
  obtain ⟨T143, X143, e143, st143⟩ := getF X0 hx hZ hown (host := "") (Or.inl (own_w hw 71 rfl)) (Via.of (own_w hw 72 rfl)) e0 F10 (g := (mkF m 2 #[rv a1, rv a2] [(.ref a1), (.ref a1)])) rfl rfl (hb hby d8_2)
  clear X0 e0
  refine own_st st143 ?_
  clear st143
  show own_Fin p e below G (T143.setTop (mkF m 5 #[rv a1, rv a2] [(.int (2 : Int32)), (.ref a1)]))
  refine own_st (fun _ k => XS.iconst X143.here hx rfl (hb hby d8_5) k) ?_
  show own_Fin p e below G (T143.setTop (mkF m 6 #[rv a1, rv a2] [(.int (1 : Int32)), (.int (2 : Int32)), (.ref a1)]))
  refine own_st (fun _ k => XS.iadd X143.here hx rfl (hb hby d8_6) rfl k) ?_
  show own_Fin p e below G (T143.setTop (mkF m 7 #[rv a1, rv a2] [(.int (3 : Int32)), (.ref a1)]))
  obtain ⟨T144, h144, X144, e144, W144, st144⟩ := putF X143 hx hZ hown (host := "") (Or.inl (own_w hw 71 rfl)) (Via.of (own_w hw 72 rfl)) e143 F10 E1 (Or.inl (own_w hw 40 rfl)) (own_w hw 21 rfl) (ty := .int) (by decide) rfl rfl (g := (mkF m 7 #[rv a1, rv a2] [(.int (3 : Int32)), (.ref a1)])) rfl rfl (hb hby d8_7)
  clear X143 e143
  have f145_0 := E1.wr W144
  clear E1
  have sl146 := slot_ne (Z := Z) (a0 := a0) (Or.inl (own_w hw 43 rfl)) (Or.inl (own_w hw 40 rfl)) (by decide) (t := (.array (.object "java/lang/Object"))) (t' := .int) (by decide) (by decide)
  have f145_2 := F11.other W144 (Or.inr sl146)
  have sl147 := slot_ne (Z := Z) (a0 := a0) (Or.inl (own_w hw 74 rfl)) (Or.inl (own_w hw 40 rfl)) (by decide) (t := .int) (t' := .int) (by decide) (by decide)
  have f145_3 := F12.other W144 (Or.inr sl147)
  have f145_4 := E2.wr W144
  clear E2
  have f145_5 := Bb.other W144 (Ne.symm neb)
  have K148 : Keep h0 h144 [a1, b] := K0.wr W144 (Or.inl (List.mem_of_getElem? (i := 0) rfl))
  clear K0
  have N149 := Fr.snoc X144 N0 g1
  clear N0
  have Fw144 : Fld Z h144 a1 "java/util/AbstractList" "modCount" "I" (.int (3 : Int32)) := F10.same W144
  clear W144
  refine own_st st144 ?_
  clear st144
  show own_Fin p e below G (T144.setTop (mkF m 10 #[rv a1, rv a2] []))
  refine own_st (fun _ k => XS.aloadN X144.here hx rfl (hb hby d8_10) rfl rfl k) ?_
  show own_Fin p e below G (T144.setTop (mkF m 11 #[rv a1, rv a2] [(.ref a1)]))
  refine own_st (fun _ k => XS.aloadN X144.here hx rfl (hb hby d8_11) rfl rfl k) ?_
  show own_Fin p e below G (T144.setTop (mkF m 12 #[rv a1, rv a2] [(.ref a2), (.ref a1)]))
  refine own_st (fun _ k => XS.aloadN X144.here hx rfl (hb hby d8_12) rfl rfl k) ?_
  show own_Fin p e below G (T144.setTop (mkF m 13 #[rv a1, rv a2] [(.ref a1), (.ref a2), (.ref a1)]))
  obtain ⟨T150, X150, e150, st150⟩ := getF X144 hx hZ hown (host := "") (Or.inl (own_w hw 42 rfl)) Via.refl e144 f145_2 (g := (mkF m 13 #[rv a1, rv a2] [(.ref a1), (.ref a2), (.ref a1)])) rfl rfl (hb hby d8_13)
  clear X144 e144
  refine own_st st150 ?_
  clear st150
  show own_Fin p e below G (T150.setTop (mkF m 16 #[rv a1, rv a2] [(.ref b), (.ref a2), (.ref a1)]))
  refine own_st (fun _ k => XS.aloadN X150.here hx rfl (hb hby d8_16) rfl rfl k) ?_
  show own_Fin p e below G (T150.setTop (mkF m 17 #[rv a1, rv a2] [(.ref a1), (.ref b), (.ref a2), (.ref a1)]))
  obtain ⟨T151, X151, e151, st151⟩ := getF X150 hx hZ hown (host := "") (Or.inl (own_w hw 73 rfl)) Via.refl e150 f145_3 (g := (mkF m 17 #[rv a1, rv a2] [(.ref a1), (.ref b), (.ref a2), (.ref a1)])) rfl rfl (hb hby d8_17)
  clear X150 e150
  refine own_st st151 ?_
  clear st151
  show own_Fin p e below G (T151.setTop (mkF m 20 #[rv a1, rv a2] [(.int (2 : Int32)), (.ref b), (.ref a2), (.ref a1)]))
  obtain ⟨cq152, q152, q152'⟩ := f145_0.cell
  obtain ⟨_, _, ⟨T152, L152, k152, n152⟩, -, X152, ⟨Lc152, hQ152, l152, y152, z152⟩, st152⟩ := X151.privateBack hx (y := own_y8) hown (mvT hZ (own_w hw 75 rfl)) (mvT hZ (own_w hw 76 rfl)) (mvT hZ (own_w hw 78 rfl)) (Cond.privateMethod_at (mvP hZ (own_w hw 77 rfl) (args := #[]))) (mvT hZ (own_w hw 79 rfl)) (by decide) (backOf (W := 0) (rm_ap2 l Z a0 hw [] a1 a2 b kb w0 w1 w2 w3 w4 w5 w6 w7 w8 w9 h144 n0 (Nat.le_trans Z0 K148.1) f145_0 Fw144 f145_2 f145_3 g1 f145_4 f145_5 Ob neb gb) hZ (own_w hw 79 rfl) (own_w hw 22 rfl) (by decide) (by decide)) (g := (mkF m 20 #[rv a1, rv a2] [(.int (2 : Int32)), (.ref b), (.ref a2), (.ref a1)])) rfl (by rw [hml]; rfl) (Steps.refl _) (a := a1) (by rw [e151]; exact q152) q152' (argsL := [(.ref a2), (.ref b), (.int (2 : Int32))]) (rest := []) (lenOf pd__Ljava_lang_Object__Ljava_lang_Object_I_V_668 rfl) rfl (by show 2 * 0 + _ ≤ _; exact Nat.le_of_eq rfl) (hb hby d8_20) (fun _ _ => ⟨rfl, e151, (by decide : 0 + 0 ≤ _), (by decide : 0 + 0 ≤ _)⟩)
  clear f145_2 f145_3 f145_5 Fw144 X151 e151
  dsimp only [Pt.U, Pt.locs, Pt.cells, Pt.slots] at X152 l152 y152 z152 st152 hQ152
  subst l152 y152 z152
  obtain ⟨rfl, N152q, Kc152, gL152_0, gL152_1, gL152_2, gB152⟩ := hQ152
  have N152 := Fr.app N149 N152q
  clear N149 N152q
  have f153_0 := f145_0.keep Kc152
  clear f145_0 f153_0
  have f153_4 := f145_4.keep Kc152
  clear f145_4 f153_4
  have K154 : Keep h0 T152.heap [a1, b] := K148.trans Kc152 (allS (Or.inl (List.mem_of_getElem? (i := 0) rfl)) (allS (Or.inl (List.mem_of_getElem? (i := 1) rfl)) all0))
  clear K148 Kc152
  refine own_tr st152 ?_
  clear st152
  show own_Fin p e below G (T152.setTop (mkF m 23 #[rv a1, rv a2] []))
  refine own_st (fun _ k => XS.iconst X152.here hx rfl (hb hby d8_23) k) ?_
  show own_Fin p e below G (T152.setTop (mkF m 24 #[rv a1, rv a2] [(.int (1 : Int32))]))
  refine own_out X152 Bd.notSynchronized (v := (some (.int (1 : Int32)))) (fun h => by rw [Bd.returns] at h; cases h) hG (fun fs hr => retN X152 hx (t := .boolean) Bd.returns (by simp) (hb hby d8_24) hr) (by decide) (by decide) ?_
  exact ⟨rfl, N152, K154, gL152_0, gL152_1, gL152_2, gB152⟩

def Qrm_aq3 (Z : State) (a1 : Addr) (a2 : Addr) (b : Addr) (kb : ClassId) (w0 : Value) (w1 : Value) (w2 : Value) (w3 : Value) (w4 : Value) (w5 : Value) (w6 : Value) (w7 : Value) (w8 : Value) (w9 : Value) (h0 : Heap) (n0 : Nat) (v : Option Value) (h : Heap) (L : List Loc) : Prop := v = some (.int 1) ∧ Fr n0 L ∧ Keep h0 h [a1, b] ∧ Fld Z h a1 "java/util/AbstractList" "modCount" "I" (.int (4 : Int32)) ∧ Fld Z h a1 "java/util/ArrayList" "elementData" "[Ljava/lang/Object;" (.ref b) ∧ Fld Z h a1 "java/util/ArrayList" "size" "I" (.int (4 : Int32)) ∧ own_AVk Z h b kb (.object "java/lang/Object") [w0, w1, w2, (.ref a2), w4, w5, w6, w7, w8, w9]
set_option maxRecDepth 65536 in
set_option maxHeartbeats 40000000 in
theorem rm_aq3 (l : Launch) (Z : State) (a0 : Array Value) (hw : ∀ d ∈ tables_1, d.before a0 Z = true) (ws : List Jvm.Cond) (a1 : Addr) (a2 : Addr) (b : Addr) (kb : ClassId) (w0 : Value) (w1 : Value) (w2 : Value) (w3 : Value) (w4 : Value) (w5 : Value) (w6 : Value) (w7 : Value) (w8 : Value) (w9 : Value) (h0 : Heap) (n0 : Nat) (Z0 : n0 ≤ h0.size) (E1 : Exa Z h0 a1 "java/util/ArrayList") (F10 : Fld Z h0 a1 "java/util/AbstractList" "modCount" "I" (.int (3 : Int32))) (F11 : Fld Z h0 a1 "java/util/ArrayList" "elementData" "[Ljava/lang/Object;" (.ref b)) (F12 : Fld Z h0 a1 "java/util/ArrayList" "size" "I" (.int (3 : Int32))) (g1 : n0 ≤ a1) (E2 : Exa Z h0 a2 "java/util/ArrayList") (Bb : own_AVk Z h0 b kb (.object "java/lang/Object") [w0, w1, w2, w3, w4, w5, w6, w7, w8, w9]) (Ob : Ovr Z kb "java/lang/Object") (neb : a1 ≠ b) (gb : n0 ≤ b) :
    MetFree l own_y9 (head1 (Jvm.Cond.code own_y9 jdk_38_method_25_code 2 (some .boolean) :: ws) ({ frames := 1, cells := 0, slots := 0, locals := 15 } : Room)) (fun a U => a = #[(.ref a1), (.ref a2)] ∧ Z.Warmed39 U.vm ∧ U.heap = h0) (fun _ _ _ _ _ => True) (fun _ U o U' => ∃ v L, o = .returned v ∧ Qrm_aq3 Z a1 a2 b kb w0 w1 w2 w3 w4 w5 w6 w7 w8 w9 h0 n0 v U'.heap L ∧ FrameEnd U o U' L ({ frames := 1, cells := 0, slots := 0, locals := 15 } : Room).cells ({ frames := 1, cells := 0, slots := 0, locals := 15 } : Room).slots) := by
  refine MetFree.of_bodySF (plainFor_of_name pn_java_util_ArrayList) hisR ?_
  intro p e s m args below meth c s₁ Bd hml0 hP hK
  obtain ⟨rfl, hZ, hh⟩ := hP
  have hx := Bd.exec
  have hby := Bd.bytes
  have hml : c.maxLocals = 2 := hml0
  have hown : s.vm.findClass "java/util/ArrayList" = some m.cls := findClass_of_methodNamed Bd.named
  have hnm := (name_of_methodNamed Bd.named Bd.method).1
  have X0 : Stand p l e ({ frames := 1, cells := 0, slots := 0, locals := 15 } : Room) s m #[(.ref a1), (.ref a2)] below meth c s₁ [] 0 0 := Stand.of_body Bd
  have e0 : s₁.heap = h0 := by rw [← hh, Bd.state]; rfl
  have N0 := Fr.nil n0
  have K0 : Keep h0 h0 [a1, b] := Keep.refl _ _
  refine own_start (Qk := Qrm_aq3 Z a1 a2 b kb w0 w1 w2 w3 w4 w5 w6 w7 w8 w9 h0 n0) (fun G hG => ?_)
  refine own_st (fun _ k => castTop (ef_8_RR m a1 a2) k) ?_
  show own_Fin p e below G (s₁.setTop (mkF m 0 #[rv a1, rv a2] []))
  refine own_st (fun _ k => XS.aloadN X0.here hx rfl (hb hby d8_0) rfl rfl k) ?_
  show own_Fin p e below G (s₁.setTop (mkF m 1 #[rv a1, rv a2] [(.ref a1)]))
  refine own_st (fun _ k => XS.dup X0.here hx rfl (hb hby d8_1) rfl rfl k) ?_
  show own_Fin p e below G (s₁.setTop (mkF m 2 #[rv a1, rv a2] [(.ref a1), (.ref a1)]))
  obtain ⟨T155, X155, e155, st155⟩ := getF X0 hx hZ hown (host := "") (Or.inl (own_w hw 71 rfl)) (Via.of (own_w hw 72 rfl)) e0 F10 (g := (mkF m 2 #[rv a1, rv a2] [(.ref a1), (.ref a1)])) rfl rfl (hb hby d8_2)
  clear X0 e0
  refine own_st st155 ?_
  clear st155
  show own_Fin p e below G (T155.setTop (mkF m 5 #[rv a1, rv a2] [(.int (3 : Int32)), (.ref a1)]))
  refine own_st (fun _ k => XS.iconst X155.here hx rfl (hb hby d8_5) k) ?_
  show own_Fin p e below G (T155.setTop (mkF m 6 #[rv a1, rv a2] [(.int (1 : Int32)), (.int (3 : Int32)), (.ref a1)]))
  refine own_st (fun _ k => XS.iadd X155.here hx rfl (hb hby d8_6) rfl k) ?_
  show own_Fin p e below G (T155.setTop (mkF m 7 #[rv a1, rv a2] [(.int (4 : Int32)), (.ref a1)]))
  obtain ⟨T156, h156, X156, e156, W156, st156⟩ := putF X155 hx hZ hown (host := "") (Or.inl (own_w hw 71 rfl)) (Via.of (own_w hw 72 rfl)) e155 F10 E1 (Or.inl (own_w hw 40 rfl)) (own_w hw 21 rfl) (ty := .int) (by decide) rfl rfl (g := (mkF m 7 #[rv a1, rv a2] [(.int (4 : Int32)), (.ref a1)])) rfl rfl (hb hby d8_7)
  clear X155 e155
  have f157_0 := E1.wr W156
  clear E1
  have sl158 := slot_ne (Z := Z) (a0 := a0) (Or.inl (own_w hw 43 rfl)) (Or.inl (own_w hw 40 rfl)) (by decide) (t := (.array (.object "java/lang/Object"))) (t' := .int) (by decide) (by decide)
  have f157_2 := F11.other W156 (Or.inr sl158)
  have sl159 := slot_ne (Z := Z) (a0 := a0) (Or.inl (own_w hw 74 rfl)) (Or.inl (own_w hw 40 rfl)) (by decide) (t := .int) (t' := .int) (by decide) (by decide)
  have f157_3 := F12.other W156 (Or.inr sl159)
  have f157_4 := E2.wr W156
  clear E2
  have f157_5 := Bb.other W156 (Ne.symm neb)
  have K160 : Keep h0 h156 [a1, b] := K0.wr W156 (Or.inl (List.mem_of_getElem? (i := 0) rfl))
  clear K0
  have N161 := Fr.snoc X156 N0 g1
  clear N0
  have Fw156 : Fld Z h156 a1 "java/util/AbstractList" "modCount" "I" (.int (4 : Int32)) := F10.same W156
  clear W156
  refine own_st st156 ?_
  clear st156
  show own_Fin p e below G (T156.setTop (mkF m 10 #[rv a1, rv a2] []))
  refine own_st (fun _ k => XS.aloadN X156.here hx rfl (hb hby d8_10) rfl rfl k) ?_
  show own_Fin p e below G (T156.setTop (mkF m 11 #[rv a1, rv a2] [(.ref a1)]))
  refine own_st (fun _ k => XS.aloadN X156.here hx rfl (hb hby d8_11) rfl rfl k) ?_
  show own_Fin p e below G (T156.setTop (mkF m 12 #[rv a1, rv a2] [(.ref a2), (.ref a1)]))
  refine own_st (fun _ k => XS.aloadN X156.here hx rfl (hb hby d8_12) rfl rfl k) ?_
  show own_Fin p e below G (T156.setTop (mkF m 13 #[rv a1, rv a2] [(.ref a1), (.ref a2), (.ref a1)]))
  obtain ⟨T162, X162, e162, st162⟩ := getF X156 hx hZ hown (host := "") (Or.inl (own_w hw 42 rfl)) Via.refl e156 f157_2 (g := (mkF m 13 #[rv a1, rv a2] [(.ref a1), (.ref a2), (.ref a1)])) rfl rfl (hb hby d8_13)
  clear X156 e156
  refine own_st st162 ?_
  clear st162
  show own_Fin p e below G (T162.setTop (mkF m 16 #[rv a1, rv a2] [(.ref b), (.ref a2), (.ref a1)]))
  refine own_st (fun _ k => XS.aloadN X162.here hx rfl (hb hby d8_16) rfl rfl k) ?_
  show own_Fin p e below G (T162.setTop (mkF m 17 #[rv a1, rv a2] [(.ref a1), (.ref b), (.ref a2), (.ref a1)]))
  obtain ⟨T163, X163, e163, st163⟩ := getF X162 hx hZ hown (host := "") (Or.inl (own_w hw 73 rfl)) Via.refl e162 f157_3 (g := (mkF m 17 #[rv a1, rv a2] [(.ref a1), (.ref b), (.ref a2), (.ref a1)])) rfl rfl (hb hby d8_17)
  clear X162 e162
  refine own_st st163 ?_
  clear st163
  show own_Fin p e below G (T163.setTop (mkF m 20 #[rv a1, rv a2] [(.int (3 : Int32)), (.ref b), (.ref a2), (.ref a1)]))
  obtain ⟨cq164, q164, q164'⟩ := f157_0.cell
  obtain ⟨_, _, ⟨T164, L164, k164, n164⟩, -, X164, ⟨Lc164, hQ164, l164, y164, z164⟩, st164⟩ := X163.privateBack hx (y := own_y8) hown (mvT hZ (own_w hw 75 rfl)) (mvT hZ (own_w hw 76 rfl)) (mvT hZ (own_w hw 78 rfl)) (Cond.privateMethod_at (mvP hZ (own_w hw 77 rfl) (args := #[]))) (mvT hZ (own_w hw 79 rfl)) (by decide) (backOf (W := 0) (rm_ap3 l Z a0 hw [] a1 a2 b kb w0 w1 w2 w3 w4 w5 w6 w7 w8 w9 h156 n0 (Nat.le_trans Z0 K160.1) f157_0 Fw156 f157_2 f157_3 g1 f157_4 f157_5 Ob neb gb) hZ (own_w hw 79 rfl) (own_w hw 22 rfl) (by decide) (by decide)) (g := (mkF m 20 #[rv a1, rv a2] [(.int (3 : Int32)), (.ref b), (.ref a2), (.ref a1)])) rfl (by rw [hml]; rfl) (Steps.refl _) (a := a1) (by rw [e163]; exact q164) q164' (argsL := [(.ref a2), (.ref b), (.int (3 : Int32))]) (rest := []) (lenOf pd__Ljava_lang_Object__Ljava_lang_Object_I_V_668 rfl) rfl (by show 2 * 0 + _ ≤ _; exact Nat.le_of_eq rfl) (hb hby d8_20) (fun _ _ => ⟨rfl, e163, (by decide : 0 + 0 ≤ _), (by decide : 0 + 0 ≤ _)⟩)
  clear f157_2 f157_3 f157_5 Fw156 X163 e163
  dsimp only [Pt.U, Pt.locs, Pt.cells, Pt.slots] at X164 l164 y164 z164 st164 hQ164
  subst l164 y164 z164
  obtain ⟨rfl, N164q, Kc164, gL164_0, gL164_1, gL164_2, gB164⟩ := hQ164
  have N164 := Fr.app N161 N164q
  clear N161 N164q
  have f165_0 := f157_0.keep Kc164
  clear f157_0 f165_0
  have f165_4 := f157_4.keep Kc164
  clear f157_4 f165_4
  have K166 : Keep h0 T164.heap [a1, b] := K160.trans Kc164 (allS (Or.inl (List.mem_of_getElem? (i := 0) rfl)) (allS (Or.inl (List.mem_of_getElem? (i := 1) rfl)) all0))
  clear K160 Kc164
  refine own_tr st164 ?_
  clear st164
  show own_Fin p e below G (T164.setTop (mkF m 23 #[rv a1, rv a2] []))
  refine own_st (fun _ k => XS.iconst X164.here hx rfl (hb hby d8_23) k) ?_
  show own_Fin p e below G (T164.setTop (mkF m 24 #[rv a1, rv a2] [(.int (1 : Int32))]))
  refine own_out X164 Bd.notSynchronized (v := (some (.int (1 : Int32)))) (fun h => by rw [Bd.returns] at h; cases h) hG (fun fs hr => retN X164 hx (t := .boolean) Bd.returns (by simp) (hb hby d8_24) hr) (by decide) (by decide) ?_
  exact ⟨rfl, N164, K166, gL164_0, gL164_1, gL164_2, gB164⟩

def Qrm_po (Z : State) (a1 : Addr) (p2 : Int32) (dr ed : Addr) (ke : ClassId) (fr : Addr) (h0 : Heap) (n0 : Nat) (v : Option Value) (h : Heap) (L : List Loc) : Prop := ∃ (bb : Addr) (kb : ClassId) (bp : Addr) (kp : ClassId), v = none ∧ Fr n0 L ∧ Keep h0 h [a1] ∧ h0.size ≤ bb ∧ h0.size ≤ bp ∧ bb ≠ bp ∧ Fld Z h a1 "com/example/urania/urania/layered/Ports" "border" "[Lcom/example/urania/urania/layered/FlowSide;" (.ref bb) ∧ Fld Z h a1 "com/example/urania/urania/layered/Ports" "borderPort" "[[D" (.ref bp) ∧ own_AVk Z h bb kb (.object "com/example/urania/urania/layered/FlowSide") (List.replicate p2.toNatClampNeg .null) ∧ Exa Z h bb "[Lcom/example/urania/urania/layered/FlowSide;" ∧ Ovr Z kb "com/example/urania/urania/layered/FlowSide" ∧ own_AVk Z h bp kp (.array .double) (List.replicate p2.toNatClampNeg .null) ∧ OvrA Z kp .double "[D"
theorem d2_0 : decode prog_81_method_1_code 0 = .ok (.aload_n 0, 1) := by decide +kernel
theorem d2_1 : decode prog_81_method_1_code 1 = .ok (.invokespecial 1, 3) := by decide +kernel
theorem d2_4 : decode prog_81_method_1_code 4 = .ok (.aload_n 0, 1) := by decide +kernel
theorem d2_5 : decode prog_81_method_1_code 5 = .ok (.new 7, 3) := by decide +kernel
theorem d2_8 : decode prog_81_method_1_code 8 = .ok (.dup, 1) := by decide +kernel
theorem d2_9 : decode prog_81_method_1_code 9 = .ok (.invokespecial 9, 3) := by decide +kernel
theorem d2_12 : decode prog_81_method_1_code 12 = .ok (.putfield 10, 3) := by decide +kernel
theorem d2_15 : decode prog_81_method_1_code 15 = .ok (.aload_n 0, 1) := by decide +kernel
theorem d2_16 : decode prog_81_method_1_code 16 = .ok (.new 7, 3) := by decide +kernel
theorem d2_19 : decode prog_81_method_1_code 19 = .ok (.dup, 1) := by decide +kernel
theorem d2_20 : decode prog_81_method_1_code 20 = .ok (.invokespecial 9, 3) := by decide +kernel
theorem d2_23 : decode prog_81_method_1_code 23 = .ok (.putfield 16, 3) := by decide +kernel
theorem d2_26 : decode prog_81_method_1_code 26 = .ok (.aload_n 0, 1) := by decide +kernel
theorem d2_27 : decode prog_81_method_1_code 27 = .ok (.aload_n 3, 1) := by decide +kernel
theorem d2_28 : decode prog_81_method_1_code 28 = .ok (.putfield 19, 3) := by decide +kernel
theorem d2_31 : decode prog_81_method_1_code 31 = .ok (.aload_n 0, 1) := by decide +kernel
theorem d2_32 : decode prog_81_method_1_code 32 = .ok (.iload_n 1, 1) := by decide +kernel
theorem d2_33 : decode prog_81_method_1_code 33 = .ok (.anewarray 23, 3) := by decide +kernel
theorem d2_36 : decode prog_81_method_1_code 36 = .ok (.putfield 25, 3) := by decide +kernel
theorem d2_39 : decode prog_81_method_1_code 39 = .ok (.aload_n 0, 1) := by decide +kernel
theorem d2_40 : decode prog_81_method_1_code 40 = .ok (.getfield 25, 3) := by decide +kernel
theorem d2_43 : decode prog_81_method_1_code 43 = .ok (.getstatic 29, 3) := by decide +kernel
theorem d2_46 : decode prog_81_method_1_code 46 = .ok (.invokestatic 33, 3) := by decide +kernel
theorem pd___Ljava_lang_Object_Ljava_lang_Object__V_595 : parseMethodDescriptor "([Ljava/lang/Object;Ljava/lang/Object;)V" = some ⟨[(.array (.object "java/lang/Object")), (.object "java/lang/Object")], none⟩ := by decide +kernel
theorem d2_49 : decode prog_81_method_1_code 49 = .ok (.iconst 0, 1) := by decide +kernel
theorem d2_50 : decode prog_81_method_1_code 50 = .ok (.istore 4, 2) := by decide +kernel
theorem d2_52 : decode prog_81_method_1_code 52 = .ok (.iload 4, 2) := by decide +kernel
theorem d2_54 : decode prog_81_method_1_code 54 = .ok (.iload_n 1, 1) := by decide +kernel
theorem d2_55 : decode prog_81_method_1_code 55 = .ok (.if_icmp .ge 26, 3) := by decide +kernel
theorem d2_58 : decode prog_81_method_1_code 58 = .ok (.aload_n 0, 1) := by decide +kernel
theorem d2_59 : decode prog_81_method_1_code 59 = .ok (.getfield 10, 3) := by decide +kernel
theorem d2_62 : decode prog_81_method_1_code 62 = .ok (.new 7, 3) := by decide +kernel
theorem d2_65 : decode prog_81_method_1_code 65 = .ok (.dup, 1) := by decide +kernel
theorem d2_66 : decode prog_81_method_1_code 66 = .ok (.invokespecial 9, 3) := by decide +kernel
theorem d2_69 : decode prog_81_method_1_code 69 = .ok (.invokeinterface 39 2, 5) := by decide +kernel
theorem pd__Ljava_lang_Object__Z_838 : parseMethodDescriptor "(Ljava/lang/Object;)Z" = some ⟨[(.object "java/lang/Object")], some .boolean⟩ := by decide +kernel
theorem d2_74 : decode prog_81_method_1_code 74 = .ok (.pop, 1) := by decide +kernel
theorem d2_75 : decode prog_81_method_1_code 75 = .ok (.iinc 4 1, 3) := by decide +kernel
theorem d2_78 : decode prog_81_method_1_code 78 = .ok (.goto (-26), 3) := by decide +kernel
theorem d2_81 : decode prog_81_method_1_code 81 = .ok (.aload_n 0, 1) := by decide +kernel
theorem d2_82 : decode prog_81_method_1_code 82 = .ok (.iload_n 1, 1) := by decide +kernel
theorem d2_83 : decode prog_81_method_1_code 83 = .ok (.anewarray 45, 3) := by decide +kernel
theorem d2_86 : decode prog_81_method_1_code 86 = .ok (.putfield 47, 3) := by decide +kernel
theorem d2_89 : decode prog_81_method_1_code 89 = .ok (.aload_n 0, 1) := by decide +kernel
theorem d2_90 : decode prog_81_method_1_code 90 = .ok (.iload_n 1, 1) := by decide +kernel
theorem d2_91 : decode prog_81_method_1_code 91 = .ok (.anewarray 51, 3) := by decide +kernel
theorem d2_94 : decode prog_81_method_1_code 94 = .ok (.putfield 53, 3) := by decide +kernel
theorem d2_97 : decode prog_81_method_1_code 97 = .ok (.aload_n 0, 1) := by decide +kernel
theorem d2_98 : decode prog_81_method_1_code 98 = .ok (.iload_n 2, 1) := by decide +kernel
theorem d2_99 : decode prog_81_method_1_code 99 = .ok (.newarray .int, 2) := by decide +kernel
theorem d2_101 : decode prog_81_method_1_code 101 = .ok (.putfield 57, 3) := by decide +kernel
theorem d2_104 : decode prog_81_method_1_code 104 = .ok (.aload_n 0, 1) := by decide +kernel
theorem d2_105 : decode prog_81_method_1_code 105 = .ok (.iload_n 2, 1) := by decide +kernel
theorem d2_106 : decode prog_81_method_1_code 106 = .ok (.newarray .int, 2) := by decide +kernel
theorem d2_108 : decode prog_81_method_1_code 108 = .ok (.putfield 61, 3) := by decide +kernel
theorem d2_111 : decode prog_81_method_1_code 111 = .ok (.aload_n 0, 1) := by decide +kernel
theorem d2_112 : decode prog_81_method_1_code 112 = .ok (.iload_n 2, 1) := by decide +kernel
theorem d2_113 : decode prog_81_method_1_code 113 = .ok (.newarray .int, 2) := by decide +kernel
theorem d2_115 : decode prog_81_method_1_code 115 = .ok (.putfield 64, 3) := by decide +kernel
theorem d2_118 : decode prog_81_method_1_code 118 = .ok (.aload_n 0, 1) := by decide +kernel
theorem d2_119 : decode prog_81_method_1_code 119 = .ok (.getfield 57, 3) := by decide +kernel
theorem d2_122 : decode prog_81_method_1_code 122 = .ok (.iconst (-1), 1) := by decide +kernel
theorem d2_123 : decode prog_81_method_1_code 123 = .ok (.invokestatic 67, 3) := by decide +kernel
theorem pd___II_V_404 : parseMethodDescriptor "([II)V" = some ⟨[(.array .int), .int], none⟩ := by decide +kernel
theorem d2_126 : decode prog_81_method_1_code 126 = .ok (.aload_n 0, 1) := by decide +kernel
theorem d2_127 : decode prog_81_method_1_code 127 = .ok (.getfield 61, 3) := by decide +kernel
theorem d2_130 : decode prog_81_method_1_code 130 = .ok (.iconst (-1), 1) := by decide +kernel
theorem d2_131 : decode prog_81_method_1_code 131 = .ok (.invokestatic 67, 3) := by decide +kernel
theorem d2_134 : decode prog_81_method_1_code 134 = .ok (.iconst 0, 1) := by decide +kernel
theorem d2_135 : decode prog_81_method_1_code 135 = .ok (.istore 4, 2) := by decide +kernel
theorem d2_137 : decode prog_81_method_1_code 137 = .ok (.iload 4, 2) := by decide +kernel
theorem d2_139 : decode prog_81_method_1_code 139 = .ok (.iload_n 2, 1) := by decide +kernel
theorem d2_140 : decode prog_81_method_1_code 140 = .ok (.if_icmp .ge 18, 3) := by decide +kernel
theorem d2_158 : decode prog_81_method_1_code 158 = .ok (.return_, 1) := by decide +kernel
theorem pn_com_example_urania_urania_layered_Ports : plainName "com/example/urania/urania/layered/Ports" = true := by first | (simp [plainName, overriddenIn]; done) | decide +kernel
theorem ef_2_RIIR (m : MethodId) (x0 : Addr) (x1 : Int32) (x2 : Int32) (x3 : Addr) : entryFrame m #[(.ref x0), (.int x1), (.int x2), (.ref x3)] 5 = mkF m 0 #[rv x0, iv x1, iv x2, rv x3, .unset] [] := by first | (simp [entryFrame, mkF, argsToLocals, Value.category]; done) | rfl
set_option maxRecDepth 65536 in
set_option maxHeartbeats 40000000 in
theorem rm_po4 (l : Launch) (Z : State) (a0 : Array Value) (hw : ∀ d ∈ tables_1, d.before a0 Z = true) (ws : List Jvm.Cond) (a1 : Addr) (dr : Addr) (ed : Addr) (ke : ClassId) (fr : Addr) (h0 : Heap) (n0 : Nat) (Z0 : n0 ≤ h0.size) (E1 : Exa Z h0 a1 "com/example/urania/urania/layered/Ports") (F_ofNode : Fld Z h0 a1 "com/example/urania/urania/layered/Ports" "ofNode" "Ljava/util/List;" .null) (F_specs : Fld Z h0 a1 "com/example/urania/urania/layered/Ports" "specs" "Ljava/util/List;" .null) (F_direction : Fld Z h0 a1 "com/example/urania/urania/layered/Ports" "direction" "Lcom/example/urania/urania/Direction;" .null) (F_freedom : Fld Z h0 a1 "com/example/urania/urania/layered/Ports" "freedom" "[Lcom/example/urania/urania/layered/Ports$Freedom;" .null) (F_border : Fld Z h0 a1 "com/example/urania/urania/layered/Ports" "border" "[Lcom/example/urania/urania/layered/FlowSide;" .null) (F_borderPort : Fld Z h0 a1 "com/example/urania/urania/layered/Ports" "borderPort" "[[D" .null) (F_sourcePort : Fld Z h0 a1 "com/example/urania/urania/layered/Ports" "sourcePort" "[I" .null) (F_targetPort : Fld Z h0 a1 "com/example/urania/urania/layered/Ports" "targetPort" "[I" .null) (F_group : Fld Z h0 a1 "com/example/urania/urania/layered/Ports" "group" "[I" .null) (g1 : n0 ≤ a1) (Sed : Sta Z h0 "java/util/ArrayList" "DEFAULTCAPACITY_EMPTY_ELEMENTDATA" "[Ljava/lang/Object;" (.ref ed)) (Bed : own_AVk Z h0 ed ke (.object "java/lang/Object") []) (ned : ed ≠ a1) (Sfr : Sta Z h0 "com/example/urania/urania/layered/Ports$Freedom" "FREE" "Lcom/example/urania/urania/layered/Ports$Freedom;" (.ref fr)) (Efr : Exa Z h0 fr "com/example/urania/urania/layered/Ports$Freedom") :
    MetFree l own_y11 (head1 (Jvm.Cond.code own_y11 prog_81_method_1_code 5 none :: ws) ({ frames := 5, cells := 13, slots := 40, locals := 69 } : Room)) (fun a U => a = #[(.ref a1), (.int (4 : Int32)), (.int (0 : Int32)), (.ref dr)] ∧ Z.Warmed39 U.vm ∧ U.heap = h0) (fun _ _ _ _ _ => True) (fun _ U o U' => ∃ v L, o = .returned v ∧ Qrm_po Z a1 (4 : Int32) dr ed ke fr h0 n0 v U'.heap L ∧ FrameEnd U o U' L ({ frames := 5, cells := 13, slots := 40, locals := 69 } : Room).cells ({ frames := 5, cells := 13, slots := 40, locals := 69 } : Room).slots) := by
  refine MetFree.of_bodySF (plainFor_of_name pn_com_example_urania_urania_layered_Ports) hisR ?_
  intro p e s m args below meth c s₁ Bd hml0 hP hK
  obtain ⟨rfl, hZ, hh⟩ := hP
  have hx := Bd.exec
  have hby := Bd.bytes
  have hml : c.maxLocals = 5 := hml0
  have hown : s.vm.findClass "com/example/urania/urania/layered/Ports" = some m.cls := findClass_of_methodNamed Bd.named
  have hnm := (name_of_methodNamed Bd.named Bd.method).1
  have X0 : Stand p l e ({ frames := 5, cells := 13, slots := 40, locals := 69 } : Room) s m #[(.ref a1), (.int (4 : Int32)), (.int (0 : Int32)), (.ref dr)] below meth c s₁ [] 0 0 := Stand.of_body Bd
  have e0 : s₁.heap = h0 := by rw [← hh, Bd.state]; rfl
  have N0 := Fr.nil n0
  have K0 : Keep h0 h0 [a1] := Keep.refl _ _
  refine own_start (Qk := Qrm_po Z a1 (4 : Int32) dr ed ke fr h0 n0) (fun G hG => ?_)
  refine own_st (fun _ k => castTop (ef_2_RIIR m a1 (4 : Int32) (0 : Int32) dr) k) ?_
  show own_Fin p e below G (s₁.setTop (mkF m 0 #[rv a1, iv (4 : Int32), iv (0 : Int32), rv dr, .unset] []))
  refine own_st (fun _ k => XS.aloadN X0.here hx rfl (hb hby d2_0) rfl rfl k) ?_
  show own_Fin p e below G (s₁.setTop (mkF m 1 #[rv a1, iv (4 : Int32), iv (0 : Int32), rv dr, .unset] [(.ref a1)]))
  obtain ⟨T167, X167, e167, st167⟩ := initO X0 hx hZ hown (own_w hw 17 rfl) (own_w hw 18 rfl) (own_w hw 19 rfl) e0 (g := (mkF m 1 #[rv a1, iv (4 : Int32), iv (0 : Int32), rv dr, .unset] [(.ref a1)])) rfl (by rw [hml]; rfl) rfl (hb hby d2_1) (by decide) (W := 0) (by show 2 * 0 + _ ≤ _; exact Nat.le_of_eq rfl) (by decide)
  clear X0 e0
  refine own_st st167 ?_
  clear st167
  show own_Fin p e below G (T167.setTop (mkF m 4 #[rv a1, iv (4 : Int32), iv (0 : Int32), rv dr, .unset] []))
  refine own_st (fun _ k => XS.aloadN X167.here hx rfl (hb hby d2_4) rfl rfl k) ?_
  show own_Fin p e below G (T167.setTop (mkF m 5 #[rv a1, iv (4 : Int32), iv (0 : Int32), rv dr, .unset] [(.ref a1)]))
  obtain ⟨T168, h168, X168, e168, E168, A168, D168, M168, st168⟩ := newO X167 hx hZ hown (own_w hw 20 rfl) (own_w hw 21 rfl) (own_w hw 22 rfl) e167 (g := (mkF m 5 #[rv a1, iv (4 : Int32), iv (0 : Int32), rv dr, .unset] [(.ref a1)])) rfl (hb hby d2_5) (by decide) (by decide)
  clear X167 e167 M168
  obtain ⟨b168, g168⟩ : ∃ z, z = h0.size := ⟨_, rfl⟩
  rw [← g168] at A168 D168 st168
  have ne_a1_b168 : a1 ≠ b168 := Nat.ne_of_lt (Nat.lt_of_lt_of_le E1.lt (Nat.le_of_eq g168.symm))
  have ne_ed_b168 : ed ≠ b168 := Nat.ne_of_lt (Nat.lt_of_lt_of_le Bed.lt (Nat.le_of_eq g168.symm))
  have ne_fr_b168 : fr ≠ b168 := Nat.ne_of_lt (Nat.lt_of_lt_of_le Efr.lt (Nat.le_of_eq g168.symm))
  have sz_b168 : h0.size ≤ b168 := Nat.le_trans K0.1 (Nat.le_of_eq g168.symm)
  have g_b168 : n0 ≤ b168 := Nat.le_trans Z0 sz_b168
  have f169_0 := E1.ext E168
  clear E1
  have f169_1 := F_ofNode.ext E168
  have f169_2 := F_specs.ext E168
  have f169_3 := F_direction.ext E168
  have f169_4 := F_freedom.ext E168
  have f169_5 := F_border.ext E168
  have f169_6 := F_borderPort.ext E168
  have f169_7 := F_sourcePort.ext E168
  have f169_8 := F_targetPort.ext E168
  have f169_9 := F_group.ext E168
  have f169_10 := Sed.ext E168
  have f169_11 := Bed.ext E168
  have f169_12 := Sfr.ext E168
  have f169_13 := Efr.ext E168
  have K170 : Keep h0 h168 [a1] := K0.ext E168
  clear K0 E168
  have f171 : Fld Z h168 b168 "java/util/AbstractList" "modCount" "I" (.int (0 : Int32)) := D168 (Or.inl (own_w hw 40 rfl)) (ty := .int) (by decide)
  have f172 : Fld Z h168 b168 "java/util/ArrayList" "elementData" "[Ljava/lang/Object;" .null := D168 (Or.inl (own_w hw 43 rfl)) (ty := (.array (.object "java/lang/Object"))) (by decide)
  have f173 : Fld Z h168 b168 "java/util/ArrayList" "size" "I" (.int (0 : Int32)) := D168 (Or.inl (own_w hw 74 rfl)) (ty := .int) (by decide)
  clear D168
  refine own_st st168 ?_
  clear st168
  show own_Fin p e below G (T168.setTop (mkF m 8 #[rv a1, iv (4 : Int32), iv (0 : Int32), rv dr, .unset] [(.ref b168), (.ref a1)]))
  refine own_st (fun _ k => XS.dup X168.here hx rfl (hb hby d2_8) rfl rfl k) ?_
  show own_Fin p e below G (T168.setTop (mkF m 9 #[rv a1, iv (4 : Int32), iv (0 : Int32), rv dr, .unset] [(.ref b168), (.ref b168), (.ref a1)]))
  obtain ⟨_, _, ⟨T174, L174, k174, n174⟩, -, X174, ⟨Lc174, hQ174, l174, y174, z174⟩, st174⟩ := X168.specialBack hx (y := own_y3) rfl hown (mvT hZ (own_w hw 23 rfl)) (mvT hZ (own_w hw 24 rfl)) (mvT hZ (own_w hw 25 rfl)) (by decide) (backOf (W := 2) (rm_al l Z a0 hw [] b168 ed h168 n0 (Nat.le_trans Z0 K170.1) A168 f171 f172 f173 g_b168 f169_10) hZ (own_w hw 25 rfl) (own_w hw 22 rfl) (by decide) (by decide)) (g := (mkF m 9 #[rv a1, iv (4 : Int32), iv (0 : Int32), rv dr, .unset] [(.ref b168), (.ref b168), (.ref a1)])) rfl (by rw [hml]; rfl) (Steps.refl _) (a := b168) (argsL := []) (rest := [(.ref b168), (.ref a1)]) (lenOf pd___V_167 rfl) rfl (by show 2 * 0 + _ ≤ _; exact Nat.le_of_eq rfl) (hb hby d2_9) (fun _ _ => ⟨rfl, e168, (by decide : 1 + 0 ≤ _), (by decide : 3 + 0 ≤ _)⟩)
  clear X168 e168 f171 f172 f173
  dsimp only [Pt.U, Pt.locs, Pt.cells, Pt.slots] at X174 l174 y174 z174 st174 hQ174
  subst l174 y174 z174
  obtain ⟨rfl, N174q, Kc174, gL174_0, gL174_1, gL174_2⟩ := hQ174
  have N174 := Fr.app N0 N174q
  clear N0 N174q
  have f175_0 := f169_0.keep Kc174
  clear f169_0
  have f175_1 := f169_1.keep Kc174 (ninS ne_a1_b168 nin0)
  clear f169_1
  have f175_2 := f169_2.keep Kc174 (ninS ne_a1_b168 nin0)
  clear f169_2
  have f175_3 := f169_3.keep Kc174 (ninS ne_a1_b168 nin0)
  clear f169_3
  have f175_4 := f169_4.keep Kc174 (ninS ne_a1_b168 nin0)
  clear f169_4
  have f175_5 := f169_5.keep Kc174 (ninS ne_a1_b168 nin0)
  clear f169_5
  have f175_6 := f169_6.keep Kc174 (ninS ne_a1_b168 nin0)
  clear f169_6
  have f175_7 := f169_7.keep Kc174 (ninS ne_a1_b168 nin0)
  clear f169_7
  have f175_8 := f169_8.keep Kc174 (ninS ne_a1_b168 nin0)
  clear f169_8
  have f175_9 := f169_9.keep Kc174 (ninS ne_a1_b168 nin0)
  clear f169_9
  have f175_10 := own_Sta_keep f169_10 Kc174 (allS A168.cell all0)
  clear f169_10
  have f175_11 := f169_11.keep Kc174 (ninS ne_ed_b168 nin0)
  clear f169_11
  have f175_12 := own_Sta_keep f169_12 Kc174 (allS A168.cell all0)
  clear f169_12
  have f175_13 := f169_13.keep Kc174
  clear f169_13
  have f175_14 := A168.keep Kc174
  clear A168
  have K176 : Keep h0 T174.heap [a1] := K170.trans Kc174 (allS (Or.inr sz_b168) all0)
  clear K170 Kc174
  refine own_tr st174 ?_
  clear st174
  show own_Fin p e below G (T174.setTop (mkF m 12 #[rv a1, iv (4 : Int32), iv (0 : Int32), rv dr, .unset] [(.ref b168), (.ref a1)]))
  obtain ⟨T177, h177, X177, e177, W177, st177⟩ := putF X174 hx hZ hown (host := "") (Or.inl (own_w hw 44 rfl)) Via.refl rfl f175_1 f175_0 (Or.inr ⟨(own_w hw 45 rfl), rfl, hnm⟩) (own_w hw 9 rfl) (ty := (.object "java/util/List")) (by decide) rfl rfl (g := (mkF m 12 #[rv a1, iv (4 : Int32), iv (0 : Int32), rv dr, .unset] [(.ref b168), (.ref a1)])) rfl rfl (hb hby d2_12)
  clear X174
  have f178_0 := f175_0.wr W177
  clear f175_0
  have sl179 := slot_ne (Z := Z) (a0 := a0) (Or.inr (own_w hw 47 rfl)) (Or.inr (own_w hw 45 rfl)) (by decide) (t := (.object "java/util/List")) (t' := (.object "java/util/List")) (by decide) (by decide)
  have f178_2 := f175_2.other W177 (Or.inr sl179)
  clear f175_2
  have sl180 := slot_ne (Z := Z) (a0 := a0) (Or.inr (own_w hw 49 rfl)) (Or.inr (own_w hw 45 rfl)) (by decide) (t := (.object "com/example/urania/urania/Direction")) (t' := (.object "java/util/List")) (by decide) (by decide)
  have f178_3 := f175_3.other W177 (Or.inr sl180)
  clear f175_3
  have sl181 := slot_ne (Z := Z) (a0 := a0) (Or.inr (own_w hw 53 rfl)) (Or.inr (own_w hw 45 rfl)) (by decide) (t := (.array (.object "com/example/urania/urania/layered/Ports$Freedom"))) (t' := (.object "java/util/List")) (by decide) (by decide)
  have f178_4 := f175_4.other W177 (Or.inr sl181)
  clear f175_4
  have sl182 := slot_ne (Z := Z) (a0 := a0) (Or.inr (own_w hw 100 rfl)) (Or.inr (own_w hw 45 rfl)) (by decide) (t := (.array (.object "com/example/urania/urania/layered/FlowSide"))) (t' := (.object "java/util/List")) (by decide) (by decide)
  have f178_5 := f175_5.other W177 (Or.inr sl182)
  clear f175_5
  have sl183 := slot_ne (Z := Z) (a0 := a0) (Or.inr (own_w hw 104 rfl)) (Or.inr (own_w hw 45 rfl)) (by decide) (t := (.array (.array .double))) (t' := (.object "java/util/List")) (by decide) (by decide)
  have f178_6 := f175_6.other W177 (Or.inr sl183)
  clear f175_6
  have sl184 := slot_ne (Z := Z) (a0 := a0) (Or.inr (own_w hw 107 rfl)) (Or.inr (own_w hw 45 rfl)) (by decide) (t := (.array .int)) (t' := (.object "java/util/List")) (by decide) (by decide)
  have f178_7 := f175_7.other W177 (Or.inr sl184)
  clear f175_7
  have sl185 := slot_ne (Z := Z) (a0 := a0) (Or.inr (own_w hw 109 rfl)) (Or.inr (own_w hw 45 rfl)) (by decide) (t := (.array .int)) (t' := (.object "java/util/List")) (by decide) (by decide)
  have f178_8 := f175_8.other W177 (Or.inr sl185)
  clear f175_8
  have sl186 := slot_ne (Z := Z) (a0 := a0) (Or.inr (own_w hw 111 rfl)) (Or.inr (own_w hw 45 rfl)) (by decide) (t := (.array .int)) (t' := (.object "java/util/List")) (by decide) (by decide)
  have f178_9 := f175_9.other W177 (Or.inr sl186)
  clear f175_9
  have f178_10 := f175_10.wr W177
  clear f175_10
  have f178_11 := f175_11.other W177 ned
  clear f175_11
  have f178_12 := f175_12.wr W177
  clear f175_12
  have f178_13 := f175_13.wr W177
  clear f175_13
  have f178_14 := f175_14.wr W177
  clear f175_14
  have f178_15 := gL174_0.other W177 (Or.inl (Ne.symm ne_a1_b168))
  have f178_16 := gL174_1.other W177 (Or.inl (Ne.symm ne_a1_b168))
  have f178_17 := gL174_2.other W177 (Or.inl (Ne.symm ne_a1_b168))
  have K187 : Keep h0 h177 [a1] := K176.wr W177 (Or.inl (List.mem_of_getElem? (i := 0) rfl))
  clear K176
  have N188 := Fr.snoc X177 N174 g1
  clear N174
  have Fw177 : Fld Z h177 a1 "com/example/urania/urania/layered/Ports" "ofNode" "Ljava/util/List;" (.ref b168) := f175_1.same W177
  clear f175_1 W177
  refine own_st st177 ?_
  clear st177
  show own_Fin p e below G (T177.setTop (mkF m 15 #[rv a1, iv (4 : Int32), iv (0 : Int32), rv dr, .unset] []))
  refine own_st (fun _ k => XS.aloadN X177.here hx rfl (hb hby d2_15) rfl rfl k) ?_
  show own_Fin p e below G (T177.setTop (mkF m 16 #[rv a1, iv (4 : Int32), iv (0 : Int32), rv dr, .unset] [(.ref a1)]))
  obtain ⟨T189, h189, X189, e189, E189, A189, D189, M189, st189⟩ := newO X177 hx hZ hown (own_w hw 20 rfl) (own_w hw 21 rfl) (own_w hw 22 rfl) e177 (g := (mkF m 16 #[rv a1, iv (4 : Int32), iv (0 : Int32), rv dr, .unset] [(.ref a1)])) rfl (hb hby d2_16) (by decide) (by decide)
  clear X177 e177 M189
  obtain ⟨b189, g189⟩ : ∃ z, z = h177.size := ⟨_, rfl⟩
  rw [← g189] at A189 D189 st189
  have ne_a1_b189 : a1 ≠ b189 := Nat.ne_of_lt (Nat.lt_of_lt_of_le f178_0.lt (Nat.le_of_eq g189.symm))
  have ne_b168_b189 : b168 ≠ b189 := Nat.ne_of_lt (Nat.lt_of_lt_of_le f178_14.lt (Nat.le_of_eq g189.symm))
  have ne_ed_b189 : ed ≠ b189 := Nat.ne_of_lt (Nat.lt_of_lt_of_le f178_11.lt (Nat.le_of_eq g189.symm))
  have ne_fr_b189 : fr ≠ b189 := Nat.ne_of_lt (Nat.lt_of_lt_of_le f178_13.lt (Nat.le_of_eq g189.symm))
  have sz_b189 : h0.size ≤ b189 := Nat.le_trans K187.1 (Nat.le_of_eq g189.symm)
  have g_b189 : n0 ≤ b189 := Nat.le_trans Z0 sz_b189
  have f190_0 := f178_0.ext E189
  clear f178_0
  have f190_1 := Fw177.ext E189
  clear Fw177
  have f190_2 := f178_2.ext E189
  clear f178_2
  have f190_3 := f178_3.ext E189
  clear f178_3
  have f190_4 := f178_4.ext E189
  clear f178_4
  have f190_5 := f178_5.ext E189
  clear f178_5
  have f190_6 := f178_6.ext E189
  clear f178_6
  have f190_7 := f178_7.ext E189
  clear f178_7
  have f190_8 := f178_8.ext E189
  clear f178_8
  have f190_9 := f178_9.ext E189
  clear f178_9
  have f190_10 := f178_10.ext E189
  clear f178_10
  have f190_11 := f178_11.ext E189
  clear f178_11
  have f190_12 := f178_12.ext E189
  clear f178_12
  have f190_13 := f178_13.ext E189
  clear f178_13
  have f190_14 := f178_14.ext E189
  clear f178_14
  have f190_15 := f178_15.ext E189
  clear f178_15
  have f190_16 := f178_16.ext E189
  clear f178_16
  have f190_17 := f178_17.ext E189
  clear f178_17
  have K191 : Keep h0 h189 [a1] := K187.ext E189
  clear K187 E189
  have f192 : Fld Z h189 b189 "java/util/AbstractList" "modCount" "I" (.int (0 : Int32)) := D189 (Or.inl (own_w hw 40 rfl)) (ty := .int) (by decide)
  have f193 : Fld Z h189 b189 "java/util/ArrayList" "elementData" "[Ljava/lang/Object;" .null := D189 (Or.inl (own_w hw 43 rfl)) (ty := (.array (.object "java/lang/Object"))) (by decide)
  have f194 : Fld Z h189 b189 "java/util/ArrayList" "size" "I" (.int (0 : Int32)) := D189 (Or.inl (own_w hw 74 rfl)) (ty := .int) (by decide)
  clear D189
  refine own_st st189 ?_
  clear st189
  show own_Fin p e below G (T189.setTop (mkF m 19 #[rv a1, iv (4 : Int32), iv (0 : Int32), rv dr, .unset] [(.ref b189), (.ref a1)]))
  refine own_st (fun _ k => XS.dup X189.here hx rfl (hb hby d2_19) rfl rfl k) ?_
  show own_Fin p e below G (T189.setTop (mkF m 20 #[rv a1, iv (4 : Int32), iv (0 : Int32), rv dr, .unset] [(.ref b189), (.ref b189), (.ref a1)]))
  obtain ⟨_, _, ⟨T195, L195, k195, n195⟩, -, X195, ⟨Lc195, hQ195, l195, y195, z195⟩, st195⟩ := X189.specialBack hx (y := own_y3) rfl hown (mvT hZ (own_w hw 23 rfl)) (mvT hZ (own_w hw 24 rfl)) (mvT hZ (own_w hw 25 rfl)) (by decide) (backOf (W := 2) (rm_al l Z a0 hw [] b189 ed h189 n0 (Nat.le_trans Z0 K191.1) A189 f192 f193 f194 g_b189 f190_10) hZ (own_w hw 25 rfl) (own_w hw 22 rfl) (by decide) (by decide)) (g := (mkF m 20 #[rv a1, iv (4 : Int32), iv (0 : Int32), rv dr, .unset] [(.ref b189), (.ref b189), (.ref a1)])) rfl (by rw [hml]; rfl) (Steps.refl _) (a := b189) (argsL := []) (rest := [(.ref b189), (.ref a1)]) (lenOf pd___V_167 rfl) rfl (by show 2 * 0 + _ ≤ _; exact Nat.le_of_eq rfl) (hb hby d2_20) (fun _ _ => ⟨rfl, e189, (by decide : 2 + 0 ≤ _), (by decide : 6 + 0 ≤ _)⟩)
  clear X189 e189 f192 f193 f194
  dsimp only [Pt.U, Pt.locs, Pt.cells, Pt.slots] at X195 l195 y195 z195 st195 hQ195
  subst l195 y195 z195
  obtain ⟨rfl, N195q, Kc195, gL195_0, gL195_1, gL195_2⟩ := hQ195
  have N195 := Fr.app N188 N195q
  clear N188 N195q
  have f196_0 := f190_0.keep Kc195
  clear f190_0
  have f196_1 := f190_1.keep Kc195 (ninS ne_a1_b189 nin0)
  clear f190_1
  have f196_2 := f190_2.keep Kc195 (ninS ne_a1_b189 nin0)
  clear f190_2
  have f196_3 := f190_3.keep Kc195 (ninS ne_a1_b189 nin0)
  clear f190_3
  have f196_4 := f190_4.keep Kc195 (ninS ne_a1_b189 nin0)
  clear f190_4
  have f196_5 := f190_5.keep Kc195 (ninS ne_a1_b189 nin0)
  clear f190_5
  have f196_6 := f190_6.keep Kc195 (ninS ne_a1_b189 nin0)
  clear f190_6
  have f196_7 := f190_7.keep Kc195 (ninS ne_a1_b189 nin0)
  clear f190_7
  have f196_8 := f190_8.keep Kc195 (ninS ne_a1_b189 nin0)
  clear f190_8
  have f196_9 := f190_9.keep Kc195 (ninS ne_a1_b189 nin0)
  clear f190_9
  have f196_10 := own_Sta_keep f190_10 Kc195 (allS A189.cell all0)
  clear f190_10
  have f196_11 := f190_11.keep Kc195 (ninS ne_ed_b189 nin0)
  clear f190_11
  have f196_12 := own_Sta_keep f190_12 Kc195 (allS A189.cell all0)
  clear f190_12
  have f196_13 := f190_13.keep Kc195
  clear f190_13
  have f196_14 := f190_14.keep Kc195
  clear f190_14
  have f196_15 := f190_15.keep Kc195 (ninS ne_b168_b189 nin0)
  clear f190_15
  have f196_16 := f190_16.keep Kc195 (ninS ne_b168_b189 nin0)
  clear f190_16
  have f196_17 := f190_17.keep Kc195 (ninS ne_b168_b189 nin0)
  clear f190_17
  have f196_18 := A189.keep Kc195
  clear A189
  have K197 : Keep h0 T195.heap [a1] := K191.trans Kc195 (allS (Or.inr sz_b189) all0)
  clear K191 Kc195
  refine own_tr st195 ?_
  clear st195
  show own_Fin p e below G (T195.setTop (mkF m 23 #[rv a1, iv (4 : Int32), iv (0 : Int32), rv dr, .unset] [(.ref b189), (.ref a1)]))
  obtain ⟨T198, h198, X198, e198, W198, st198⟩ := putF X195 hx hZ hown (host := "") (Or.inl (own_w hw 46 rfl)) Via.refl rfl f196_2 f196_0 (Or.inr ⟨(own_w hw 47 rfl), rfl, hnm⟩) (own_w hw 9 rfl) (ty := (.object "java/util/List")) (by decide) rfl rfl (g := (mkF m 23 #[rv a1, iv (4 : Int32), iv (0 : Int32), rv dr, .unset] [(.ref b189), (.ref a1)])) rfl rfl (hb hby d2_23)
  clear X195
  have f199_0 := f196_0.wr W198
  clear f196_0
  have sl200 := slot_ne (Z := Z) (a0 := a0) (Or.inr (own_w hw 45 rfl)) (Or.inr (own_w hw 47 rfl)) (by decide) (t := (.object "java/util/List")) (t' := (.object "java/util/List")) (by decide) (by decide)
  have f199_1 := f196_1.other W198 (Or.inr sl200)
  clear f196_1
  have sl201 := slot_ne (Z := Z) (a0 := a0) (Or.inr (own_w hw 49 rfl)) (Or.inr (own_w hw 47 rfl)) (by decide) (t := (.object "com/example/urania/urania/Direction")) (t' := (.object "java/util/List")) (by decide) (by decide)
  have f199_3 := f196_3.other W198 (Or.inr sl201)
  clear f196_3
  have sl202 := slot_ne (Z := Z) (a0 := a0) (Or.inr (own_w hw 53 rfl)) (Or.inr (own_w hw 47 rfl)) (by decide) (t := (.array (.object "com/example/urania/urania/layered/Ports$Freedom"))) (t' := (.object "java/util/List")) (by decide) (by decide)
  have f199_4 := f196_4.other W198 (Or.inr sl202)
  clear f196_4
  have sl203 := slot_ne (Z := Z) (a0 := a0) (Or.inr (own_w hw 100 rfl)) (Or.inr (own_w hw 47 rfl)) (by decide) (t := (.array (.object "com/example/urania/urania/layered/FlowSide"))) (t' := (.object "java/util/List")) (by decide) (by decide)
  have f199_5 := f196_5.other W198 (Or.inr sl203)
  clear f196_5
  have sl204 := slot_ne (Z := Z) (a0 := a0) (Or.inr (own_w hw 104 rfl)) (Or.inr (own_w hw 47 rfl)) (by decide) (t := (.array (.array .double))) (t' := (.object "java/util/List")) (by decide) (by decide)
  have f199_6 := f196_6.other W198 (Or.inr sl204)
  clear f196_6
  have sl205 := slot_ne (Z := Z) (a0 := a0) (Or.inr (own_w hw 107 rfl)) (Or.inr (own_w hw 47 rfl)) (by decide) (t := (.array .int)) (t' := (.object "java/util/List")) (by decide) (by decide)
  have f199_7 := f196_7.other W198 (Or.inr sl205)
  clear f196_7
  have sl206 := slot_ne (Z := Z) (a0 := a0) (Or.inr (own_w hw 109 rfl)) (Or.inr (own_w hw 47 rfl)) (by decide) (t := (.array .int)) (t' := (.object "java/util/List")) (by decide) (by decide)
  have f199_8 := f196_8.other W198 (Or.inr sl206)
  clear f196_8
  have sl207 := slot_ne (Z := Z) (a0 := a0) (Or.inr (own_w hw 111 rfl)) (Or.inr (own_w hw 47 rfl)) (by decide) (t := (.array .int)) (t' := (.object "java/util/List")) (by decide) (by decide)
  have f199_9 := f196_9.other W198 (Or.inr sl207)
  clear f196_9
  have f199_10 := f196_10.wr W198
  clear f196_10
  have f199_11 := f196_11.other W198 ned
  clear f196_11
  have f199_12 := f196_12.wr W198
  clear f196_12
  have f199_13 := f196_13.wr W198
  clear f196_13
  have f199_14 := f196_14.wr W198
  clear f196_14
  have f199_15 := f196_15.other W198 (Or.inl (Ne.symm ne_a1_b168))
  clear f196_15
  have f199_16 := f196_16.other W198 (Or.inl (Ne.symm ne_a1_b168))
  clear f196_16
  have f199_17 := f196_17.other W198 (Or.inl (Ne.symm ne_a1_b168))
  clear f196_17
  have f199_18 := f196_18.wr W198
  clear f196_18 f199_18
  have f199_19 := gL195_0.other W198 (Or.inl (Ne.symm ne_a1_b189))
  clear f199_19
  have f199_20 := gL195_1.other W198 (Or.inl (Ne.symm ne_a1_b189))
  clear f199_20
  have f199_21 := gL195_2.other W198 (Or.inl (Ne.symm ne_a1_b189))
  clear f199_21
  have K208 : Keep h0 h198 [a1] := K197.wr W198 (Or.inl (List.mem_of_getElem? (i := 0) rfl))
  clear K197
  have N209 := Fr.snoc X198 N195 g1
  clear N195
  have Fw198 : Fld Z h198 a1 "com/example/urania/urania/layered/Ports" "specs" "Ljava/util/List;" (.ref b189) := f196_2.same W198
  clear f196_2 W198
  refine own_st st198 ?_
  clear st198
  show own_Fin p e below G (T198.setTop (mkF m 26 #[rv a1, iv (4 : Int32), iv (0 : Int32), rv dr, .unset] []))
  refine own_st (fun _ k => XS.aloadN X198.here hx rfl (hb hby d2_26) rfl rfl k) ?_
  show own_Fin p e below G (T198.setTop (mkF m 27 #[rv a1, iv (4 : Int32), iv (0 : Int32), rv dr, .unset] [(.ref a1)]))
  refine own_st (fun _ k => XS.aloadN X198.here hx rfl (hb hby d2_27) rfl rfl k) ?_
  show own_Fin p e below G (T198.setTop (mkF m 28 #[rv a1, iv (4 : Int32), iv (0 : Int32), rv dr, .unset] [(.ref dr), (.ref a1)]))
  obtain ⟨T210, h210, X210, e210, W210, st210⟩ := putF X198 hx hZ hown (host := "") (Or.inl (own_w hw 48 rfl)) Via.refl e198 f199_3 f199_0 (Or.inr ⟨(own_w hw 49 rfl), rfl, hnm⟩) (own_w hw 9 rfl) (ty := (.object "com/example/urania/urania/Direction")) (by decide) rfl rfl (g := (mkF m 28 #[rv a1, iv (4 : Int32), iv (0 : Int32), rv dr, .unset] [(.ref dr), (.ref a1)])) rfl rfl (hb hby d2_28)
  clear X198 e198
  have f211_0 := f199_0.wr W210
  clear f199_0
  have sl212 := slot_ne (Z := Z) (a0 := a0) (Or.inr (own_w hw 45 rfl)) (Or.inr (own_w hw 49 rfl)) (by decide) (t := (.object "java/util/List")) (t' := (.object "com/example/urania/urania/Direction")) (by decide) (by decide)
  have f211_1 := f199_1.other W210 (Or.inr sl212)
  clear f199_1
  have sl213 := slot_ne (Z := Z) (a0 := a0) (Or.inr (own_w hw 47 rfl)) (Or.inr (own_w hw 49 rfl)) (by decide) (t := (.object "java/util/List")) (t' := (.object "com/example/urania/urania/Direction")) (by decide) (by decide)
  have f211_2 := Fw198.other W210 (Or.inr sl213)
  clear Fw198
  have sl214 := slot_ne (Z := Z) (a0 := a0) (Or.inr (own_w hw 53 rfl)) (Or.inr (own_w hw 49 rfl)) (by decide) (t := (.array (.object "com/example/urania/urania/layered/Ports$Freedom"))) (t' := (.object "com/example/urania/urania/Direction")) (by decide) (by decide)
  have f211_4 := f199_4.other W210 (Or.inr sl214)
  clear f199_4
  have sl215 := slot_ne (Z := Z) (a0 := a0) (Or.inr (own_w hw 100 rfl)) (Or.inr (own_w hw 49 rfl)) (by decide) (t := (.array (.object "com/example/urania/urania/layered/FlowSide"))) (t' := (.object "com/example/urania/urania/Direction")) (by decide) (by decide)
  have f211_5 := f199_5.other W210 (Or.inr sl215)
  clear f199_5
  have sl216 := slot_ne (Z := Z) (a0 := a0) (Or.inr (own_w hw 104 rfl)) (Or.inr (own_w hw 49 rfl)) (by decide) (t := (.array (.array .double))) (t' := (.object "com/example/urania/urania/Direction")) (by decide) (by decide)
  have f211_6 := f199_6.other W210 (Or.inr sl216)
  clear f199_6
  have sl217 := slot_ne (Z := Z) (a0 := a0) (Or.inr (own_w hw 107 rfl)) (Or.inr (own_w hw 49 rfl)) (by decide) (t := (.array .int)) (t' := (.object "com/example/urania/urania/Direction")) (by decide) (by decide)
  have f211_7 := f199_7.other W210 (Or.inr sl217)
  clear f199_7
  have sl218 := slot_ne (Z := Z) (a0 := a0) (Or.inr (own_w hw 109 rfl)) (Or.inr (own_w hw 49 rfl)) (by decide) (t := (.array .int)) (t' := (.object "com/example/urania/urania/Direction")) (by decide) (by decide)
  have f211_8 := f199_8.other W210 (Or.inr sl218)
  clear f199_8
  have sl219 := slot_ne (Z := Z) (a0 := a0) (Or.inr (own_w hw 111 rfl)) (Or.inr (own_w hw 49 rfl)) (by decide) (t := (.array .int)) (t' := (.object "com/example/urania/urania/Direction")) (by decide) (by decide)
  have f211_9 := f199_9.other W210 (Or.inr sl219)
  clear f199_9
  have f211_10 := f199_10.wr W210
  clear f199_10
  have f211_11 := f199_11.other W210 ned
  clear f199_11
  have f211_12 := f199_12.wr W210
  clear f199_12
  have f211_13 := f199_13.wr W210
  clear f199_13
  have f211_14 := f199_14.wr W210
  clear f199_14
  have f211_15 := f199_15.other W210 (Or.inl (Ne.symm ne_a1_b168))
  clear f199_15
  have f211_16 := f199_16.other W210 (Or.inl (Ne.symm ne_a1_b168))
  clear f199_16
  have f211_17 := f199_17.other W210 (Or.inl (Ne.symm ne_a1_b168))
  clear f199_17
  have K220 : Keep h0 h210 [a1] := K208.wr W210 (Or.inl (List.mem_of_getElem? (i := 0) rfl))
  clear K208
  have N221 := Fr.snoc X210 N209 g1
  clear N209
  have Fw210 : Fld Z h210 a1 "com/example/urania/urania/layered/Ports" "direction" "Lcom/example/urania/urania/Direction;" (.ref dr) := f199_3.same W210
  clear f199_3 W210
  refine own_st st210 ?_
  clear st210
  show own_Fin p e below G (T210.setTop (mkF m 31 #[rv a1, iv (4 : Int32), iv (0 : Int32), rv dr, .unset] []))
  refine own_st (fun _ k => XS.aloadN X210.here hx rfl (hb hby d2_31) rfl rfl k) ?_
  show own_Fin p e below G (T210.setTop (mkF m 32 #[rv a1, iv (4 : Int32), iv (0 : Int32), rv dr, .unset] [(.ref a1)]))
  refine own_st (fun _ k => XS.iloadN X210.here hx rfl (hb hby d2_32) rfl  k) ?_
  show own_Fin p e below G (T210.setTop (mkF m 33 #[rv a1, iv (4 : Int32), iv (0 : Int32), rv dr, .unset] [(.int (4 : Int32)), (.ref a1)]))
  obtain ⟨T222, h222, k222, X222, e222, E222, A222, B222, O222, st222⟩ := newRE X210 hx hZ hown (own_w hw 50 rfl) (own_w hw 51 rfl) e210 (g := (mkF m 33 #[rv a1, iv (4 : Int32), iv (0 : Int32), rv dr, .unset] [(.int (4 : Int32)), (.ref a1)])) rfl (hb hby d2_33) rfl (by decide) (cap := 4) (by decide) (by decide) (by decide) (by decide) (ad := "[Lcom/example/urania/urania/layered/Ports$Freedom;") (by decide +kernel)
  clear X210 e210
  obtain ⟨b222, g222⟩ : ∃ z, z = h210.size := ⟨_, rfl⟩
  rw [← g222] at A222 B222 st222
  have ne_a1_b222 : a1 ≠ b222 := Nat.ne_of_lt (Nat.lt_of_lt_of_le f211_0.lt (Nat.le_of_eq g222.symm))
  have ne_b168_b222 : b168 ≠ b222 := Nat.ne_of_lt (Nat.lt_of_lt_of_le f211_14.lt (Nat.le_of_eq g222.symm))
  have ne_ed_b222 : ed ≠ b222 := Nat.ne_of_lt (Nat.lt_of_lt_of_le f211_11.lt (Nat.le_of_eq g222.symm))
  have ne_fr_b222 : fr ≠ b222 := Nat.ne_of_lt (Nat.lt_of_lt_of_le f211_13.lt (Nat.le_of_eq g222.symm))
  have sz_b222 : h0.size ≤ b222 := Nat.le_trans K220.1 (Nat.le_of_eq g222.symm)
  have g_b222 : n0 ≤ b222 := Nat.le_trans Z0 sz_b222
  have f223_0 := f211_0.ext E222
  clear f211_0
  have f223_1 := f211_1.ext E222
  clear f211_1
  have f223_2 := f211_2.ext E222
  clear f211_2
  have f223_3 := Fw210.ext E222
  clear Fw210
  have f223_4 := f211_4.ext E222
  clear f211_4
  have f223_5 := f211_5.ext E222
  clear f211_5
  have f223_6 := f211_6.ext E222
  clear f211_6
  have f223_7 := f211_7.ext E222
  clear f211_7
  have f223_8 := f211_8.ext E222
  clear f211_8
  have f223_9 := f211_9.ext E222
  clear f211_9
  have f223_10 := f211_10.ext E222
  clear f211_10
  have f223_11 := f211_11.ext E222
  clear f211_11
  have f223_12 := f211_12.ext E222
  clear f211_12
  have f223_13 := f211_13.ext E222
  clear f211_13
  have f223_14 := f211_14.ext E222
  clear f211_14
  have f223_15 := f211_15.ext E222
  clear f211_15
  have f223_16 := f211_16.ext E222
  clear f211_16
  have f223_17 := f211_17.ext E222
  clear f211_17
  have K224 : Keep h0 h222 [a1] := K220.ext E222
  clear K220 E222
  have V222 : own_AVk Z h222 b222 k222 (.object "com/example/urania/urania/layered/Ports$Freedom") [.null, .null, .null, .null] := own_AVk_new A222
  clear A222
  refine own_st st222 ?_
  clear st222
  show own_Fin p e below G (T222.setTop (mkF m 36 #[rv a1, iv (4 : Int32), iv (0 : Int32), rv dr, .unset] [(.ref b222), (.ref a1)]))
  obtain ⟨T225, h225, X225, e225, W225, st225⟩ := putF X222 hx hZ hown (host := "") (Or.inl (own_w hw 52 rfl)) Via.refl e222 f223_4 f223_0 (Or.inr ⟨(own_w hw 53 rfl), rfl, hnm⟩) (own_w hw 9 rfl) (ty := (.array (.object "com/example/urania/urania/layered/Ports$Freedom"))) (by decide) rfl rfl (g := (mkF m 36 #[rv a1, iv (4 : Int32), iv (0 : Int32), rv dr, .unset] [(.ref b222), (.ref a1)])) rfl rfl (hb hby d2_36)
  clear X222 e222
  have f226_0 := f223_0.wr W225
  clear f223_0
  have sl227 := slot_ne (Z := Z) (a0 := a0) (Or.inr (own_w hw 45 rfl)) (Or.inr (own_w hw 53 rfl)) (by decide) (t := (.object "java/util/List")) (t' := (.array (.object "com/example/urania/urania/layered/Ports$Freedom"))) (by decide) (by decide)
  have f226_1 := f223_1.other W225 (Or.inr sl227)
  clear f223_1
  have sl228 := slot_ne (Z := Z) (a0 := a0) (Or.inr (own_w hw 47 rfl)) (Or.inr (own_w hw 53 rfl)) (by decide) (t := (.object "java/util/List")) (t' := (.array (.object "com/example/urania/urania/layered/Ports$Freedom"))) (by decide) (by decide)
  have f226_2 := f223_2.other W225 (Or.inr sl228)
  clear f223_2
  have sl229 := slot_ne (Z := Z) (a0 := a0) (Or.inr (own_w hw 49 rfl)) (Or.inr (own_w hw 53 rfl)) (by decide) (t := (.object "com/example/urania/urania/Direction")) (t' := (.array (.object "com/example/urania/urania/layered/Ports$Freedom"))) (by decide) (by decide)
  have f226_3 := f223_3.other W225 (Or.inr sl229)
  clear f223_3
  have sl230 := slot_ne (Z := Z) (a0 := a0) (Or.inr (own_w hw 100 rfl)) (Or.inr (own_w hw 53 rfl)) (by decide) (t := (.array (.object "com/example/urania/urania/layered/FlowSide"))) (t' := (.array (.object "com/example/urania/urania/layered/Ports$Freedom"))) (by decide) (by decide)
  have f226_5 := f223_5.other W225 (Or.inr sl230)
  clear f223_5
  have sl231 := slot_ne (Z := Z) (a0 := a0) (Or.inr (own_w hw 104 rfl)) (Or.inr (own_w hw 53 rfl)) (by decide) (t := (.array (.array .double))) (t' := (.array (.object "com/example/urania/urania/layered/Ports$Freedom"))) (by decide) (by decide)
  have f226_6 := f223_6.other W225 (Or.inr sl231)
  clear f223_6
  have sl232 := slot_ne (Z := Z) (a0 := a0) (Or.inr (own_w hw 107 rfl)) (Or.inr (own_w hw 53 rfl)) (by decide) (t := (.array .int)) (t' := (.array (.object "com/example/urania/urania/layered/Ports$Freedom"))) (by decide) (by decide)
  have f226_7 := f223_7.other W225 (Or.inr sl232)
  clear f223_7
  have sl233 := slot_ne (Z := Z) (a0 := a0) (Or.inr (own_w hw 109 rfl)) (Or.inr (own_w hw 53 rfl)) (by decide) (t := (.array .int)) (t' := (.array (.object "com/example/urania/urania/layered/Ports$Freedom"))) (by decide) (by decide)
  have f226_8 := f223_8.other W225 (Or.inr sl233)
  clear f223_8
  have sl234 := slot_ne (Z := Z) (a0 := a0) (Or.inr (own_w hw 111 rfl)) (Or.inr (own_w hw 53 rfl)) (by decide) (t := (.array .int)) (t' := (.array (.object "com/example/urania/urania/layered/Ports$Freedom"))) (by decide) (by decide)
  have f226_9 := f223_9.other W225 (Or.inr sl234)
  clear f223_9
  have f226_10 := f223_10.wr W225
  clear f223_10
  have f226_11 := f223_11.other W225 ned
  clear f223_11
  have f226_12 := f223_12.wr W225
  clear f223_12
  have f226_13 := f223_13.wr W225
  clear f223_13
  have f226_14 := f223_14.wr W225
  clear f223_14
  have f226_15 := f223_15.other W225 (Or.inl (Ne.symm ne_a1_b168))
  clear f223_15
  have f226_16 := f223_16.other W225 (Or.inl (Ne.symm ne_a1_b168))
  clear f223_16
  have f226_17 := f223_17.other W225 (Or.inl (Ne.symm ne_a1_b168))
  clear f223_17
  have f226_18 := B222.wr W225
  clear B222
  have f226_19 := V222.other W225 (Ne.symm ne_a1_b222)
  clear V222
  have K235 : Keep h0 h225 [a1] := K224.wr W225 (Or.inl (List.mem_of_getElem? (i := 0) rfl))
  clear K224
  have N236 := Fr.snoc X225 N221 g1
  clear N221
  have Fw225 : Fld Z h225 a1 "com/example/urania/urania/layered/Ports" "freedom" "[Lcom/example/urania/urania/layered/Ports$Freedom;" (.ref b222) := f223_4.same W225
  clear f223_4 W225
  refine own_st st225 ?_
  clear st225
  show own_Fin p e below G (T225.setTop (mkF m 39 #[rv a1, iv (4 : Int32), iv (0 : Int32), rv dr, .unset] []))
  refine own_st (fun _ k => XS.aloadN X225.here hx rfl (hb hby d2_39) rfl rfl k) ?_
  show own_Fin p e below G (T225.setTop (mkF m 40 #[rv a1, iv (4 : Int32), iv (0 : Int32), rv dr, .unset] [(.ref a1)]))
  obtain ⟨T237, X237, e237, st237⟩ := getF X225 hx hZ hown (host := "") (Or.inl (own_w hw 52 rfl)) Via.refl e225 Fw225 (g := (mkF m 40 #[rv a1, iv (4 : Int32), iv (0 : Int32), rv dr, .unset] [(.ref a1)])) rfl rfl (hb hby d2_40)
  clear X225 e225
  refine own_st st237 ?_
  clear st237
  show own_Fin p e below G (T237.setTop (mkF m 43 #[rv a1, iv (4 : Int32), iv (0 : Int32), rv dr, .unset] [(.ref b222)]))
  obtain ⟨T238, X238, e238, st238⟩ := getS2 X237 hx hZ hown (host := "") (Or.inl (own_w hw 54 rfl)) Via.refl e237 f226_12 (g := (mkF m 43 #[rv a1, iv (4 : Int32), iv (0 : Int32), rv dr, .unset] [(.ref b222)])) rfl (hb hby d2_43)
  clear X237 e237
  refine own_st st238 ?_
  clear st238
  show own_Fin p e below G (T238.setTop (mkF m 46 #[rv a1, iv (4 : Int32), iv (0 : Int32), rv dr, .unset] [(.ref fr), (.ref b222)]))
  obtain ⟨_, _, ⟨T239, L239, k239, n239⟩, -, X239, ⟨Lc239, hQ239, l239, y239, z239⟩, st239⟩ := Jvm.LawKit.callS X238 hx (y := own_y4) hown (mvT hZ (own_w hw 57 rfl)) (mvT hZ (own_w hw 58 rfl)) (mvT hZ (own_w hw 59 rfl)) (mvT hZ (own_w hw 60 rfl)) (by decide) (backOf (W := 0) (rm_fo4 l Z a0 hw [] b222 fr k222 h225 n0 (Nat.le_trans Z0 K235.1) f226_19 O222 f226_13 g_b222) hZ (own_w hw 60 rfl) (own_w hw 59 rfl) (by decide) (by decide)) (g := (mkF m 46 #[rv a1, iv (4 : Int32), iv (0 : Int32), rv dr, .unset] [(.ref fr), (.ref b222)])) rfl (by rw [hml]; rfl) (argsL := [(.ref b222), (.ref fr)]) (rest := []) (lenOf pd___Ljava_lang_Object_Ljava_lang_Object__V_595 rfl) rfl (by show 2 * 0 + _ ≤ _; exact Nat.le_of_eq rfl) (hb hby d2_46) (fun _ _ => ⟨rfl, e238, (by decide : 3 + 0 ≤ _), (by decide : 10 + 0 ≤ _)⟩)
  clear O222 f226_19 X238 e238
  dsimp only [Pt.U, Pt.locs, Pt.cells, Pt.slots] at X239 l239 y239 z239 st239 hQ239
  subst l239 y239 z239
  obtain ⟨rfl, N239q, Kc239⟩ := hQ239
  have N239 := Fr.app N236 N239q
  clear N236 N239q
  have f240_0 := f226_0.keep Kc239
  clear f226_0
  have f240_1 := f226_1.keep Kc239 (ninS ne_a1_b222 nin0)
  clear f226_1
  have f240_2 := f226_2.keep Kc239 (ninS ne_a1_b222 nin0)
  clear f226_2
  have f240_3 := f226_3.keep Kc239 (ninS ne_a1_b222 nin0)
  clear f226_3
  have f240_4 := Fw225.keep Kc239 (ninS ne_a1_b222 nin0)
  clear Fw225
  have f240_5 := f226_5.keep Kc239 (ninS ne_a1_b222 nin0)
  clear f226_5
  have f240_6 := f226_6.keep Kc239 (ninS ne_a1_b222 nin0)
  clear f226_6
  have f240_7 := f226_7.keep Kc239 (ninS ne_a1_b222 nin0)
  clear f226_7
  have f240_8 := f226_8.keep Kc239 (ninS ne_a1_b222 nin0)
  clear f226_8
  have f240_9 := f226_9.keep Kc239 (ninS ne_a1_b222 nin0)
  clear f226_9
  have f240_10 := own_Sta_keep f226_10 Kc239 (allS f226_18.cell all0)
  clear f226_10
  have f240_11 := f226_11.keep Kc239 (ninS ne_ed_b222 nin0)
  clear f226_11
  have f240_12 := own_Sta_keep f226_12 Kc239 (allS f226_18.cell all0)
  clear f226_12 f240_12
  have f240_13 := f226_13.keep Kc239
  clear f226_13 f240_13
  have f240_14 := f226_14.keep Kc239
  clear f226_14
  have f240_15 := f226_15.keep Kc239 (ninS ne_b168_b222 nin0)
  clear f226_15
  have f240_16 := f226_16.keep Kc239 (ninS ne_b168_b222 nin0)
  clear f226_16
  have f240_17 := f226_17.keep Kc239 (ninS ne_b168_b222 nin0)
  clear f226_17
  have f240_18 := f226_18.keep Kc239
  clear f226_18 f240_18
  have K241 : Keep h0 T239.heap [a1] := K235.trans Kc239 (allS (Or.inr sz_b222) all0)
  clear K235 Kc239
  refine own_st st239 ?_
  clear st239
  show own_Fin p e below G (T239.setTop (mkF m 49 #[rv a1, iv (4 : Int32), iv (0 : Int32), rv dr, .unset] []))
  refine own_st (fun _ k => XS.iconst X239.here hx rfl (hb hby d2_49) k) ?_
  show own_Fin p e below G (T239.setTop (mkF m 50 #[rv a1, iv (4 : Int32), iv (0 : Int32), rv dr, .unset] [(.int (0 : Int32))]))
  refine own_st (fun _ k => XS.istore X239.here hx rfl (hb hby d2_50) rfl (l' := #[rv a1, iv (4 : Int32), iv (0 : Int32), rv dr, iv (0 : Int32)]) rfl k) ?_
  show own_Fin p e below G (T239.setTop (mkF m 52 #[rv a1, iv (4 : Int32), iv (0 : Int32), rv dr, iv (0 : Int32)] []))
  refine own_st (fun _ k => XS.iload X239.here hx rfl (hb hby d2_52) rfl  k) ?_
  show own_Fin p e below G (T239.setTop (mkF m 54 #[rv a1, iv (4 : Int32), iv (0 : Int32), rv dr, iv (0 : Int32)] [(.int (0 : Int32))]))
  refine own_st (fun _ k => XS.iloadN X239.here hx rfl (hb hby d2_54) rfl  k) ?_
  show own_Fin p e below G (T239.setTop (mkF m 55 #[rv a1, iv (4 : Int32), iv (0 : Int32), rv dr, iv (0 : Int32)] [(.int (4 : Int32)), (.int (0 : Int32))]))
  refine own_st (fun _ k => XS.icmpNo X239.here hx rfl (hb hby d2_55) rfl (tlt (by decide : ((0 : Int32) < (4 : Int32)))).2.1 k) ?_
  show own_Fin p e below G (T239.setTop (mkF m 58 #[rv a1, iv (4 : Int32), iv (0 : Int32), rv dr, iv (0 : Int32)] []))
  refine own_st (fun _ k => XS.aloadN X239.here hx rfl (hb hby d2_58) rfl rfl k) ?_
  show own_Fin p e below G (T239.setTop (mkF m 59 #[rv a1, iv (4 : Int32), iv (0 : Int32), rv dr, iv (0 : Int32)] [(.ref a1)]))
  obtain ⟨T242, X242, e242, st242⟩ := getF X239 hx hZ hown (host := "") (Or.inl (own_w hw 44 rfl)) Via.refl rfl f240_1 (g := (mkF m 59 #[rv a1, iv (4 : Int32), iv (0 : Int32), rv dr, iv (0 : Int32)] [(.ref a1)])) rfl rfl (hb hby d2_59)
  clear X239
  refine own_st st242 ?_
  clear st242
  show own_Fin p e below G (T242.setTop (mkF m 62 #[rv a1, iv (4 : Int32), iv (0 : Int32), rv dr, iv (0 : Int32)] [(.ref b168)]))
  obtain ⟨T243, h243, X243, e243, E243, A243, D243, M243, st243⟩ := newO X242 hx hZ hown (own_w hw 20 rfl) (own_w hw 21 rfl) (own_w hw 22 rfl) e242 (g := (mkF m 62 #[rv a1, iv (4 : Int32), iv (0 : Int32), rv dr, iv (0 : Int32)] [(.ref b168)])) rfl (hb hby d2_62) (by decide) (by decide)
  clear X242 e242 M243
  obtain ⟨b243, g243⟩ : ∃ z, z = T239.heap.size := ⟨_, rfl⟩
  rw [← g243] at A243 D243 st243
  have ne_a1_b243 : a1 ≠ b243 := Nat.ne_of_lt (Nat.lt_of_lt_of_le f240_0.lt (Nat.le_of_eq g243.symm))
  have ne_b168_b243 : b168 ≠ b243 := Nat.ne_of_lt (Nat.lt_of_lt_of_le f240_14.lt (Nat.le_of_eq g243.symm))
  have ne_ed_b243 : ed ≠ b243 := Nat.ne_of_lt (Nat.lt_of_lt_of_le f240_11.lt (Nat.le_of_eq g243.symm))
  have sz_b243 : h0.size ≤ b243 := Nat.le_trans K241.1 (Nat.le_of_eq g243.symm)
  have g_b243 : n0 ≤ b243 := Nat.le_trans Z0 sz_b243
  have f244_0 := f240_0.ext E243
  clear f240_0
  have f244_1 := f240_1.ext E243
  clear f240_1
  have f244_2 := f240_2.ext E243
  clear f240_2
  have f244_3 := f240_3.ext E243
  clear f240_3
  have f244_4 := f240_4.ext E243
  clear f240_4
  have f244_5 := f240_5.ext E243
  clear f240_5
  have f244_6 := f240_6.ext E243
  clear f240_6
  have f244_7 := f240_7.ext E243
  clear f240_7
  have f244_8 := f240_8.ext E243
  clear f240_8
  have f244_9 := f240_9.ext E243
  clear f240_9
  have f244_10 := f240_10.ext E243
  clear f240_10
  have f244_11 := f240_11.ext E243
  clear f240_11
  have f244_12 := f240_14.ext E243
  clear f240_14
  have f244_13 := f240_15.ext E243
  clear f240_15
  have f244_14 := f240_16.ext E243
  clear f240_16
  have f244_15 := f240_17.ext E243
  clear f240_17
  have K245 : Keep h0 h243 [a1] := K241.ext E243
  clear K241 E243
  have f246 : Fld Z h243 b243 "java/util/AbstractList" "modCount" "I" (.int (0 : Int32)) := D243 (Or.inl (own_w hw 40 rfl)) (ty := .int) (by decide)
  have f247 : Fld Z h243 b243 "java/util/ArrayList" "elementData" "[Ljava/lang/Object;" .null := D243 (Or.inl (own_w hw 43 rfl)) (ty := (.array (.object "java/lang/Object"))) (by decide)
  have f248 : Fld Z h243 b243 "java/util/ArrayList" "size" "I" (.int (0 : Int32)) := D243 (Or.inl (own_w hw 74 rfl)) (ty := .int) (by decide)
  clear D243
  refine own_st st243 ?_
  clear st243
  show own_Fin p e below G (T243.setTop (mkF m 65 #[rv a1, iv (4 : Int32), iv (0 : Int32), rv dr, iv (0 : Int32)] [(.ref b243), (.ref b168)]))
  refine own_st (fun _ k => XS.dup X243.here hx rfl (hb hby d2_65) rfl rfl k) ?_
  show own_Fin p e below G (T243.setTop (mkF m 66 #[rv a1, iv (4 : Int32), iv (0 : Int32), rv dr, iv (0 : Int32)] [(.ref b243), (.ref b243), (.ref b168)]))
  obtain ⟨_, _, ⟨T249, L249, k249, n249⟩, -, X249, ⟨Lc249, hQ249, l249, y249, z249⟩, st249⟩ := X243.specialBack hx (y := own_y3) rfl hown (mvT hZ (own_w hw 23 rfl)) (mvT hZ (own_w hw 24 rfl)) (mvT hZ (own_w hw 25 rfl)) (by decide) (backOf (W := 2) (rm_al l Z a0 hw [] b243 ed h243 n0 (Nat.le_trans Z0 K245.1) A243 f246 f247 f248 g_b243 f244_10) hZ (own_w hw 25 rfl) (own_w hw 22 rfl) (by decide) (by decide)) (g := (mkF m 66 #[rv a1, iv (4 : Int32), iv (0 : Int32), rv dr, iv (0 : Int32)] [(.ref b243), (.ref b243), (.ref b168)])) rfl (by rw [hml]; rfl) (Steps.refl _) (a := b243) (argsL := []) (rest := [(.ref b243), (.ref b168)]) (lenOf pd___V_167 rfl) rfl (by show 2 * 0 + _ ≤ _; exact Nat.le_of_eq rfl) (hb hby d2_66) (fun _ _ => ⟨rfl, e243, (by decide : 4 + 0 ≤ _), (by decide : 13 + 0 ≤ _)⟩)
  clear X243 e243 f246 f247 f248
  dsimp only [Pt.U, Pt.locs, Pt.cells, Pt.slots] at X249 l249 y249 z249 st249 hQ249
  subst l249 y249 z249
  obtain ⟨rfl, N249q, Kc249, gL249_0, gL249_1, gL249_2⟩ := hQ249
  have N249 := Fr.app N239 N249q
  clear N239 N249q
  have f250_0 := f244_0.keep Kc249
  clear f244_0
  have f250_1 := f244_1.keep Kc249 (ninS ne_a1_b243 nin0)
  clear f244_1
  have f250_2 := f244_2.keep Kc249 (ninS ne_a1_b243 nin0)
  clear f244_2
  have f250_3 := f244_3.keep Kc249 (ninS ne_a1_b243 nin0)
  clear f244_3
  have f250_4 := f244_4.keep Kc249 (ninS ne_a1_b243 nin0)
  clear f244_4
  have f250_5 := f244_5.keep Kc249 (ninS ne_a1_b243 nin0)
  clear f244_5
  have f250_6 := f244_6.keep Kc249 (ninS ne_a1_b243 nin0)
  clear f244_6
  have f250_7 := f244_7.keep Kc249 (ninS ne_a1_b243 nin0)
  clear f244_7
  have f250_8 := f244_8.keep Kc249 (ninS ne_a1_b243 nin0)
  clear f244_8
  have f250_9 := f244_9.keep Kc249 (ninS ne_a1_b243 nin0)
  clear f244_9
  have f250_10 := own_Sta_keep f244_10 Kc249 (allS A243.cell all0)
  clear f244_10
  have f250_11 := f244_11.keep Kc249 (ninS ne_ed_b243 nin0)
  clear f244_11
  have f250_12 := f244_12.keep Kc249
  clear f244_12
  have f250_13 := f244_13.keep Kc249 (ninS ne_b168_b243 nin0)
  clear f244_13
  have f250_14 := f244_14.keep Kc249 (ninS ne_b168_b243 nin0)
  clear f244_14
  have f250_15 := f244_15.keep Kc249 (ninS ne_b168_b243 nin0)
  clear f244_15
  have f250_16 := A243.keep Kc249
  clear A243
  have K251 : Keep h0 T249.heap [a1] := K245.trans Kc249 (allS (Or.inr sz_b243) all0)
  clear K245 Kc249
  refine own_tr st249 ?_
  clear st249
  show own_Fin p e below G (T249.setTop (mkF m 69 #[rv a1, iv (4 : Int32), iv (0 : Int32), rv dr, iv (0 : Int32)] [(.ref b243), (.ref b168)]))
  obtain ⟨cq252, kq252, q252a, q252b, q252c⟩ := isOf hZ rfl f250_12
  obtain ⟨_, _, ⟨T252, L252, k252, n252⟩, -, X252, ⟨Lc252, hQ252, l252, y252, z252⟩, st252⟩ := X249.interfaceBack hx (xi := own_y10) (y := own_y9) hown (mvT hZ (own_w hw 62 rfl)) (mvT hZ (own_w hw 63 rfl)) (mvT hZ (own_w hw 64 rfl)) (mvT hZ (own_w hw 65 rfl)) (mvT hZ (own_w hw 66 rfl)) (mvT hZ (own_w hw 67 rfl)) (mvT hZ (own_w hw 68 rfl)) (mvT hZ (own_w hw 69 rfl)) (by decide) (backOf (W := 0) (rm_aq0 l Z a0 hw [] b168 b243 ed ke T249.heap n0 (Nat.le_trans Z0 K251.1) f250_12 f250_13 f250_14 f250_15 g_b168 f250_16 f250_10 f250_11 ne_ed_b168) hZ (own_w hw 70 rfl) (own_w hw 22 rfl) (by decide) (by decide)) q252a q252b q252c (g := (mkF m 69 #[rv a1, iv (4 : Int32), iv (0 : Int32), rv dr, iv (0 : Int32)] [(.ref b243), (.ref b168)])) rfl (by rw [hml]; rfl) (Steps.refl _) (argsL := [(.ref b243)]) (rest := []) (lenOf pd__Ljava_lang_Object__Z_838 rfl) rfl (by show 2 * 0 + _ ≤ _; exact Nat.le_of_eq rfl) (hb hby d2_69) (fun _ _ => ⟨rfl, rfl, (by decide : 4 + 1 ≤ _), (by decide : 13 + 10 ≤ _)⟩)
  clear X249 f250_13 f250_14 f250_15 q252a q252b q252c
  dsimp only [Pt.U, Pt.locs, Pt.cells, Pt.slots] at X252 l252 y252 z252 st252 hQ252
  subst l252 y252 z252
  obtain ⟨gb252, gk252, hQ252⟩ := hQ252
  have lt252 := f250_12.lt
  obtain ⟨rfl, N252q, Kc252, gz252, gL252_0, gL252_1, gL252_2, gB252, gO252⟩ := hQ252
  have N252 := Fr.app N249 N252q
  clear N249 N252q
  have f253_0 := f250_0.keep Kc252
  have f253_1 := f250_1.keep Kc252 (ninS ne_a1_b168 nin0)
  clear f250_1
  have f253_2 := f250_2.keep Kc252 (ninS ne_a1_b168 nin0)
  clear f250_2
  have f253_3 := f250_3.keep Kc252 (ninS ne_a1_b168 nin0)
  clear f250_3
  have f253_4 := f250_4.keep Kc252 (ninS ne_a1_b168 nin0)
  clear f250_4
  have f253_5 := f250_5.keep Kc252 (ninS ne_a1_b168 nin0)
  clear f250_5
  have f253_6 := f250_6.keep Kc252 (ninS ne_a1_b168 nin0)
  clear f250_6
  have f253_7 := f250_7.keep Kc252 (ninS ne_a1_b168 nin0)
  clear f250_7
  have f253_8 := f250_8.keep Kc252 (ninS ne_a1_b168 nin0)
  clear f250_8
  have f253_9 := f250_9.keep Kc252 (ninS ne_a1_b168 nin0)
  clear f250_9
  have f253_10 := own_Sta_keep f250_10 Kc252 (allS f250_12.cell all0)
  clear f250_10
  have f253_11 := f250_11.keep Kc252 (ninS ne_ed_b168 nin0)
  have f253_12 := f250_12.keep Kc252
  have f253_16 := f250_16.keep Kc252
  clear f253_16
  have f253_17 := gL249_0.keep Kc252 (ninS (Ne.symm ne_b168_b243) nin0)
  clear f253_17
  have f253_18 := gL249_1.keep Kc252 (ninS (Ne.symm ne_b168_b243) nin0)
  clear f253_18
  have f253_19 := gL249_2.keep Kc252 (ninS (Ne.symm ne_b168_b243) nin0)
  clear f253_19
  have K254 : Keep h0 T252.heap [a1] := K251.trans Kc252 (allS (Or.inr sz_b168) all0)
  clear Kc252
  have ne_a1_gb252 : a1 ≠ gb252 := Nat.ne_of_lt (Nat.lt_of_lt_of_le f250_0.lt gz252)
  clear f250_0
  have ne_b168_gb252 : b168 ≠ gb252 := Nat.ne_of_lt (Nat.lt_of_lt_of_le f250_12.lt gz252)
  clear f250_12
  have ne_b243_gb252 : b243 ≠ gb252 := Nat.ne_of_lt (Nat.lt_of_lt_of_le f250_16.lt gz252)
  clear f250_16
  have ne_ed_gb252 : ed ≠ gb252 := Nat.ne_of_lt (Nat.lt_of_lt_of_le f250_11.lt gz252)
  clear f250_11
  have sz_gb252 : h0.size ≤ gb252 := Nat.le_trans K251.1 gz252
  clear K251
  have g_gb252 : n0 ≤ gb252 := Nat.le_trans Z0 sz_gb252
  refine own_tr st252 ?_
  clear st252
  show own_Fin p e below G (T252.setTop (mkF m 74 #[rv a1, iv (4 : Int32), iv (0 : Int32), rv dr, iv (0 : Int32)] [(.int (1 : Int32))]))
  refine own_st (fun _ k => XS.pop X252.here hx rfl (hb hby d2_74) rfl rfl k) ?_
  show own_Fin p e below G (T252.setTop (mkF m 75 #[rv a1, iv (4 : Int32), iv (0 : Int32), rv dr, iv (0 : Int32)] []))
  refine own_st (fun _ k => XS.iinc X252.here hx rfl (hb hby d2_75) rfl (l' := #[rv a1, iv (4 : Int32), iv (0 : Int32), rv dr, iv (1 : Int32)]) rfl k) ?_
  show own_Fin p e below G (T252.setTop (mkF m 78 #[rv a1, iv (4 : Int32), iv (0 : Int32), rv dr, iv (1 : Int32)] []))
  refine own_st (fun _ k => XS.goto X252.here hx rfl (pc0 := 78) (pc' := 52) rfl (hb hby d2_78) (by decide) (by decide) k) ?_
  show own_Fin p e below G (T252.setTop (mkF m 52 #[rv a1, iv (4 : Int32), iv (0 : Int32), rv dr, iv (1 : Int32)] []))
  refine own_st (fun _ k => XS.iload X252.here hx rfl (hb hby d2_52) rfl  k) ?_
  show own_Fin p e below G (T252.setTop (mkF m 54 #[rv a1, iv (4 : Int32), iv (0 : Int32), rv dr, iv (1 : Int32)] [(.int (1 : Int32))]))
  refine own_st (fun _ k => XS.iloadN X252.here hx rfl (hb hby d2_54) rfl  k) ?_
  show own_Fin p e below G (T252.setTop (mkF m 55 #[rv a1, iv (4 : Int32), iv (0 : Int32), rv dr, iv (1 : Int32)] [(.int (4 : Int32)), (.int (1 : Int32))]))
  refine own_st (fun _ k => XS.icmpNo X252.here hx rfl (hb hby d2_55) rfl (tlt (by decide : ((1 : Int32) < (4 : Int32)))).2.1 k) ?_
  show own_Fin p e below G (T252.setTop (mkF m 58 #[rv a1, iv (4 : Int32), iv (0 : Int32), rv dr, iv (1 : Int32)] []))
  refine own_st (fun _ k => XS.aloadN X252.here hx rfl (hb hby d2_58) rfl rfl k) ?_
  show own_Fin p e below G (T252.setTop (mkF m 59 #[rv a1, iv (4 : Int32), iv (0 : Int32), rv dr, iv (1 : Int32)] [(.ref a1)]))
  obtain ⟨T255, X255, e255, st255⟩ := getF X252 hx hZ hown (host := "") (Or.inl (own_w hw 44 rfl)) Via.refl rfl f253_1 (g := (mkF m 59 #[rv a1, iv (4 : Int32), iv (0 : Int32), rv dr, iv (1 : Int32)] [(.ref a1)])) rfl rfl (hb hby d2_59)
  clear X252
  refine own_st st255 ?_
  clear st255
  show own_Fin p e below G (T255.setTop (mkF m 62 #[rv a1, iv (4 : Int32), iv (0 : Int32), rv dr, iv (1 : Int32)] [(.ref b168)]))
  obtain ⟨T256, h256, X256, e256, E256, A256, D256, M256, st256⟩ := newO X255 hx hZ hown (own_w hw 20 rfl) (own_w hw 21 rfl) (own_w hw 22 rfl) e255 (g := (mkF m 62 #[rv a1, iv (4 : Int32), iv (0 : Int32), rv dr, iv (1 : Int32)] [(.ref b168)])) rfl (hb hby d2_62) (by decide) (by decide)
  clear X255 e255 M256
  obtain ⟨b256, g256⟩ : ∃ z, z = T252.heap.size := ⟨_, rfl⟩
  rw [← g256] at A256 D256 st256
  have ne_a1_b256 : a1 ≠ b256 := Nat.ne_of_lt (Nat.lt_of_lt_of_le f253_0.lt (Nat.le_of_eq g256.symm))
  have ne_b168_b256 : b168 ≠ b256 := Nat.ne_of_lt (Nat.lt_of_lt_of_le f253_12.lt (Nat.le_of_eq g256.symm))
  have ne_ed_b256 : ed ≠ b256 := Nat.ne_of_lt (Nat.lt_of_lt_of_le f253_11.lt (Nat.le_of_eq g256.symm))
  have ne_gb252_b256 : gb252 ≠ b256 := Nat.ne_of_lt (Nat.lt_of_lt_of_le gB252.lt (Nat.le_of_eq g256.symm))
  have sz_b256 : h0.size ≤ b256 := Nat.le_trans K254.1 (Nat.le_of_eq g256.symm)
  have g_b256 : n0 ≤ b256 := Nat.le_trans Z0 sz_b256
  have f257_0 := f253_0.ext E256
  clear f253_0
  have f257_1 := f253_1.ext E256
  clear f253_1
  have f257_2 := f253_2.ext E256
  clear f253_2
  have f257_3 := f253_3.ext E256
  clear f253_3
  have f257_4 := f253_4.ext E256
  clear f253_4
  have f257_5 := f253_5.ext E256
  clear f253_5
  have f257_6 := f253_6.ext E256
  clear f253_6
  have f257_7 := f253_7.ext E256
  clear f253_7
  have f257_8 := f253_8.ext E256
  clear f253_8
  have f257_9 := f253_9.ext E256
  clear f253_9
  have f257_10 := f253_10.ext E256
  clear f253_10
  have f257_11 := f253_11.ext E256
  clear f253_11
  have f257_12 := f253_12.ext E256
  clear f253_12
  have f257_13 := gL252_0.ext E256
  have f257_14 := gL252_1.ext E256
  have f257_15 := gL252_2.ext E256
  have f257_16 := gB252.ext E256
  have K258 : Keep h0 h256 [a1] := K254.ext E256
  clear K254 E256
  have f259 : Fld Z h256 b256 "java/util/AbstractList" "modCount" "I" (.int (0 : Int32)) := D256 (Or.inl (own_w hw 40 rfl)) (ty := .int) (by decide)
  have f260 : Fld Z h256 b256 "java/util/ArrayList" "elementData" "[Ljava/lang/Object;" .null := D256 (Or.inl (own_w hw 43 rfl)) (ty := (.array (.object "java/lang/Object"))) (by decide)
  have f261 : Fld Z h256 b256 "java/util/ArrayList" "size" "I" (.int (0 : Int32)) := D256 (Or.inl (own_w hw 74 rfl)) (ty := .int) (by decide)
  clear D256
  refine own_st st256 ?_
  clear st256
  show own_Fin p e below G (T256.setTop (mkF m 65 #[rv a1, iv (4 : Int32), iv (0 : Int32), rv dr, iv (1 : Int32)] [(.ref b256), (.ref b168)]))
  refine own_st (fun _ k => XS.dup X256.here hx rfl (hb hby d2_65) rfl rfl k) ?_
  show own_Fin p e below G (T256.setTop (mkF m 66 #[rv a1, iv (4 : Int32), iv (0 : Int32), rv dr, iv (1 : Int32)] [(.ref b256), (.ref b256), (.ref b168)]))
  obtain ⟨_, _, ⟨T262, L262, k262, n262⟩, -, X262, ⟨Lc262, hQ262, l262, y262, z262⟩, st262⟩ := X256.specialBack hx (y := own_y3) rfl hown (mvT hZ (own_w hw 23 rfl)) (mvT hZ (own_w hw 24 rfl)) (mvT hZ (own_w hw 25 rfl)) (by decide) (backOf (W := 2) (rm_al l Z a0 hw [] b256 ed h256 n0 (Nat.le_trans Z0 K258.1) A256 f259 f260 f261 g_b256 f257_10) hZ (own_w hw 25 rfl) (own_w hw 22 rfl) (by decide) (by decide)) (g := (mkF m 66 #[rv a1, iv (4 : Int32), iv (0 : Int32), rv dr, iv (1 : Int32)] [(.ref b256), (.ref b256), (.ref b168)])) rfl (by rw [hml]; rfl) (Steps.refl _) (a := b256) (argsL := []) (rest := [(.ref b256), (.ref b168)]) (lenOf pd___V_167 rfl) rfl (by show 2 * 0 + _ ≤ _; exact Nat.le_of_eq rfl) (hb hby d2_66) (fun _ _ => ⟨rfl, e256, (by decide : 6 + 0 ≤ _), (by decide : 26 + 0 ≤ _)⟩)
  clear X256 e256 f259 f260 f261
  dsimp only [Pt.U, Pt.locs, Pt.cells, Pt.slots] at X262 l262 y262 z262 st262 hQ262
  subst l262 y262 z262
  obtain ⟨rfl, N262q, Kc262, gL262_0, gL262_1, gL262_2⟩ := hQ262
  have N262 := Fr.app N252 N262q
  clear N252 N262q
  have f263_0 := f257_0.keep Kc262
  clear f257_0
  have f263_1 := f257_1.keep Kc262 (ninS ne_a1_b256 nin0)
  clear f257_1
  have f263_2 := f257_2.keep Kc262 (ninS ne_a1_b256 nin0)
  clear f257_2
  have f263_3 := f257_3.keep Kc262 (ninS ne_a1_b256 nin0)
  clear f257_3
  have f263_4 := f257_4.keep Kc262 (ninS ne_a1_b256 nin0)
  clear f257_4
  have f263_5 := f257_5.keep Kc262 (ninS ne_a1_b256 nin0)
  clear f257_5
  have f263_6 := f257_6.keep Kc262 (ninS ne_a1_b256 nin0)
  clear f257_6
  have f263_7 := f257_7.keep Kc262 (ninS ne_a1_b256 nin0)
  clear f257_7
  have f263_8 := f257_8.keep Kc262 (ninS ne_a1_b256 nin0)
  clear f257_8
  have f263_9 := f257_9.keep Kc262 (ninS ne_a1_b256 nin0)
  clear f257_9
  have f263_10 := own_Sta_keep f257_10 Kc262 (allS A256.cell all0)
  clear f257_10
  have f263_11 := f257_11.keep Kc262 (ninS ne_ed_b256 nin0)
  clear f257_11
  have f263_12 := f257_12.keep Kc262
  clear f257_12
  have f263_13 := f257_13.keep Kc262 (ninS ne_b168_b256 nin0)
  clear f257_13
  have f263_14 := f257_14.keep Kc262 (ninS ne_b168_b256 nin0)
  clear f257_14
  have f263_15 := f257_15.keep Kc262 (ninS ne_b168_b256 nin0)
  clear f257_15
  have f263_16 := f257_16.keep Kc262 (ninS ne_gb252_b256 nin0)
  clear f257_16
  have f263_17 := A256.keep Kc262
  clear A256
  have K264 : Keep h0 T262.heap [a1] := K258.trans Kc262 (allS (Or.inr sz_b256) all0)
  clear K258 Kc262
  refine own_tr st262 ?_
  clear st262
  show own_Fin p e below G (T262.setTop (mkF m 69 #[rv a1, iv (4 : Int32), iv (0 : Int32), rv dr, iv (1 : Int32)] [(.ref b256), (.ref b168)]))
  obtain ⟨cq265, kq265, q265a, q265b, q265c⟩ := isOf hZ rfl f263_12
  obtain ⟨_, _, ⟨T265, L265, k265, n265⟩, -, X265, ⟨Lc265, hQ265, l265, y265, z265⟩, st265⟩ := X262.interfaceBack hx (xi := own_y10) (y := own_y9) hown (mvT hZ (own_w hw 62 rfl)) (mvT hZ (own_w hw 63 rfl)) (mvT hZ (own_w hw 64 rfl)) (mvT hZ (own_w hw 65 rfl)) (mvT hZ (own_w hw 66 rfl)) (mvT hZ (own_w hw 67 rfl)) (mvT hZ (own_w hw 68 rfl)) (mvT hZ (own_w hw 69 rfl)) (by decide) (backOf (W := 0) (rm_aq1 l Z a0 hw [] b168 b256 gb252 gk252 (.ref b243) (.null) (.null) (.null) (.null) (.null) (.null) (.null) (.null) (.null) T262.heap n0 (Nat.le_trans Z0 K264.1) f263_12 f263_13 f263_14 f263_15 g_b168 f263_17 f263_16 gO252 ne_b168_gb252 g_gb252) hZ (own_w hw 70 rfl) (own_w hw 22 rfl) (by decide) (by decide)) q265a q265b q265c (g := (mkF m 69 #[rv a1, iv (4 : Int32), iv (0 : Int32), rv dr, iv (1 : Int32)] [(.ref b256), (.ref b168)])) rfl (by rw [hml]; rfl) (Steps.refl _) (argsL := [(.ref b256)]) (rest := []) (lenOf pd__Ljava_lang_Object__Z_838 rfl) rfl (by show 2 * 0 + _ ≤ _; exact Nat.le_of_eq rfl) (hb hby d2_69) (fun _ _ => ⟨rfl, rfl, (by decide : 6 + 0 ≤ _), (by decide : 26 + 0 ≤ _)⟩)
  clear X262 f263_13 f263_14 f263_15 q265a q265b q265c
  dsimp only [Pt.U, Pt.locs, Pt.cells, Pt.slots] at X265 l265 y265 z265 st265 hQ265
  subst l265 y265 z265
  obtain ⟨rfl, N265q, Kc265, gL265_0, gL265_1, gL265_2, gB265⟩ := hQ265
  have N265 := Fr.app N262 N265q
  clear N262 N265q
  have f266_0 := f263_0.keep Kc265
  clear f263_0
  have f266_1 := f263_1.keep Kc265 (ninS ne_a1_b168 (ninS ne_a1_gb252 nin0))
  clear f263_1
  have f266_2 := f263_2.keep Kc265 (ninS ne_a1_b168 (ninS ne_a1_gb252 nin0))
  clear f263_2
  have f266_3 := f263_3.keep Kc265 (ninS ne_a1_b168 (ninS ne_a1_gb252 nin0))
  clear f263_3
  have f266_4 := f263_4.keep Kc265 (ninS ne_a1_b168 (ninS ne_a1_gb252 nin0))
  clear f263_4
  have f266_5 := f263_5.keep Kc265 (ninS ne_a1_b168 (ninS ne_a1_gb252 nin0))
  clear f263_5
  have f266_6 := f263_6.keep Kc265 (ninS ne_a1_b168 (ninS ne_a1_gb252 nin0))
  clear f263_6
  have f266_7 := f263_7.keep Kc265 (ninS ne_a1_b168 (ninS ne_a1_gb252 nin0))
  clear f263_7
  have f266_8 := f263_8.keep Kc265 (ninS ne_a1_b168 (ninS ne_a1_gb252 nin0))
  clear f263_8
  have f266_9 := f263_9.keep Kc265 (ninS ne_a1_b168 (ninS ne_a1_gb252 nin0))
  clear f263_9
  have f266_10 := own_Sta_keep f263_10 Kc265 (allS f263_12.cell (allS f263_16.cell all0))
  clear f263_10 f263_16
  have f266_11 := f263_11.keep Kc265 (ninS ne_ed_b168 (ninS ne_ed_gb252 nin0))
  clear f263_11
  have f266_12 := f263_12.keep Kc265
  clear f263_12
  have f266_17 := f263_17.keep Kc265
  clear f263_17 f266_17
  have f266_18 := gL262_0.keep Kc265 (ninS (Ne.symm ne_b168_b256) (ninS (Ne.symm ne_gb252_b256) nin0))
  clear f266_18
  have f266_19 := gL262_1.keep Kc265 (ninS (Ne.symm ne_b168_b256) (ninS (Ne.symm ne_gb252_b256) nin0))
  clear f266_19
  have f266_20 := gL262_2.keep Kc265 (ninS (Ne.symm ne_b168_b256) (ninS (Ne.symm ne_gb252_b256) nin0))
  clear f266_20
  have K267 : Keep h0 T265.heap [a1] := K264.trans Kc265 (allS (Or.inr sz_b168) (allS (Or.inr sz_gb252) all0))
  clear K264 Kc265
  refine own_tr st265 ?_
  clear st265
  show own_Fin p e below G (T265.setTop (mkF m 74 #[rv a1, iv (4 : Int32), iv (0 : Int32), rv dr, iv (1 : Int32)] [(.int (1 : Int32))]))
  refine own_st (fun _ k => XS.pop X265.here hx rfl (hb hby d2_74) rfl rfl k) ?_
  show own_Fin p e below G (T265.setTop (mkF m 75 #[rv a1, iv (4 : Int32), iv (0 : Int32), rv dr, iv (1 : Int32)] []))
  refine own_st (fun _ k => XS.iinc X265.here hx rfl (hb hby d2_75) rfl (l' := #[rv a1, iv (4 : Int32), iv (0 : Int32), rv dr, iv (2 : Int32)]) rfl k) ?_
  show own_Fin p e below G (T265.setTop (mkF m 78 #[rv a1, iv (4 : Int32), iv (0 : Int32), rv dr, iv (2 : Int32)] []))
  refine own_st (fun _ k => XS.goto X265.here hx rfl (pc0 := 78) (pc' := 52) rfl (hb hby d2_78) (by decide) (by decide) k) ?_
  show own_Fin p e below G (T265.setTop (mkF m 52 #[rv a1, iv (4 : Int32), iv (0 : Int32), rv dr, iv (2 : Int32)] []))
  refine own_st (fun _ k => XS.iload X265.here hx rfl (hb hby d2_52) rfl  k) ?_
  show own_Fin p e below G (T265.setTop (mkF m 54 #[rv a1, iv (4 : Int32), iv (0 : Int32), rv dr, iv (2 : Int32)] [(.int (2 : Int32))]))
  refine own_st (fun _ k => XS.iloadN X265.here hx rfl (hb hby d2_54) rfl  k) ?_
  show own_Fin p e below G (T265.setTop (mkF m 55 #[rv a1, iv (4 : Int32), iv (0 : Int32), rv dr, iv (2 : Int32)] [(.int (4 : Int32)), (.int (2 : Int32))]))
  refine own_st (fun _ k => XS.icmpNo X265.here hx rfl (hb hby d2_55) rfl (tlt (by decide : ((2 : Int32) < (4 : Int32)))).2.1 k) ?_
  show own_Fin p e below G (T265.setTop (mkF m 58 #[rv a1, iv (4 : Int32), iv (0 : Int32), rv dr, iv (2 : Int32)] []))
  refine own_st (fun _ k => XS.aloadN X265.here hx rfl (hb hby d2_58) rfl rfl k) ?_
  show own_Fin p e below G (T265.setTop (mkF m 59 #[rv a1, iv (4 : Int32), iv (0 : Int32), rv dr, iv (2 : Int32)] [(.ref a1)]))
  obtain ⟨T268, X268, e268, st268⟩ := getF X265 hx hZ hown (host := "") (Or.inl (own_w hw 44 rfl)) Via.refl rfl f266_1 (g := (mkF m 59 #[rv a1, iv (4 : Int32), iv (0 : Int32), rv dr, iv (2 : Int32)] [(.ref a1)])) rfl rfl (hb hby d2_59)
  clear X265
  refine own_st st268 ?_
  clear st268
  show own_Fin p e below G (T268.setTop (mkF m 62 #[rv a1, iv (4 : Int32), iv (0 : Int32), rv dr, iv (2 : Int32)] [(.ref b168)]))
  obtain ⟨T269, h269, X269, e269, E269, A269, D269, M269, st269⟩ := newO X268 hx hZ hown (own_w hw 20 rfl) (own_w hw 21 rfl) (own_w hw 22 rfl) e268 (g := (mkF m 62 #[rv a1, iv (4 : Int32), iv (0 : Int32), rv dr, iv (2 : Int32)] [(.ref b168)])) rfl (hb hby d2_62) (by decide) (by decide)
  clear X268 e268 M269
  obtain ⟨b269, g269⟩ : ∃ z, z = T265.heap.size := ⟨_, rfl⟩
  rw [← g269] at A269 D269 st269
  have ne_a1_b269 : a1 ≠ b269 := Nat.ne_of_lt (Nat.lt_of_lt_of_le f266_0.lt (Nat.le_of_eq g269.symm))
  have ne_b168_b269 : b168 ≠ b269 := Nat.ne_of_lt (Nat.lt_of_lt_of_le f266_12.lt (Nat.le_of_eq g269.symm))
  have ne_ed_b269 : ed ≠ b269 := Nat.ne_of_lt (Nat.lt_of_lt_of_le f266_11.lt (Nat.le_of_eq g269.symm))
  have ne_gb252_b269 : gb252 ≠ b269 := Nat.ne_of_lt (Nat.lt_of_lt_of_le gB265.lt (Nat.le_of_eq g269.symm))
  have sz_b269 : h0.size ≤ b269 := Nat.le_trans K267.1 (Nat.le_of_eq g269.symm)
  have g_b269 : n0 ≤ b269 := Nat.le_trans Z0 sz_b269
  have f270_0 := f266_0.ext E269
  clear f266_0
  have f270_1 := f266_1.ext E269
  clear f266_1
  have f270_2 := f266_2.ext E269
  clear f266_2
  have f270_3 := f266_3.ext E269
  clear f266_3
  have f270_4 := f266_4.ext E269
  clear f266_4
  have f270_5 := f266_5.ext E269
  clear f266_5
  have f270_6 := f266_6.ext E269
  clear f266_6
  have f270_7 := f266_7.ext E269
  clear f266_7
  have f270_8 := f266_8.ext E269
  clear f266_8
  have f270_9 := f266_9.ext E269
  clear f266_9
  have f270_10 := f266_10.ext E269
  clear f266_10
  have f270_11 := f266_11.ext E269
  clear f266_11
  have f270_12 := f266_12.ext E269
  clear f266_12
  have f270_13 := gL265_0.ext E269
  have f270_14 := gL265_1.ext E269
  have f270_15 := gL265_2.ext E269
  have f270_16 := gB265.ext E269
  have K271 : Keep h0 h269 [a1] := K267.ext E269
  clear K267 E269
  have f272 : Fld Z h269 b269 "java/util/AbstractList" "modCount" "I" (.int (0 : Int32)) := D269 (Or.inl (own_w hw 40 rfl)) (ty := .int) (by decide)
  have f273 : Fld Z h269 b269 "java/util/ArrayList" "elementData" "[Ljava/lang/Object;" .null := D269 (Or.inl (own_w hw 43 rfl)) (ty := (.array (.object "java/lang/Object"))) (by decide)
  have f274 : Fld Z h269 b269 "java/util/ArrayList" "size" "I" (.int (0 : Int32)) := D269 (Or.inl (own_w hw 74 rfl)) (ty := .int) (by decide)
  clear D269
  refine own_st st269 ?_
  clear st269
  show own_Fin p e below G (T269.setTop (mkF m 65 #[rv a1, iv (4 : Int32), iv (0 : Int32), rv dr, iv (2 : Int32)] [(.ref b269), (.ref b168)]))
  refine own_st (fun _ k => XS.dup X269.here hx rfl (hb hby d2_65) rfl rfl k) ?_
  show own_Fin p e below G (T269.setTop (mkF m 66 #[rv a1, iv (4 : Int32), iv (0 : Int32), rv dr, iv (2 : Int32)] [(.ref b269), (.ref b269), (.ref b168)]))
  obtain ⟨_, _, ⟨T275, L275, k275, n275⟩, -, X275, ⟨Lc275, hQ275, l275, y275, z275⟩, st275⟩ := X269.specialBack hx (y := own_y3) rfl hown (mvT hZ (own_w hw 23 rfl)) (mvT hZ (own_w hw 24 rfl)) (mvT hZ (own_w hw 25 rfl)) (by decide) (backOf (W := 2) (rm_al l Z a0 hw [] b269 ed h269 n0 (Nat.le_trans Z0 K271.1) A269 f272 f273 f274 g_b269 f270_10) hZ (own_w hw 25 rfl) (own_w hw 22 rfl) (by decide) (by decide)) (g := (mkF m 66 #[rv a1, iv (4 : Int32), iv (0 : Int32), rv dr, iv (2 : Int32)] [(.ref b269), (.ref b269), (.ref b168)])) rfl (by rw [hml]; rfl) (Steps.refl _) (a := b269) (argsL := []) (rest := [(.ref b269), (.ref b168)]) (lenOf pd___V_167 rfl) rfl (by show 2 * 0 + _ ≤ _; exact Nat.le_of_eq rfl) (hb hby d2_66) (fun _ _ => ⟨rfl, e269, (by decide : 7 + 0 ≤ _), (by decide : 29 + 0 ≤ _)⟩)
  clear X269 e269 f272 f273 f274
  dsimp only [Pt.U, Pt.locs, Pt.cells, Pt.slots] at X275 l275 y275 z275 st275 hQ275
  subst l275 y275 z275
  obtain ⟨rfl, N275q, Kc275, gL275_0, gL275_1, gL275_2⟩ := hQ275
  have N275 := Fr.app N265 N275q
  clear N265 N275q
  have f276_0 := f270_0.keep Kc275
  clear f270_0
  have f276_1 := f270_1.keep Kc275 (ninS ne_a1_b269 nin0)
  clear f270_1
  have f276_2 := f270_2.keep Kc275 (ninS ne_a1_b269 nin0)
  clear f270_2
  have f276_3 := f270_3.keep Kc275 (ninS ne_a1_b269 nin0)
  clear f270_3
  have f276_4 := f270_4.keep Kc275 (ninS ne_a1_b269 nin0)
  clear f270_4
  have f276_5 := f270_5.keep Kc275 (ninS ne_a1_b269 nin0)
  clear f270_5
  have f276_6 := f270_6.keep Kc275 (ninS ne_a1_b269 nin0)
  clear f270_6
  have f276_7 := f270_7.keep Kc275 (ninS ne_a1_b269 nin0)
  clear f270_7
  have f276_8 := f270_8.keep Kc275 (ninS ne_a1_b269 nin0)
  clear f270_8
  have f276_9 := f270_9.keep Kc275 (ninS ne_a1_b269 nin0)
  clear f270_9
  have f276_10 := own_Sta_keep f270_10 Kc275 (allS A269.cell all0)
  clear f270_10
  have f276_11 := f270_11.keep Kc275 (ninS ne_ed_b269 nin0)
  clear f270_11
  have f276_12 := f270_12.keep Kc275
  clear f270_12
  have f276_13 := f270_13.keep Kc275 (ninS ne_b168_b269 nin0)
  clear f270_13
  have f276_14 := f270_14.keep Kc275 (ninS ne_b168_b269 nin0)
  clear f270_14
  have f276_15 := f270_15.keep Kc275 (ninS ne_b168_b269 nin0)
  clear f270_15
  have f276_16 := f270_16.keep Kc275 (ninS ne_gb252_b269 nin0)
  clear f270_16
  have f276_17 := A269.keep Kc275
  clear A269
  have K277 : Keep h0 T275.heap [a1] := K271.trans Kc275 (allS (Or.inr sz_b269) all0)
  clear K271 Kc275
  refine own_tr st275 ?_
  clear st275
  show own_Fin p e below G (T275.setTop (mkF m 69 #[rv a1, iv (4 : Int32), iv (0 : Int32), rv dr, iv (2 : Int32)] [(.ref b269), (.ref b168)]))
  obtain ⟨cq278, kq278, q278a, q278b, q278c⟩ := isOf hZ rfl f276_12
  obtain ⟨_, _, ⟨T278, L278, k278, n278⟩, -, X278, ⟨Lc278, hQ278, l278, y278, z278⟩, st278⟩ := X275.interfaceBack hx (xi := own_y10) (y := own_y9) hown (mvT hZ (own_w hw 62 rfl)) (mvT hZ (own_w hw 63 rfl)) (mvT hZ (own_w hw 64 rfl)) (mvT hZ (own_w hw 65 rfl)) (mvT hZ (own_w hw 66 rfl)) (mvT hZ (own_w hw 67 rfl)) (mvT hZ (own_w hw 68 rfl)) (mvT hZ (own_w hw 69 rfl)) (by decide) (backOf (W := 0) (rm_aq2 l Z a0 hw [] b168 b269 gb252 gk252 (.ref b243) (.ref b256) (.null) (.null) (.null) (.null) (.null) (.null) (.null) (.null) T275.heap n0 (Nat.le_trans Z0 K277.1) f276_12 f276_13 f276_14 f276_15 g_b168 f276_17 f276_16 gO252 ne_b168_gb252 g_gb252) hZ (own_w hw 70 rfl) (own_w hw 22 rfl) (by decide) (by decide)) q278a q278b q278c (g := (mkF m 69 #[rv a1, iv (4 : Int32), iv (0 : Int32), rv dr, iv (2 : Int32)] [(.ref b269), (.ref b168)])) rfl (by rw [hml]; rfl) (Steps.refl _) (argsL := [(.ref b269)]) (rest := []) (lenOf pd__Ljava_lang_Object__Z_838 rfl) rfl (by show 2 * 0 + _ ≤ _; exact Nat.le_of_eq rfl) (hb hby d2_69) (fun _ _ => ⟨rfl, rfl, (by decide : 7 + 0 ≤ _), (by decide : 29 + 0 ≤ _)⟩)
  clear X275 f276_13 f276_14 f276_15 q278a q278b q278c
  dsimp only [Pt.U, Pt.locs, Pt.cells, Pt.slots] at X278 l278 y278 z278 st278 hQ278
  subst l278 y278 z278
  obtain ⟨rfl, N278q, Kc278, gL278_0, gL278_1, gL278_2, gB278⟩ := hQ278
  have N278 := Fr.app N275 N278q
  clear N275 N278q
  have f279_0 := f276_0.keep Kc278
  clear f276_0
  have f279_1 := f276_1.keep Kc278 (ninS ne_a1_b168 (ninS ne_a1_gb252 nin0))
  clear f276_1
  have f279_2 := f276_2.keep Kc278 (ninS ne_a1_b168 (ninS ne_a1_gb252 nin0))
  clear f276_2
  have f279_3 := f276_3.keep Kc278 (ninS ne_a1_b168 (ninS ne_a1_gb252 nin0))
  clear f276_3
  have f279_4 := f276_4.keep Kc278 (ninS ne_a1_b168 (ninS ne_a1_gb252 nin0))
  clear f276_4
  have f279_5 := f276_5.keep Kc278 (ninS ne_a1_b168 (ninS ne_a1_gb252 nin0))
  clear f276_5
  have f279_6 := f276_6.keep Kc278 (ninS ne_a1_b168 (ninS ne_a1_gb252 nin0))
  clear f276_6
  have f279_7 := f276_7.keep Kc278 (ninS ne_a1_b168 (ninS ne_a1_gb252 nin0))
  clear f276_7
  have f279_8 := f276_8.keep Kc278 (ninS ne_a1_b168 (ninS ne_a1_gb252 nin0))
  clear f276_8
  have f279_9 := f276_9.keep Kc278 (ninS ne_a1_b168 (ninS ne_a1_gb252 nin0))
  clear f276_9
  have f279_10 := own_Sta_keep f276_10 Kc278 (allS f276_12.cell (allS f276_16.cell all0))
  clear f276_10 f276_16
  have f279_11 := f276_11.keep Kc278 (ninS ne_ed_b168 (ninS ne_ed_gb252 nin0))
  clear f276_11
  have f279_12 := f276_12.keep Kc278
  clear f276_12
  have f279_17 := f276_17.keep Kc278
  clear f276_17 f279_17
  have f279_18 := gL275_0.keep Kc278 (ninS (Ne.symm ne_b168_b269) (ninS (Ne.symm ne_gb252_b269) nin0))
  clear f279_18
  have f279_19 := gL275_1.keep Kc278 (ninS (Ne.symm ne_b168_b269) (ninS (Ne.symm ne_gb252_b269) nin0))
  clear f279_19
  have f279_20 := gL275_2.keep Kc278 (ninS (Ne.symm ne_b168_b269) (ninS (Ne.symm ne_gb252_b269) nin0))
  clear f279_20
  have K280 : Keep h0 T278.heap [a1] := K277.trans Kc278 (allS (Or.inr sz_b168) (allS (Or.inr sz_gb252) all0))
  clear K277 Kc278
  refine own_tr st278 ?_
  clear st278
  show own_Fin p e below G (T278.setTop (mkF m 74 #[rv a1, iv (4 : Int32), iv (0 : Int32), rv dr, iv (2 : Int32)] [(.int (1 : Int32))]))
  refine own_st (fun _ k => XS.pop X278.here hx rfl (hb hby d2_74) rfl rfl k) ?_
  show own_Fin p e below G (T278.setTop (mkF m 75 #[rv a1, iv (4 : Int32), iv (0 : Int32), rv dr, iv (2 : Int32)] []))
  refine own_st (fun _ k => XS.iinc X278.here hx rfl (hb hby d2_75) rfl (l' := #[rv a1, iv (4 : Int32), iv (0 : Int32), rv dr, iv (3 : Int32)]) rfl k) ?_
  show own_Fin p e below G (T278.setTop (mkF m 78 #[rv a1, iv (4 : Int32), iv (0 : Int32), rv dr, iv (3 : Int32)] []))
  refine own_st (fun _ k => XS.goto X278.here hx rfl (pc0 := 78) (pc' := 52) rfl (hb hby d2_78) (by decide) (by decide) k) ?_
  show own_Fin p e below G (T278.setTop (mkF m 52 #[rv a1, iv (4 : Int32), iv (0 : Int32), rv dr, iv (3 : Int32)] []))
  refine own_st (fun _ k => XS.iload X278.here hx rfl (hb hby d2_52) rfl  k) ?_
  show own_Fin p e below G (T278.setTop (mkF m 54 #[rv a1, iv (4 : Int32), iv (0 : Int32), rv dr, iv (3 : Int32)] [(.int (3 : Int32))]))
  refine own_st (fun _ k => XS.iloadN X278.here hx rfl (hb hby d2_54) rfl  k) ?_
  show own_Fin p e below G (T278.setTop (mkF m 55 #[rv a1, iv (4 : Int32), iv (0 : Int32), rv dr, iv (3 : Int32)] [(.int (4 : Int32)), (.int (3 : Int32))]))
  refine own_st (fun _ k => XS.icmpNo X278.here hx rfl (hb hby d2_55) rfl (tlt (by decide : ((3 : Int32) < (4 : Int32)))).2.1 k) ?_
  show own_Fin p e below G (T278.setTop (mkF m 58 #[rv a1, iv (4 : Int32), iv (0 : Int32), rv dr, iv (3 : Int32)] []))
  refine own_st (fun _ k => XS.aloadN X278.here hx rfl (hb hby d2_58) rfl rfl k) ?_
  show own_Fin p e below G (T278.setTop (mkF m 59 #[rv a1, iv (4 : Int32), iv (0 : Int32), rv dr, iv (3 : Int32)] [(.ref a1)]))
  obtain ⟨T281, X281, e281, st281⟩ := getF X278 hx hZ hown (host := "") (Or.inl (own_w hw 44 rfl)) Via.refl rfl f279_1 (g := (mkF m 59 #[rv a1, iv (4 : Int32), iv (0 : Int32), rv dr, iv (3 : Int32)] [(.ref a1)])) rfl rfl (hb hby d2_59)
  clear X278
  refine own_st st281 ?_
  clear st281
  show own_Fin p e below G (T281.setTop (mkF m 62 #[rv a1, iv (4 : Int32), iv (0 : Int32), rv dr, iv (3 : Int32)] [(.ref b168)]))
  obtain ⟨T282, h282, X282, e282, E282, A282, D282, M282, st282⟩ := newO X281 hx hZ hown (own_w hw 20 rfl) (own_w hw 21 rfl) (own_w hw 22 rfl) e281 (g := (mkF m 62 #[rv a1, iv (4 : Int32), iv (0 : Int32), rv dr, iv (3 : Int32)] [(.ref b168)])) rfl (hb hby d2_62) (by decide) (by decide)
  clear X281 e281 M282
  obtain ⟨b282, g282⟩ : ∃ z, z = T278.heap.size := ⟨_, rfl⟩
  rw [← g282] at A282 D282 st282
  have ne_a1_b282 : a1 ≠ b282 := Nat.ne_of_lt (Nat.lt_of_lt_of_le f279_0.lt (Nat.le_of_eq g282.symm))
  have ne_b168_b282 : b168 ≠ b282 := Nat.ne_of_lt (Nat.lt_of_lt_of_le f279_12.lt (Nat.le_of_eq g282.symm))
  have ne_ed_b282 : ed ≠ b282 := Nat.ne_of_lt (Nat.lt_of_lt_of_le f279_11.lt (Nat.le_of_eq g282.symm))
  have ne_gb252_b282 : gb252 ≠ b282 := Nat.ne_of_lt (Nat.lt_of_lt_of_le gB278.lt (Nat.le_of_eq g282.symm))
  have sz_b282 : h0.size ≤ b282 := Nat.le_trans K280.1 (Nat.le_of_eq g282.symm)
  have g_b282 : n0 ≤ b282 := Nat.le_trans Z0 sz_b282
  have f283_0 := f279_0.ext E282
  clear f279_0
  have f283_1 := f279_1.ext E282
  clear f279_1
  have f283_2 := f279_2.ext E282
  clear f279_2
  have f283_3 := f279_3.ext E282
  clear f279_3
  have f283_4 := f279_4.ext E282
  clear f279_4
  have f283_5 := f279_5.ext E282
  clear f279_5
  have f283_6 := f279_6.ext E282
  clear f279_6
  have f283_7 := f279_7.ext E282
  clear f279_7
  have f283_8 := f279_8.ext E282
  clear f279_8
  have f283_9 := f279_9.ext E282
  clear f279_9
  have f283_10 := f279_10.ext E282
  clear f279_10
  have f283_11 := f279_11.ext E282
  clear f279_11
  have f283_12 := f279_12.ext E282
  clear f279_12
  have f283_13 := gL278_0.ext E282
  have f283_14 := gL278_1.ext E282
  have f283_15 := gL278_2.ext E282
  have f283_16 := gB278.ext E282
  have K284 : Keep h0 h282 [a1] := K280.ext E282
  clear K280 E282
  have f285 : Fld Z h282 b282 "java/util/AbstractList" "modCount" "I" (.int (0 : Int32)) := D282 (Or.inl (own_w hw 40 rfl)) (ty := .int) (by decide)
  have f286 : Fld Z h282 b282 "java/util/ArrayList" "elementData" "[Ljava/lang/Object;" .null := D282 (Or.inl (own_w hw 43 rfl)) (ty := (.array (.object "java/lang/Object"))) (by decide)
  have f287 : Fld Z h282 b282 "java/util/ArrayList" "size" "I" (.int (0 : Int32)) := D282 (Or.inl (own_w hw 74 rfl)) (ty := .int) (by decide)
  clear D282
  refine own_st st282 ?_
  clear st282
  show own_Fin p e below G (T282.setTop (mkF m 65 #[rv a1, iv (4 : Int32), iv (0 : Int32), rv dr, iv (3 : Int32)] [(.ref b282), (.ref b168)]))
  refine own_st (fun _ k => XS.dup X282.here hx rfl (hb hby d2_65) rfl rfl k) ?_
  show own_Fin p e below G (T282.setTop (mkF m 66 #[rv a1, iv (4 : Int32), iv (0 : Int32), rv dr, iv (3 : Int32)] [(.ref b282), (.ref b282), (.ref b168)]))
  obtain ⟨_, _, ⟨T288, L288, k288, n288⟩, -, X288, ⟨Lc288, hQ288, l288, y288, z288⟩, st288⟩ := X282.specialBack hx (y := own_y3) rfl hown (mvT hZ (own_w hw 23 rfl)) (mvT hZ (own_w hw 24 rfl)) (mvT hZ (own_w hw 25 rfl)) (by decide) (backOf (W := 2) (rm_al l Z a0 hw [] b282 ed h282 n0 (Nat.le_trans Z0 K284.1) A282 f285 f286 f287 g_b282 f283_10) hZ (own_w hw 25 rfl) (own_w hw 22 rfl) (by decide) (by decide)) (g := (mkF m 66 #[rv a1, iv (4 : Int32), iv (0 : Int32), rv dr, iv (3 : Int32)] [(.ref b282), (.ref b282), (.ref b168)])) rfl (by rw [hml]; rfl) (Steps.refl _) (a := b282) (argsL := []) (rest := [(.ref b282), (.ref b168)]) (lenOf pd___V_167 rfl) rfl (by show 2 * 0 + _ ≤ _; exact Nat.le_of_eq rfl) (hb hby d2_66) (fun _ _ => ⟨rfl, e282, (by decide : 8 + 0 ≤ _), (by decide : 32 + 0 ≤ _)⟩)
  clear X282 e282 f285 f286 f287
  dsimp only [Pt.U, Pt.locs, Pt.cells, Pt.slots] at X288 l288 y288 z288 st288 hQ288
  subst l288 y288 z288
  obtain ⟨rfl, N288q, Kc288, gL288_0, gL288_1, gL288_2⟩ := hQ288
  have N288 := Fr.app N278 N288q
  clear N278 N288q
  have f289_0 := f283_0.keep Kc288
  clear f283_0
  have f289_1 := f283_1.keep Kc288 (ninS ne_a1_b282 nin0)
  clear f283_1
  have f289_2 := f283_2.keep Kc288 (ninS ne_a1_b282 nin0)
  clear f283_2
  have f289_3 := f283_3.keep Kc288 (ninS ne_a1_b282 nin0)
  clear f283_3
  have f289_4 := f283_4.keep Kc288 (ninS ne_a1_b282 nin0)
  clear f283_4
  have f289_5 := f283_5.keep Kc288 (ninS ne_a1_b282 nin0)
  clear f283_5
  have f289_6 := f283_6.keep Kc288 (ninS ne_a1_b282 nin0)
  clear f283_6
  have f289_7 := f283_7.keep Kc288 (ninS ne_a1_b282 nin0)
  clear f283_7
  have f289_8 := f283_8.keep Kc288 (ninS ne_a1_b282 nin0)
  clear f283_8
  have f289_9 := f283_9.keep Kc288 (ninS ne_a1_b282 nin0)
  clear f283_9
  have f289_10 := own_Sta_keep f283_10 Kc288 (allS A282.cell all0)
  clear f283_10
  have f289_11 := f283_11.keep Kc288 (ninS ne_ed_b282 nin0)
  clear f283_11
  have f289_12 := f283_12.keep Kc288
  clear f283_12
  have f289_13 := f283_13.keep Kc288 (ninS ne_b168_b282 nin0)
  clear f283_13
  have f289_14 := f283_14.keep Kc288 (ninS ne_b168_b282 nin0)
  clear f283_14
  have f289_15 := f283_15.keep Kc288 (ninS ne_b168_b282 nin0)
  clear f283_15
  have f289_16 := f283_16.keep Kc288 (ninS ne_gb252_b282 nin0)
  clear f283_16
  have f289_17 := A282.keep Kc288
  clear A282
  have K290 : Keep h0 T288.heap [a1] := K284.trans Kc288 (allS (Or.inr sz_b282) all0)
  clear K284 Kc288
  refine own_tr st288 ?_
  clear st288
  show own_Fin p e below G (T288.setTop (mkF m 69 #[rv a1, iv (4 : Int32), iv (0 : Int32), rv dr, iv (3 : Int32)] [(.ref b282), (.ref b168)]))
  obtain ⟨cq291, kq291, q291a, q291b, q291c⟩ := isOf hZ rfl f289_12
  obtain ⟨_, _, ⟨T291, L291, k291, n291⟩, -, X291, ⟨Lc291, hQ291, l291, y291, z291⟩, st291⟩ := X288.interfaceBack hx (xi := own_y10) (y := own_y9) hown (mvT hZ (own_w hw 62 rfl)) (mvT hZ (own_w hw 63 rfl)) (mvT hZ (own_w hw 64 rfl)) (mvT hZ (own_w hw 65 rfl)) (mvT hZ (own_w hw 66 rfl)) (mvT hZ (own_w hw 67 rfl)) (mvT hZ (own_w hw 68 rfl)) (mvT hZ (own_w hw 69 rfl)) (by decide) (backOf (W := 0) (rm_aq3 l Z a0 hw [] b168 b282 gb252 gk252 (.ref b243) (.ref b256) (.ref b269) (.null) (.null) (.null) (.null) (.null) (.null) (.null) T288.heap n0 (Nat.le_trans Z0 K290.1) f289_12 f289_13 f289_14 f289_15 g_b168 f289_17 f289_16 gO252 ne_b168_gb252 g_gb252) hZ (own_w hw 70 rfl) (own_w hw 22 rfl) (by decide) (by decide)) q291a q291b q291c (g := (mkF m 69 #[rv a1, iv (4 : Int32), iv (0 : Int32), rv dr, iv (3 : Int32)] [(.ref b282), (.ref b168)])) rfl (by rw [hml]; rfl) (Steps.refl _) (argsL := [(.ref b282)]) (rest := []) (lenOf pd__Ljava_lang_Object__Z_838 rfl) rfl (by show 2 * 0 + _ ≤ _; exact Nat.le_of_eq rfl) (hb hby d2_69) (fun _ _ => ⟨rfl, rfl, (by decide : 8 + 0 ≤ _), (by decide : 32 + 0 ≤ _)⟩)
  clear X288 f289_13 f289_14 f289_15 q291a q291b q291c
  dsimp only [Pt.U, Pt.locs, Pt.cells, Pt.slots] at X291 l291 y291 z291 st291 hQ291
  subst l291 y291 z291
  obtain ⟨rfl, N291q, Kc291, gL291_0, gL291_1, gL291_2, gB291⟩ := hQ291
  have N291 := Fr.app N288 N291q
  clear N288 N291q
  have f292_0 := f289_0.keep Kc291
  clear f289_0
  have f292_1 := f289_1.keep Kc291 (ninS ne_a1_b168 (ninS ne_a1_gb252 nin0))
  clear f289_1
  have f292_2 := f289_2.keep Kc291 (ninS ne_a1_b168 (ninS ne_a1_gb252 nin0))
  clear f289_2
  have f292_3 := f289_3.keep Kc291 (ninS ne_a1_b168 (ninS ne_a1_gb252 nin0))
  clear f289_3
  have f292_4 := f289_4.keep Kc291 (ninS ne_a1_b168 (ninS ne_a1_gb252 nin0))
  clear f289_4
  have f292_5 := f289_5.keep Kc291 (ninS ne_a1_b168 (ninS ne_a1_gb252 nin0))
  clear f289_5
  have f292_6 := f289_6.keep Kc291 (ninS ne_a1_b168 (ninS ne_a1_gb252 nin0))
  clear f289_6
  have f292_7 := f289_7.keep Kc291 (ninS ne_a1_b168 (ninS ne_a1_gb252 nin0))
  clear f289_7
  have f292_8 := f289_8.keep Kc291 (ninS ne_a1_b168 (ninS ne_a1_gb252 nin0))
  clear f289_8
  have f292_9 := f289_9.keep Kc291 (ninS ne_a1_b168 (ninS ne_a1_gb252 nin0))
  clear f289_9
  have f292_10 := own_Sta_keep f289_10 Kc291 (allS f289_12.cell (allS f289_16.cell all0))
  clear f289_10 f289_16 f292_10
  have f292_11 := f289_11.keep Kc291 (ninS ne_ed_b168 (ninS ne_ed_gb252 nin0))
  clear f289_11 f292_11
  have f292_12 := f289_12.keep Kc291
  clear f289_12 f292_12
  have f292_17 := f289_17.keep Kc291
  clear f289_17 f292_17
  have f292_18 := gL288_0.keep Kc291 (ninS (Ne.symm ne_b168_b282) (ninS (Ne.symm ne_gb252_b282) nin0))
  clear f292_18
  have f292_19 := gL288_1.keep Kc291 (ninS (Ne.symm ne_b168_b282) (ninS (Ne.symm ne_gb252_b282) nin0))
  clear f292_19
  have f292_20 := gL288_2.keep Kc291 (ninS (Ne.symm ne_b168_b282) (ninS (Ne.symm ne_gb252_b282) nin0))
  clear f292_20
  have K293 : Keep h0 T291.heap [a1] := K290.trans Kc291 (allS (Or.inr sz_b168) (allS (Or.inr sz_gb252) all0))
  clear K290 Kc291
  refine own_tr st291 ?_
  clear st291
  show own_Fin p e below G (T291.setTop (mkF m 74 #[rv a1, iv (4 : Int32), iv (0 : Int32), rv dr, iv (3 : Int32)] [(.int (1 : Int32))]))
  refine own_st (fun _ k => XS.pop X291.here hx rfl (hb hby d2_74) rfl rfl k) ?_
  show own_Fin p e below G (T291.setTop (mkF m 75 #[rv a1, iv (4 : Int32), iv (0 : Int32), rv dr, iv (3 : Int32)] []))
  refine own_st (fun _ k => XS.iinc X291.here hx rfl (hb hby d2_75) rfl (l' := #[rv a1, iv (4 : Int32), iv (0 : Int32), rv dr, iv (4 : Int32)]) rfl k) ?_
  show own_Fin p e below G (T291.setTop (mkF m 78 #[rv a1, iv (4 : Int32), iv (0 : Int32), rv dr, iv (4 : Int32)] []))
  refine own_st (fun _ k => XS.goto X291.here hx rfl (pc0 := 78) (pc' := 52) rfl (hb hby d2_78) (by decide) (by decide) k) ?_
  show own_Fin p e below G (T291.setTop (mkF m 52 #[rv a1, iv (4 : Int32), iv (0 : Int32), rv dr, iv (4 : Int32)] []))
  refine own_st (fun _ k => XS.iload X291.here hx rfl (hb hby d2_52) rfl  k) ?_
  show own_Fin p e below G (T291.setTop (mkF m 54 #[rv a1, iv (4 : Int32), iv (0 : Int32), rv dr, iv (4 : Int32)] [(.int (4 : Int32))]))
  refine own_st (fun _ k => XS.iloadN X291.here hx rfl (hb hby d2_54) rfl  k) ?_
  show own_Fin p e below G (T291.setTop (mkF m 55 #[rv a1, iv (4 : Int32), iv (0 : Int32), rv dr, iv (4 : Int32)] [(.int (4 : Int32)), (.int (4 : Int32))]))
  refine own_st (fun _ k => XS.icmpYes X291.here hx rfl (pc0 := 55) (pc' := 81) rfl (hb hby d2_55) rfl (flt (by decide : ¬ ((4 : Int32) < (4 : Int32)))).2.1 (by decide) (by decide) k) ?_
  show own_Fin p e below G (T291.setTop (mkF m 81 #[rv a1, iv (4 : Int32), iv (0 : Int32), rv dr, iv (4 : Int32)] []))
  refine own_st (fun _ k => XS.aloadN X291.here hx rfl (hb hby d2_81) rfl rfl k) ?_
  show own_Fin p e below G (T291.setTop (mkF m 82 #[rv a1, iv (4 : Int32), iv (0 : Int32), rv dr, iv (4 : Int32)] [(.ref a1)]))
  refine own_st (fun _ k => XS.iloadN X291.here hx rfl (hb hby d2_82) rfl  k) ?_
  show own_Fin p e below G (T291.setTop (mkF m 83 #[rv a1, iv (4 : Int32), iv (0 : Int32), rv dr, iv (4 : Int32)] [(.int (4 : Int32)), (.ref a1)]))
  obtain ⟨T294, h294, k294, X294, e294, E294, A294, B294, O294, st294⟩ := newRE X291 hx hZ hown (own_w hw 97 rfl) (own_w hw 98 rfl) rfl (g := (mkF m 83 #[rv a1, iv (4 : Int32), iv (0 : Int32), rv dr, iv (4 : Int32)] [(.int (4 : Int32)), (.ref a1)])) rfl (hb hby d2_83) rfl (by decide) (cap := 4) (by decide) (by decide) (by decide) (by decide) (ad := "[Lcom/example/urania/urania/layered/FlowSide;") (by decide +kernel)
  clear X291
  obtain ⟨b294, g294⟩ : ∃ z, z = T291.heap.size := ⟨_, rfl⟩
  rw [← g294] at A294 B294 st294
  have ne_a1_b294 : a1 ≠ b294 := Nat.ne_of_lt (Nat.lt_of_lt_of_le f292_0.lt (Nat.le_of_eq g294.symm))
  have sz_b294 : h0.size ≤ b294 := Nat.le_trans K293.1 (Nat.le_of_eq g294.symm)
  have g_b294 : n0 ≤ b294 := Nat.le_trans Z0 sz_b294
  have f295_0 := f292_0.ext E294
  clear f292_0
  have f295_1 := f292_1.ext E294
  clear f292_1
  have f295_2 := f292_2.ext E294
  clear f292_2
  have f295_3 := f292_3.ext E294
  clear f292_3
  have f295_4 := f292_4.ext E294
  clear f292_4
  have f295_5 := f292_5.ext E294
  clear f292_5
  have f295_6 := f292_6.ext E294
  clear f292_6
  have f295_7 := f292_7.ext E294
  clear f292_7
  have f295_8 := f292_8.ext E294
  clear f292_8
  have f295_9 := f292_9.ext E294
  clear f292_9
  have K296 : Keep h0 h294 [a1] := K293.ext E294
  clear K293 E294
  have V294 : own_AVk Z h294 b294 k294 (.object "com/example/urania/urania/layered/FlowSide") [.null, .null, .null, .null] := own_AVk_new A294
  clear A294
  refine own_st st294 ?_
  clear st294
  show own_Fin p e below G (T294.setTop (mkF m 86 #[rv a1, iv (4 : Int32), iv (0 : Int32), rv dr, iv (4 : Int32)] [(.ref b294), (.ref a1)]))
  obtain ⟨T297, h297, X297, e297, W297, st297⟩ := putF X294 hx hZ hown (host := "") (Or.inl (own_w hw 99 rfl)) Via.refl e294 f295_5 f295_0 (Or.inr ⟨(own_w hw 100 rfl), rfl, hnm⟩) (own_w hw 9 rfl) (ty := (.array (.object "com/example/urania/urania/layered/FlowSide"))) (by decide) rfl rfl (g := (mkF m 86 #[rv a1, iv (4 : Int32), iv (0 : Int32), rv dr, iv (4 : Int32)] [(.ref b294), (.ref a1)])) rfl rfl (hb hby d2_86)
  clear X294 e294
  have f298_0 := f295_0.wr W297
  clear f295_0
  have sl299 := slot_ne (Z := Z) (a0 := a0) (Or.inr (own_w hw 45 rfl)) (Or.inr (own_w hw 100 rfl)) (by decide) (t := (.object "java/util/List")) (t' := (.array (.object "com/example/urania/urania/layered/FlowSide"))) (by decide) (by decide)
  have f298_1 := f295_1.other W297 (Or.inr sl299)
  clear f295_1
  have sl300 := slot_ne (Z := Z) (a0 := a0) (Or.inr (own_w hw 47 rfl)) (Or.inr (own_w hw 100 rfl)) (by decide) (t := (.object "java/util/List")) (t' := (.array (.object "com/example/urania/urania/layered/FlowSide"))) (by decide) (by decide)
  have f298_2 := f295_2.other W297 (Or.inr sl300)
  clear f295_2
  have sl301 := slot_ne (Z := Z) (a0 := a0) (Or.inr (own_w hw 49 rfl)) (Or.inr (own_w hw 100 rfl)) (by decide) (t := (.object "com/example/urania/urania/Direction")) (t' := (.array (.object "com/example/urania/urania/layered/FlowSide"))) (by decide) (by decide)
  have f298_3 := f295_3.other W297 (Or.inr sl301)
  clear f295_3
  have sl302 := slot_ne (Z := Z) (a0 := a0) (Or.inr (own_w hw 53 rfl)) (Or.inr (own_w hw 100 rfl)) (by decide) (t := (.array (.object "com/example/urania/urania/layered/Ports$Freedom"))) (t' := (.array (.object "com/example/urania/urania/layered/FlowSide"))) (by decide) (by decide)
  have f298_4 := f295_4.other W297 (Or.inr sl302)
  clear f295_4
  have sl303 := slot_ne (Z := Z) (a0 := a0) (Or.inr (own_w hw 104 rfl)) (Or.inr (own_w hw 100 rfl)) (by decide) (t := (.array (.array .double))) (t' := (.array (.object "com/example/urania/urania/layered/FlowSide"))) (by decide) (by decide)
  have f298_6 := f295_6.other W297 (Or.inr sl303)
  clear f295_6
  have sl304 := slot_ne (Z := Z) (a0 := a0) (Or.inr (own_w hw 107 rfl)) (Or.inr (own_w hw 100 rfl)) (by decide) (t := (.array .int)) (t' := (.array (.object "com/example/urania/urania/layered/FlowSide"))) (by decide) (by decide)
  have f298_7 := f295_7.other W297 (Or.inr sl304)
  clear f295_7
  have sl305 := slot_ne (Z := Z) (a0 := a0) (Or.inr (own_w hw 109 rfl)) (Or.inr (own_w hw 100 rfl)) (by decide) (t := (.array .int)) (t' := (.array (.object "com/example/urania/urania/layered/FlowSide"))) (by decide) (by decide)
  have f298_8 := f295_8.other W297 (Or.inr sl305)
  clear f295_8
  have sl306 := slot_ne (Z := Z) (a0 := a0) (Or.inr (own_w hw 111 rfl)) (Or.inr (own_w hw 100 rfl)) (by decide) (t := (.array .int)) (t' := (.array (.object "com/example/urania/urania/layered/FlowSide"))) (by decide) (by decide)
  have f298_9 := f295_9.other W297 (Or.inr sl306)
  clear f295_9
  have f298_10 := B294.wr W297
  clear B294
  have f298_11 := V294.other W297 (Ne.symm ne_a1_b294)
  clear V294
  have K307 : Keep h0 h297 [a1] := K296.wr W297 (Or.inl (List.mem_of_getElem? (i := 0) rfl))
  clear K296
  have N308 := Fr.snoc X297 N291 g1
  clear N291
  have Fw297 : Fld Z h297 a1 "com/example/urania/urania/layered/Ports" "border" "[Lcom/example/urania/urania/layered/FlowSide;" (.ref b294) := f295_5.same W297
  clear f295_5 W297
  refine own_st st297 ?_
  clear st297
  show own_Fin p e below G (T297.setTop (mkF m 89 #[rv a1, iv (4 : Int32), iv (0 : Int32), rv dr, iv (4 : Int32)] []))
  refine own_st (fun _ k => XS.aloadN X297.here hx rfl (hb hby d2_89) rfl rfl k) ?_
  show own_Fin p e below G (T297.setTop (mkF m 90 #[rv a1, iv (4 : Int32), iv (0 : Int32), rv dr, iv (4 : Int32)] [(.ref a1)]))
  refine own_st (fun _ k => XS.iloadN X297.here hx rfl (hb hby d2_90) rfl  k) ?_
  show own_Fin p e below G (T297.setTop (mkF m 91 #[rv a1, iv (4 : Int32), iv (0 : Int32), rv dr, iv (4 : Int32)] [(.int (4 : Int32)), (.ref a1)]))
  obtain ⟨T309, h309, k309, X309, e309, E309, A309, B309, O309, st309⟩ := newRA X297 hx hZ hown (ty := .double) (C := "[D") (by decide +kernel) (own_w hw 101 rfl) (own_w hw 102 rfl) e297 (g := (mkF m 91 #[rv a1, iv (4 : Int32), iv (0 : Int32), rv dr, iv (4 : Int32)] [(.int (4 : Int32)), (.ref a1)])) rfl (hb hby d2_91) rfl (by decide) (cap := 4) (by decide) (by decide) (by decide) (by decide) (ad := "[[D") (by decide +kernel)
  clear X297 e297
  obtain ⟨b309, g309⟩ : ∃ z, z = h297.size := ⟨_, rfl⟩
  rw [← g309] at A309 B309 st309
  have ne_a1_b309 : a1 ≠ b309 := Nat.ne_of_lt (Nat.lt_of_lt_of_le f298_0.lt (Nat.le_of_eq g309.symm))
  have ne_b294_b309 : b294 ≠ b309 := Nat.ne_of_lt (Nat.lt_of_lt_of_le f298_10.lt (Nat.le_of_eq g309.symm))
  have sz_b309 : h0.size ≤ b309 := Nat.le_trans K307.1 (Nat.le_of_eq g309.symm)
  have g_b309 : n0 ≤ b309 := Nat.le_trans Z0 sz_b309
  have f310_0 := f298_0.ext E309
  clear f298_0
  have f310_1 := f298_1.ext E309
  clear f298_1
  have f310_2 := f298_2.ext E309
  clear f298_2
  have f310_3 := f298_3.ext E309
  clear f298_3
  have f310_4 := f298_4.ext E309
  clear f298_4
  have f310_5 := Fw297.ext E309
  clear Fw297
  have f310_6 := f298_6.ext E309
  clear f298_6
  have f310_7 := f298_7.ext E309
  clear f298_7
  have f310_8 := f298_8.ext E309
  clear f298_8
  have f310_9 := f298_9.ext E309
  clear f298_9
  have f310_10 := f298_10.ext E309
  clear f298_10
  have f310_11 := f298_11.ext E309
  clear f298_11
  have K311 : Keep h0 h309 [a1] := K307.ext E309
  clear K307 E309
  have V309 : own_AVk Z h309 b309 k309 (.array .double) [.null, .null, .null, .null] := own_AVk_new A309
  clear A309
  refine own_st st309 ?_
  clear st309
  show own_Fin p e below G (T309.setTop (mkF m 94 #[rv a1, iv (4 : Int32), iv (0 : Int32), rv dr, iv (4 : Int32)] [(.ref b309), (.ref a1)]))
  obtain ⟨T312, h312, X312, e312, W312, st312⟩ := putF X309 hx hZ hown (host := "") (Or.inl (own_w hw 103 rfl)) Via.refl e309 f310_6 f310_0 (Or.inr ⟨(own_w hw 104 rfl), rfl, hnm⟩) (own_w hw 9 rfl) (ty := (.array (.array .double))) (by decide) rfl rfl (g := (mkF m 94 #[rv a1, iv (4 : Int32), iv (0 : Int32), rv dr, iv (4 : Int32)] [(.ref b309), (.ref a1)])) rfl rfl (hb hby d2_94)
  clear X309 e309
  have f313_0 := f310_0.wr W312
  clear f310_0
  have sl314 := slot_ne (Z := Z) (a0 := a0) (Or.inr (own_w hw 45 rfl)) (Or.inr (own_w hw 104 rfl)) (by decide) (t := (.object "java/util/List")) (t' := (.array (.array .double))) (by decide) (by decide)
  have f313_1 := f310_1.other W312 (Or.inr sl314)
  clear f310_1
  have sl315 := slot_ne (Z := Z) (a0 := a0) (Or.inr (own_w hw 47 rfl)) (Or.inr (own_w hw 104 rfl)) (by decide) (t := (.object "java/util/List")) (t' := (.array (.array .double))) (by decide) (by decide)
  have f313_2 := f310_2.other W312 (Or.inr sl315)
  clear f310_2
  have sl316 := slot_ne (Z := Z) (a0 := a0) (Or.inr (own_w hw 49 rfl)) (Or.inr (own_w hw 104 rfl)) (by decide) (t := (.object "com/example/urania/urania/Direction")) (t' := (.array (.array .double))) (by decide) (by decide)
  have f313_3 := f310_3.other W312 (Or.inr sl316)
  clear f310_3
  have sl317 := slot_ne (Z := Z) (a0 := a0) (Or.inr (own_w hw 53 rfl)) (Or.inr (own_w hw 104 rfl)) (by decide) (t := (.array (.object "com/example/urania/urania/layered/Ports$Freedom"))) (t' := (.array (.array .double))) (by decide) (by decide)
  have f313_4 := f310_4.other W312 (Or.inr sl317)
  clear f310_4
  have sl318 := slot_ne (Z := Z) (a0 := a0) (Or.inr (own_w hw 100 rfl)) (Or.inr (own_w hw 104 rfl)) (by decide) (t := (.array (.object "com/example/urania/urania/layered/FlowSide"))) (t' := (.array (.array .double))) (by decide) (by decide)
  have f313_5 := f310_5.other W312 (Or.inr sl318)
  clear f310_5
  have sl319 := slot_ne (Z := Z) (a0 := a0) (Or.inr (own_w hw 107 rfl)) (Or.inr (own_w hw 104 rfl)) (by decide) (t := (.array .int)) (t' := (.array (.array .double))) (by decide) (by decide)
  have f313_7 := f310_7.other W312 (Or.inr sl319)
  clear f310_7
  have sl320 := slot_ne (Z := Z) (a0 := a0) (Or.inr (own_w hw 109 rfl)) (Or.inr (own_w hw 104 rfl)) (by decide) (t := (.array .int)) (t' := (.array (.array .double))) (by decide) (by decide)
  have f313_8 := f310_8.other W312 (Or.inr sl320)
  clear f310_8
  have sl321 := slot_ne (Z := Z) (a0 := a0) (Or.inr (own_w hw 111 rfl)) (Or.inr (own_w hw 104 rfl)) (by decide) (t := (.array .int)) (t' := (.array (.array .double))) (by decide) (by decide)
  have f313_9 := f310_9.other W312 (Or.inr sl321)
  clear f310_9
  have f313_10 := f310_10.wr W312
  clear f310_10
  have f313_11 := f310_11.other W312 (Ne.symm ne_a1_b294)
  clear f310_11
  have f313_12 := B309.wr W312
  clear B309
  have f313_13 := V309.other W312 (Ne.symm ne_a1_b309)
  clear V309
  have K322 : Keep h0 h312 [a1] := K311.wr W312 (Or.inl (List.mem_of_getElem? (i := 0) rfl))
  clear K311
  have N323 := Fr.snoc X312 N308 g1
  clear N308
  have Fw312 : Fld Z h312 a1 "com/example/urania/urania/layered/Ports" "borderPort" "[[D" (.ref b309) := f310_6.same W312
  clear f310_6 W312
  refine own_st st312 ?_
  clear st312
  show own_Fin p e below G (T312.setTop (mkF m 97 #[rv a1, iv (4 : Int32), iv (0 : Int32), rv dr, iv (4 : Int32)] []))
  refine own_st (fun _ k => XS.aloadN X312.here hx rfl (hb hby d2_97) rfl rfl k) ?_
  show own_Fin p e below G (T312.setTop (mkF m 98 #[rv a1, iv (4 : Int32), iv (0 : Int32), rv dr, iv (4 : Int32)] [(.ref a1)]))
  refine own_st (fun _ k => XS.iloadN X312.here hx rfl (hb hby d2_98) rfl  k) ?_
  show own_Fin p e below G (T312.setTop (mkF m 99 #[rv a1, iv (4 : Int32), iv (0 : Int32), rv dr, iv (4 : Int32)] [(.int (0 : Int32)), (.ref a1)]))
  obtain ⟨T324, h324, k324, X324, e324, E324, A324, st324⟩ := newP X312 hx hZ (own_w hw 105 rfl) e312 (g := (mkF m 99 #[rv a1, iv (4 : Int32), iv (0 : Int32), rv dr, iv (4 : Int32)] [(.int (0 : Int32)), (.ref a1)])) rfl (hb hby d2_99) rfl (by decide) (cap := 0) (by decide) (by decide) (by decide) (by decide)
  clear X312 e312
  obtain ⟨b324, g324⟩ : ∃ z, z = h312.size := ⟨_, rfl⟩
  rw [← g324] at A324 st324
  have ne_a1_b324 : a1 ≠ b324 := Nat.ne_of_lt (Nat.lt_of_lt_of_le f313_0.lt (Nat.le_of_eq g324.symm))
  have ne_b294_b324 : b294 ≠ b324 := Nat.ne_of_lt (Nat.lt_of_lt_of_le f313_10.lt (Nat.le_of_eq g324.symm))
  have ne_b309_b324 : b309 ≠ b324 := Nat.ne_of_lt (Nat.lt_of_lt_of_le f313_12.lt (Nat.le_of_eq g324.symm))
  have sz_b324 : h0.size ≤ b324 := Nat.le_trans K322.1 (Nat.le_of_eq g324.symm)
  have g_b324 : n0 ≤ b324 := Nat.le_trans Z0 sz_b324
  have f325_0 := f313_0.ext E324
  clear f313_0
  have f325_1 := f313_1.ext E324
  clear f313_1
  have f325_2 := f313_2.ext E324
  clear f313_2
  have f325_3 := f313_3.ext E324
  clear f313_3
  have f325_4 := f313_4.ext E324
  clear f313_4
  have f325_5 := f313_5.ext E324
  clear f313_5
  have f325_6 := Fw312.ext E324
  clear Fw312
  have f325_7 := f313_7.ext E324
  clear f313_7
  have f325_8 := f313_8.ext E324
  clear f313_8
  have f325_9 := f313_9.ext E324
  clear f313_9
  have f325_10 := f313_10.ext E324
  clear f313_10
  have f325_11 := f313_11.ext E324
  clear f313_11
  have f325_12 := f313_12.ext E324
  clear f313_12
  have f325_13 := f313_13.ext E324
  clear f313_13
  have K326 : Keep h0 h324 [a1] := K322.ext E324
  clear K322 E324
  have V324 : own_AV Z h324 b324 .int (own_is []) := own_AV_newI A324
  clear A324
  refine own_st st324 ?_
  clear st324
  show own_Fin p e below G (T324.setTop (mkF m 101 #[rv a1, iv (4 : Int32), iv (0 : Int32), rv dr, iv (4 : Int32)] [(.ref b324), (.ref a1)]))
  obtain ⟨T327, h327, X327, e327, W327, st327⟩ := putF X324 hx hZ hown (host := "") (Or.inl (own_w hw 106 rfl)) Via.refl e324 f325_7 f325_0 (Or.inr ⟨(own_w hw 107 rfl), rfl, hnm⟩) (own_w hw 9 rfl) (ty := (.array .int)) (by decide) rfl rfl (g := (mkF m 101 #[rv a1, iv (4 : Int32), iv (0 : Int32), rv dr, iv (4 : Int32)] [(.ref b324), (.ref a1)])) rfl rfl (hb hby d2_101)
  clear X324 e324
  have f328_0 := f325_0.wr W327
  clear f325_0
  have sl329 := slot_ne (Z := Z) (a0 := a0) (Or.inr (own_w hw 45 rfl)) (Or.inr (own_w hw 107 rfl)) (by decide) (t := (.object "java/util/List")) (t' := (.array .int)) (by decide) (by decide)
  have f328_1 := f325_1.other W327 (Or.inr sl329)
  clear f325_1
  have sl330 := slot_ne (Z := Z) (a0 := a0) (Or.inr (own_w hw 47 rfl)) (Or.inr (own_w hw 107 rfl)) (by decide) (t := (.object "java/util/List")) (t' := (.array .int)) (by decide) (by decide)
  have f328_2 := f325_2.other W327 (Or.inr sl330)
  clear f325_2
  have sl331 := slot_ne (Z := Z) (a0 := a0) (Or.inr (own_w hw 49 rfl)) (Or.inr (own_w hw 107 rfl)) (by decide) (t := (.object "com/example/urania/urania/Direction")) (t' := (.array .int)) (by decide) (by decide)
  have f328_3 := f325_3.other W327 (Or.inr sl331)
  clear f325_3
  have sl332 := slot_ne (Z := Z) (a0 := a0) (Or.inr (own_w hw 53 rfl)) (Or.inr (own_w hw 107 rfl)) (by decide) (t := (.array (.object "com/example/urania/urania/layered/Ports$Freedom"))) (t' := (.array .int)) (by decide) (by decide)
  have f328_4 := f325_4.other W327 (Or.inr sl332)
  clear f325_4
  have sl333 := slot_ne (Z := Z) (a0 := a0) (Or.inr (own_w hw 100 rfl)) (Or.inr (own_w hw 107 rfl)) (by decide) (t := (.array (.object "com/example/urania/urania/layered/FlowSide"))) (t' := (.array .int)) (by decide) (by decide)
  have f328_5 := f325_5.other W327 (Or.inr sl333)
  clear f325_5
  have sl334 := slot_ne (Z := Z) (a0 := a0) (Or.inr (own_w hw 104 rfl)) (Or.inr (own_w hw 107 rfl)) (by decide) (t := (.array (.array .double))) (t' := (.array .int)) (by decide) (by decide)
  have f328_6 := f325_6.other W327 (Or.inr sl334)
  clear f325_6
  have sl335 := slot_ne (Z := Z) (a0 := a0) (Or.inr (own_w hw 109 rfl)) (Or.inr (own_w hw 107 rfl)) (by decide) (t := (.array .int)) (t' := (.array .int)) (by decide) (by decide)
  have f328_8 := f325_8.other W327 (Or.inr sl335)
  clear f325_8
  have sl336 := slot_ne (Z := Z) (a0 := a0) (Or.inr (own_w hw 111 rfl)) (Or.inr (own_w hw 107 rfl)) (by decide) (t := (.array .int)) (t' := (.array .int)) (by decide) (by decide)
  have f328_9 := f325_9.other W327 (Or.inr sl336)
  clear f325_9
  have f328_10 := f325_10.wr W327
  clear f325_10
  have f328_11 := f325_11.other W327 (Ne.symm ne_a1_b294)
  clear f325_11
  have f328_12 := f325_12.wr W327
  clear f325_12
  have f328_13 := f325_13.other W327 (Ne.symm ne_a1_b309)
  clear f325_13
  have f328_14 := V324.other W327 (Ne.symm ne_a1_b324)
  clear V324
  have K337 : Keep h0 h327 [a1] := K326.wr W327 (Or.inl (List.mem_of_getElem? (i := 0) rfl))
  clear K326
  have N338 := Fr.snoc X327 N323 g1
  clear N323
  have Fw327 : Fld Z h327 a1 "com/example/urania/urania/layered/Ports" "sourcePort" "[I" (.ref b324) := f325_7.same W327
  clear f325_7 W327
  refine own_st st327 ?_
  clear st327
  show own_Fin p e below G (T327.setTop (mkF m 104 #[rv a1, iv (4 : Int32), iv (0 : Int32), rv dr, iv (4 : Int32)] []))
  refine own_st (fun _ k => XS.aloadN X327.here hx rfl (hb hby d2_104) rfl rfl k) ?_
  show own_Fin p e below G (T327.setTop (mkF m 105 #[rv a1, iv (4 : Int32), iv (0 : Int32), rv dr, iv (4 : Int32)] [(.ref a1)]))
  refine own_st (fun _ k => XS.iloadN X327.here hx rfl (hb hby d2_105) rfl  k) ?_
  show own_Fin p e below G (T327.setTop (mkF m 106 #[rv a1, iv (4 : Int32), iv (0 : Int32), rv dr, iv (4 : Int32)] [(.int (0 : Int32)), (.ref a1)]))
  obtain ⟨T339, h339, k339, X339, e339, E339, A339, st339⟩ := newP X327 hx hZ (own_w hw 105 rfl) e327 (g := (mkF m 106 #[rv a1, iv (4 : Int32), iv (0 : Int32), rv dr, iv (4 : Int32)] [(.int (0 : Int32)), (.ref a1)])) rfl (hb hby d2_106) rfl (by decide) (cap := 0) (by decide) (by decide) (by decide) (by decide)
  clear X327 e327
  obtain ⟨b339, g339⟩ : ∃ z, z = h327.size := ⟨_, rfl⟩
  rw [← g339] at A339 st339
  have ne_a1_b339 : a1 ≠ b339 := Nat.ne_of_lt (Nat.lt_of_lt_of_le f328_0.lt (Nat.le_of_eq g339.symm))
  have ne_b294_b339 : b294 ≠ b339 := Nat.ne_of_lt (Nat.lt_of_lt_of_le f328_10.lt (Nat.le_of_eq g339.symm))
  have ne_b309_b339 : b309 ≠ b339 := Nat.ne_of_lt (Nat.lt_of_lt_of_le f328_12.lt (Nat.le_of_eq g339.symm))
  have ne_b324_b339 : b324 ≠ b339 := Nat.ne_of_lt (Nat.lt_of_lt_of_le f328_14.lt (Nat.le_of_eq g339.symm))
  have sz_b339 : h0.size ≤ b339 := Nat.le_trans K337.1 (Nat.le_of_eq g339.symm)
  have g_b339 : n0 ≤ b339 := Nat.le_trans Z0 sz_b339
  have f340_0 := f328_0.ext E339
  clear f328_0
  have f340_1 := f328_1.ext E339
  clear f328_1
  have f340_2 := f328_2.ext E339
  clear f328_2
  have f340_3 := f328_3.ext E339
  clear f328_3
  have f340_4 := f328_4.ext E339
  clear f328_4
  have f340_5 := f328_5.ext E339
  clear f328_5
  have f340_6 := f328_6.ext E339
  clear f328_6
  have f340_7 := Fw327.ext E339
  clear Fw327
  have f340_8 := f328_8.ext E339
  clear f328_8
  have f340_9 := f328_9.ext E339
  clear f328_9
  have f340_10 := f328_10.ext E339
  clear f328_10
  have f340_11 := f328_11.ext E339
  clear f328_11
  have f340_12 := f328_12.ext E339
  clear f328_12
  have f340_13 := f328_13.ext E339
  clear f328_13
  have f340_14 := f328_14.ext E339
  clear f328_14
  have K341 : Keep h0 h339 [a1] := K337.ext E339
  clear K337 E339
  have V339 : own_AV Z h339 b339 .int (own_is []) := own_AV_newI A339
  clear A339
  refine own_st st339 ?_
  clear st339
  show own_Fin p e below G (T339.setTop (mkF m 108 #[rv a1, iv (4 : Int32), iv (0 : Int32), rv dr, iv (4 : Int32)] [(.ref b339), (.ref a1)]))
  obtain ⟨T342, h342, X342, e342, W342, st342⟩ := putF X339 hx hZ hown (host := "") (Or.inl (own_w hw 108 rfl)) Via.refl e339 f340_8 f340_0 (Or.inr ⟨(own_w hw 109 rfl), rfl, hnm⟩) (own_w hw 9 rfl) (ty := (.array .int)) (by decide) rfl rfl (g := (mkF m 108 #[rv a1, iv (4 : Int32), iv (0 : Int32), rv dr, iv (4 : Int32)] [(.ref b339), (.ref a1)])) rfl rfl (hb hby d2_108)
  clear X339 e339
  have f343_0 := f340_0.wr W342
  clear f340_0
  have sl344 := slot_ne (Z := Z) (a0 := a0) (Or.inr (own_w hw 45 rfl)) (Or.inr (own_w hw 109 rfl)) (by decide) (t := (.object "java/util/List")) (t' := (.array .int)) (by decide) (by decide)
  have f343_1 := f340_1.other W342 (Or.inr sl344)
  clear f340_1
  have sl345 := slot_ne (Z := Z) (a0 := a0) (Or.inr (own_w hw 47 rfl)) (Or.inr (own_w hw 109 rfl)) (by decide) (t := (.object "java/util/List")) (t' := (.array .int)) (by decide) (by decide)
  have f343_2 := f340_2.other W342 (Or.inr sl345)
  clear f340_2
  have sl346 := slot_ne (Z := Z) (a0 := a0) (Or.inr (own_w hw 49 rfl)) (Or.inr (own_w hw 109 rfl)) (by decide) (t := (.object "com/example/urania/urania/Direction")) (t' := (.array .int)) (by decide) (by decide)
  have f343_3 := f340_3.other W342 (Or.inr sl346)
  clear f340_3
  have sl347 := slot_ne (Z := Z) (a0 := a0) (Or.inr (own_w hw 53 rfl)) (Or.inr (own_w hw 109 rfl)) (by decide) (t := (.array (.object "com/example/urania/urania/layered/Ports$Freedom"))) (t' := (.array .int)) (by decide) (by decide)
  have f343_4 := f340_4.other W342 (Or.inr sl347)
  clear f340_4
  have sl348 := slot_ne (Z := Z) (a0 := a0) (Or.inr (own_w hw 100 rfl)) (Or.inr (own_w hw 109 rfl)) (by decide) (t := (.array (.object "com/example/urania/urania/layered/FlowSide"))) (t' := (.array .int)) (by decide) (by decide)
  have f343_5 := f340_5.other W342 (Or.inr sl348)
  clear f340_5
  have sl349 := slot_ne (Z := Z) (a0 := a0) (Or.inr (own_w hw 104 rfl)) (Or.inr (own_w hw 109 rfl)) (by decide) (t := (.array (.array .double))) (t' := (.array .int)) (by decide) (by decide)
  have f343_6 := f340_6.other W342 (Or.inr sl349)
  clear f340_6
  have sl350 := slot_ne (Z := Z) (a0 := a0) (Or.inr (own_w hw 107 rfl)) (Or.inr (own_w hw 109 rfl)) (by decide) (t := (.array .int)) (t' := (.array .int)) (by decide) (by decide)
  have f343_7 := f340_7.other W342 (Or.inr sl350)
  clear f340_7
  have sl351 := slot_ne (Z := Z) (a0 := a0) (Or.inr (own_w hw 111 rfl)) (Or.inr (own_w hw 109 rfl)) (by decide) (t := (.array .int)) (t' := (.array .int)) (by decide) (by decide)
  have f343_9 := f340_9.other W342 (Or.inr sl351)
  clear f340_9
  have f343_10 := f340_10.wr W342
  clear f340_10
  have f343_11 := f340_11.other W342 (Ne.symm ne_a1_b294)
  clear f340_11
  have f343_12 := f340_12.wr W342
  clear f340_12
  have f343_13 := f340_13.other W342 (Ne.symm ne_a1_b309)
  clear f340_13
  have f343_14 := f340_14.other W342 (Ne.symm ne_a1_b324)
  clear f340_14
  have f343_15 := V339.other W342 (Ne.symm ne_a1_b339)
  clear V339
  have K352 : Keep h0 h342 [a1] := K341.wr W342 (Or.inl (List.mem_of_getElem? (i := 0) rfl))
  clear K341
  have N353 := Fr.snoc X342 N338 g1
  clear N338
  have Fw342 : Fld Z h342 a1 "com/example/urania/urania/layered/Ports" "targetPort" "[I" (.ref b339) := f340_8.same W342
  clear f340_8 W342
  refine own_st st342 ?_
  clear st342
  show own_Fin p e below G (T342.setTop (mkF m 111 #[rv a1, iv (4 : Int32), iv (0 : Int32), rv dr, iv (4 : Int32)] []))
  refine own_st (fun _ k => XS.aloadN X342.here hx rfl (hb hby d2_111) rfl rfl k) ?_
  show own_Fin p e below G (T342.setTop (mkF m 112 #[rv a1, iv (4 : Int32), iv (0 : Int32), rv dr, iv (4 : Int32)] [(.ref a1)]))
  refine own_st (fun _ k => XS.iloadN X342.here hx rfl (hb hby d2_112) rfl  k) ?_
  show own_Fin p e below G (T342.setTop (mkF m 113 #[rv a1, iv (4 : Int32), iv (0 : Int32), rv dr, iv (4 : Int32)] [(.int (0 : Int32)), (.ref a1)]))
  obtain ⟨T354, h354, k354, X354, e354, E354, A354, st354⟩ := newP X342 hx hZ (own_w hw 105 rfl) e342 (g := (mkF m 113 #[rv a1, iv (4 : Int32), iv (0 : Int32), rv dr, iv (4 : Int32)] [(.int (0 : Int32)), (.ref a1)])) rfl (hb hby d2_113) rfl (by decide) (cap := 0) (by decide) (by decide) (by decide) (by decide)
  clear X342 e342
  obtain ⟨b354, g354⟩ : ∃ z, z = h342.size := ⟨_, rfl⟩
  rw [← g354] at A354 st354
  have ne_a1_b354 : a1 ≠ b354 := Nat.ne_of_lt (Nat.lt_of_lt_of_le f343_0.lt (Nat.le_of_eq g354.symm))
  have ne_b294_b354 : b294 ≠ b354 := Nat.ne_of_lt (Nat.lt_of_lt_of_le f343_10.lt (Nat.le_of_eq g354.symm))
  have ne_b309_b354 : b309 ≠ b354 := Nat.ne_of_lt (Nat.lt_of_lt_of_le f343_12.lt (Nat.le_of_eq g354.symm))
  have ne_b324_b354 : b324 ≠ b354 := Nat.ne_of_lt (Nat.lt_of_lt_of_le f343_14.lt (Nat.le_of_eq g354.symm))
  have ne_b339_b354 : b339 ≠ b354 := Nat.ne_of_lt (Nat.lt_of_lt_of_le f343_15.lt (Nat.le_of_eq g354.symm))
  have sz_b354 : h0.size ≤ b354 := Nat.le_trans K352.1 (Nat.le_of_eq g354.symm)
  have g_b354 : n0 ≤ b354 := Nat.le_trans Z0 sz_b354
  have f355_0 := f343_0.ext E354
  clear f343_0
  have f355_1 := f343_1.ext E354
  clear f343_1
  have f355_2 := f343_2.ext E354
  clear f343_2
  have f355_3 := f343_3.ext E354
  clear f343_3
  have f355_4 := f343_4.ext E354
  clear f343_4
  have f355_5 := f343_5.ext E354
  clear f343_5
  have f355_6 := f343_6.ext E354
  clear f343_6
  have f355_7 := f343_7.ext E354
  clear f343_7
  have f355_8 := Fw342.ext E354
  clear Fw342
  have f355_9 := f343_9.ext E354
  clear f343_9
  have f355_10 := f343_10.ext E354
  clear f343_10
  have f355_11 := f343_11.ext E354
  clear f343_11
  have f355_12 := f343_12.ext E354
  clear f343_12
  have f355_13 := f343_13.ext E354
  clear f343_13
  have f355_14 := f343_14.ext E354
  clear f343_14
  have f355_15 := f343_15.ext E354
  clear f343_15
  have K356 : Keep h0 h354 [a1] := K352.ext E354
  clear K352 E354
  have V354 : own_AV Z h354 b354 .int (own_is []) := own_AV_newI A354
  clear A354
  refine own_st st354 ?_
  clear st354
  show own_Fin p e below G (T354.setTop (mkF m 115 #[rv a1, iv (4 : Int32), iv (0 : Int32), rv dr, iv (4 : Int32)] [(.ref b354), (.ref a1)]))
  obtain ⟨T357, h357, X357, e357, W357, st357⟩ := putF X354 hx hZ hown (host := "") (Or.inl (own_w hw 110 rfl)) Via.refl e354 f355_9 f355_0 (Or.inr ⟨(own_w hw 111 rfl), rfl, hnm⟩) (own_w hw 9 rfl) (ty := (.array .int)) (by decide) rfl rfl (g := (mkF m 115 #[rv a1, iv (4 : Int32), iv (0 : Int32), rv dr, iv (4 : Int32)] [(.ref b354), (.ref a1)])) rfl rfl (hb hby d2_115)
  clear X354 e354
  have f358_0 := f355_0.wr W357
  clear f355_0 f358_0
  have sl359 := slot_ne (Z := Z) (a0 := a0) (Or.inr (own_w hw 45 rfl)) (Or.inr (own_w hw 111 rfl)) (by decide) (t := (.object "java/util/List")) (t' := (.array .int)) (by decide) (by decide)
  have f358_1 := f355_1.other W357 (Or.inr sl359)
  clear f355_1 f358_1
  have sl360 := slot_ne (Z := Z) (a0 := a0) (Or.inr (own_w hw 47 rfl)) (Or.inr (own_w hw 111 rfl)) (by decide) (t := (.object "java/util/List")) (t' := (.array .int)) (by decide) (by decide)
  have f358_2 := f355_2.other W357 (Or.inr sl360)
  clear f355_2 f358_2
  have sl361 := slot_ne (Z := Z) (a0 := a0) (Or.inr (own_w hw 49 rfl)) (Or.inr (own_w hw 111 rfl)) (by decide) (t := (.object "com/example/urania/urania/Direction")) (t' := (.array .int)) (by decide) (by decide)
  have f358_3 := f355_3.other W357 (Or.inr sl361)
  clear f355_3 f358_3
  have sl362 := slot_ne (Z := Z) (a0 := a0) (Or.inr (own_w hw 53 rfl)) (Or.inr (own_w hw 111 rfl)) (by decide) (t := (.array (.object "com/example/urania/urania/layered/Ports$Freedom"))) (t' := (.array .int)) (by decide) (by decide)
  have f358_4 := f355_4.other W357 (Or.inr sl362)
  clear f355_4 f358_4
  have sl363 := slot_ne (Z := Z) (a0 := a0) (Or.inr (own_w hw 100 rfl)) (Or.inr (own_w hw 111 rfl)) (by decide) (t := (.array (.object "com/example/urania/urania/layered/FlowSide"))) (t' := (.array .int)) (by decide) (by decide)
  have f358_5 := f355_5.other W357 (Or.inr sl363)
  clear f355_5
  have sl364 := slot_ne (Z := Z) (a0 := a0) (Or.inr (own_w hw 104 rfl)) (Or.inr (own_w hw 111 rfl)) (by decide) (t := (.array (.array .double))) (t' := (.array .int)) (by decide) (by decide)
  have f358_6 := f355_6.other W357 (Or.inr sl364)
  clear f355_6
  have sl365 := slot_ne (Z := Z) (a0 := a0) (Or.inr (own_w hw 107 rfl)) (Or.inr (own_w hw 111 rfl)) (by decide) (t := (.array .int)) (t' := (.array .int)) (by decide) (by decide)
  have f358_7 := f355_7.other W357 (Or.inr sl365)
  clear f355_7
  have sl366 := slot_ne (Z := Z) (a0 := a0) (Or.inr (own_w hw 109 rfl)) (Or.inr (own_w hw 111 rfl)) (by decide) (t := (.array .int)) (t' := (.array .int)) (by decide) (by decide)
  have f358_8 := f355_8.other W357 (Or.inr sl366)
  clear f355_8
  have f358_10 := f355_10.wr W357
  clear f355_10
  have f358_11 := f355_11.other W357 (Ne.symm ne_a1_b294)
  clear f355_11
  have f358_12 := f355_12.wr W357
  clear f355_12 f358_12
  have f358_13 := f355_13.other W357 (Ne.symm ne_a1_b309)
  clear f355_13
  have f358_14 := f355_14.other W357 (Ne.symm ne_a1_b324)
  clear f355_14
  have f358_15 := f355_15.other W357 (Ne.symm ne_a1_b339)
  clear f355_15
  have f358_16 := V354.other W357 (Ne.symm ne_a1_b354)
  clear V354 f358_16
  have K367 : Keep h0 h357 [a1] := K356.wr W357 (Or.inl (List.mem_of_getElem? (i := 0) rfl))
  clear K356
  have N368 := Fr.snoc X357 N353 g1
  clear N353
  have Fw357 : Fld Z h357 a1 "com/example/urania/urania/layered/Ports" "group" "[I" (.ref b354) := f355_9.same W357
  clear f355_9 W357 Fw357
  refine own_st st357 ?_
  clear st357
  show own_Fin p e below G (T357.setTop (mkF m 118 #[rv a1, iv (4 : Int32), iv (0 : Int32), rv dr, iv (4 : Int32)] []))
  refine own_st (fun _ k => XS.aloadN X357.here hx rfl (hb hby d2_118) rfl rfl k) ?_
  show own_Fin p e below G (T357.setTop (mkF m 119 #[rv a1, iv (4 : Int32), iv (0 : Int32), rv dr, iv (4 : Int32)] [(.ref a1)]))
  obtain ⟨T369, X369, e369, st369⟩ := getF X357 hx hZ hown (host := "") (Or.inl (own_w hw 106 rfl)) Via.refl e357 f358_7 (g := (mkF m 119 #[rv a1, iv (4 : Int32), iv (0 : Int32), rv dr, iv (4 : Int32)] [(.ref a1)])) rfl rfl (hb hby d2_119)
  clear X357 e357 f358_7
  refine own_st st369 ?_
  clear st369
  show own_Fin p e below G (T369.setTop (mkF m 122 #[rv a1, iv (4 : Int32), iv (0 : Int32), rv dr, iv (4 : Int32)] [(.ref b324)]))
  refine own_st (fun _ k => XS.iconst X369.here hx rfl (hb hby d2_122) k) ?_
  show own_Fin p e below G (T369.setTop (mkF m 123 #[rv a1, iv (4 : Int32), iv (0 : Int32), rv dr, iv (4 : Int32)] [(.int (-1 : Int32)), (.ref b324)]))
  obtain ⟨_, _, ⟨T370, L370, k370, n370⟩, -, X370, ⟨Lc370, hQ370, l370, y370, z370⟩, st370⟩ := Jvm.LawKit.callS X369 hx (y := own_y5) hown (mvT hZ (own_w hw 112 rfl)) (mvT hZ (own_w hw 113 rfl)) (mvT hZ (own_w hw 59 rfl)) (mvT hZ (own_w hw 114 rfl)) (by decide) (backOf (W := 0) (rm_fi l Z a0 hw [] b324 h357 n0 (Nat.le_trans Z0 K367.1) f358_14) hZ (own_w hw 114 rfl) (own_w hw 59 rfl) (by decide) (by decide)) (g := (mkF m 123 #[rv a1, iv (4 : Int32), iv (0 : Int32), rv dr, iv (4 : Int32)] [(.int (-1 : Int32)), (.ref b324)])) rfl (by rw [hml]; rfl) (argsL := [(.ref b324), (.int (-1 : Int32))]) (rest := []) (lenOf pd___II_V_404 rfl) rfl (by show 2 * 0 + _ ≤ _; exact Nat.le_of_eq rfl) (hb hby d2_123) (fun _ _ => ⟨rfl, e369, (by decide : 13 + 0 ≤ _), (by decide : 40 + 0 ≤ _)⟩)
  clear f358_14 X369 e369
  dsimp only [Pt.U, Pt.locs, Pt.cells, Pt.slots] at X370 l370 y370 z370 st370 hQ370
  subst l370 y370 z370
  obtain ⟨rfl, N370q, e370⟩ := hQ370
  skip
  have N370 := Fr.app N368 N370q
  clear N368 N370q
  refine own_st st370 ?_
  clear st370
  show own_Fin p e below G (T370.setTop (mkF m 126 #[rv a1, iv (4 : Int32), iv (0 : Int32), rv dr, iv (4 : Int32)] []))
  refine own_st (fun _ k => XS.aloadN X370.here hx rfl (hb hby d2_126) rfl rfl k) ?_
  show own_Fin p e below G (T370.setTop (mkF m 127 #[rv a1, iv (4 : Int32), iv (0 : Int32), rv dr, iv (4 : Int32)] [(.ref a1)]))
  obtain ⟨T371, X371, e371, st371⟩ := getF X370 hx hZ hown (host := "") (Or.inl (own_w hw 108 rfl)) Via.refl e370 f358_8 (g := (mkF m 127 #[rv a1, iv (4 : Int32), iv (0 : Int32), rv dr, iv (4 : Int32)] [(.ref a1)])) rfl rfl (hb hby d2_127)
  clear f358_8 X370 e370
  refine own_st st371 ?_
  clear st371
  show own_Fin p e below G (T371.setTop (mkF m 130 #[rv a1, iv (4 : Int32), iv (0 : Int32), rv dr, iv (4 : Int32)] [(.ref b339)]))
  refine own_st (fun _ k => XS.iconst X371.here hx rfl (hb hby d2_130) k) ?_
  show own_Fin p e below G (T371.setTop (mkF m 131 #[rv a1, iv (4 : Int32), iv (0 : Int32), rv dr, iv (4 : Int32)] [(.int (-1 : Int32)), (.ref b339)]))
  obtain ⟨_, _, ⟨T372, L372, k372, n372⟩, -, X372, ⟨Lc372, hQ372, l372, y372, z372⟩, st372⟩ := Jvm.LawKit.callS X371 hx (y := own_y5) hown (mvT hZ (own_w hw 112 rfl)) (mvT hZ (own_w hw 113 rfl)) (mvT hZ (own_w hw 59 rfl)) (mvT hZ (own_w hw 114 rfl)) (by decide) (backOf (W := 0) (rm_fi l Z a0 hw [] b339 h357 n0 (Nat.le_trans Z0 K367.1) f358_15) hZ (own_w hw 114 rfl) (own_w hw 59 rfl) (by decide) (by decide)) (g := (mkF m 131 #[rv a1, iv (4 : Int32), iv (0 : Int32), rv dr, iv (4 : Int32)] [(.int (-1 : Int32)), (.ref b339)])) rfl (by rw [hml]; rfl) (argsL := [(.ref b339), (.int (-1 : Int32))]) (rest := []) (lenOf pd___II_V_404 rfl) rfl (by show 2 * 0 + _ ≤ _; exact Nat.le_of_eq rfl) (hb hby d2_131) (fun _ _ => ⟨rfl, e371, (by decide : 13 + 0 ≤ _), (by decide : 40 + 0 ≤ _)⟩)
  clear f358_15 X371 e371
  dsimp only [Pt.U, Pt.locs, Pt.cells, Pt.slots] at X372 l372 y372 z372 st372 hQ372
  subst l372 y372 z372
  obtain ⟨rfl, N372q, e372⟩ := hQ372
  skip
  have N372 := Fr.app N370 N372q
  clear N370 N372q
  refine own_st st372 ?_
  clear st372
  show own_Fin p e below G (T372.setTop (mkF m 134 #[rv a1, iv (4 : Int32), iv (0 : Int32), rv dr, iv (4 : Int32)] []))
  refine own_st (fun _ k => XS.iconst X372.here hx rfl (hb hby d2_134) k) ?_
  show own_Fin p e below G (T372.setTop (mkF m 135 #[rv a1, iv (4 : Int32), iv (0 : Int32), rv dr, iv (4 : Int32)] [(.int (0 : Int32))]))
  refine own_st (fun _ k => XS.istore X372.here hx rfl (hb hby d2_135) rfl (l' := #[rv a1, iv (4 : Int32), iv (0 : Int32), rv dr, iv (0 : Int32)]) rfl k) ?_
  show own_Fin p e below G (T372.setTop (mkF m 137 #[rv a1, iv (4 : Int32), iv (0 : Int32), rv dr, iv (0 : Int32)] []))
  refine own_st (fun _ k => XS.iload X372.here hx rfl (hb hby d2_137) rfl  k) ?_
  show own_Fin p e below G (T372.setTop (mkF m 139 #[rv a1, iv (4 : Int32), iv (0 : Int32), rv dr, iv (0 : Int32)] [(.int (0 : Int32))]))
  refine own_st (fun _ k => XS.iloadN X372.here hx rfl (hb hby d2_139) rfl  k) ?_
  show own_Fin p e below G (T372.setTop (mkF m 140 #[rv a1, iv (4 : Int32), iv (0 : Int32), rv dr, iv (0 : Int32)] [(.int (0 : Int32)), (.int (0 : Int32))]))
  refine own_st (fun _ k => XS.icmpYes X372.here hx rfl (pc0 := 140) (pc' := 158) rfl (hb hby d2_140) rfl (flt (by decide : ¬ ((0 : Int32) < (0 : Int32)))).2.1 (by decide) (by decide) k) ?_
  show own_Fin p e below G (T372.setTop (mkF m 158 #[rv a1, iv (4 : Int32), iv (0 : Int32), rv dr, iv (0 : Int32)] []))
  refine own_out X372 Bd.notSynchronized (v := none) (fun _ => rfl) hG (fun fs hr => X372.returnOut hx Bd.returns (hb hby d2_158) hr) (by decide) (by decide) ?_
  exact ⟨b294, k294, b309, k309, rfl, N372, e372.symm ▸ K367, sz_b294, sz_b309, ne_b294_b309, e372.symm ▸ f358_5, e372.symm ▸ f358_6, e372.symm ▸ f358_11, e372.symm ▸ f358_10, O294, e372.symm ▸ f358_13, O309⟩

set_option maxRecDepth 65536 in
set_option maxHeartbeats 40000000 in
theorem rm_po3 (l : Launch) (Z : State) (a0 : Array Value) (hw : ∀ d ∈ tables_1, d.before a0 Z = true) (ws : List Jvm.Cond) (a1 : Addr) (dr : Addr) (ed : Addr) (ke : ClassId) (fr : Addr) (h0 : Heap) (n0 : Nat) (Z0 : n0 ≤ h0.size) (E1 : Exa Z h0 a1 "com/example/urania/urania/layered/Ports") (F_ofNode : Fld Z h0 a1 "com/example/urania/urania/layered/Ports" "ofNode" "Ljava/util/List;" .null) (F_specs : Fld Z h0 a1 "com/example/urania/urania/layered/Ports" "specs" "Ljava/util/List;" .null) (F_direction : Fld Z h0 a1 "com/example/urania/urania/layered/Ports" "direction" "Lcom/example/urania/urania/Direction;" .null) (F_freedom : Fld Z h0 a1 "com/example/urania/urania/layered/Ports" "freedom" "[Lcom/example/urania/urania/layered/Ports$Freedom;" .null) (F_border : Fld Z h0 a1 "com/example/urania/urania/layered/Ports" "border" "[Lcom/example/urania/urania/layered/FlowSide;" .null) (F_borderPort : Fld Z h0 a1 "com/example/urania/urania/layered/Ports" "borderPort" "[[D" .null) (F_sourcePort : Fld Z h0 a1 "com/example/urania/urania/layered/Ports" "sourcePort" "[I" .null) (F_targetPort : Fld Z h0 a1 "com/example/urania/urania/layered/Ports" "targetPort" "[I" .null) (F_group : Fld Z h0 a1 "com/example/urania/urania/layered/Ports" "group" "[I" .null) (g1 : n0 ≤ a1) (Sed : Sta Z h0 "java/util/ArrayList" "DEFAULTCAPACITY_EMPTY_ELEMENTDATA" "[Ljava/lang/Object;" (.ref ed)) (Bed : own_AVk Z h0 ed ke (.object "java/lang/Object") []) (ned : ed ≠ a1) (Sfr : Sta Z h0 "com/example/urania/urania/layered/Ports$Freedom" "FREE" "Lcom/example/urania/urania/layered/Ports$Freedom;" (.ref fr)) (Efr : Exa Z h0 fr "com/example/urania/urania/layered/Ports$Freedom") :
    MetFree l own_y11 (head1 (Jvm.Cond.code own_y11 prog_81_method_1_code 5 none :: ws) ({ frames := 5, cells := 13, slots := 40, locals := 69 } : Room)) (fun a U => a = #[(.ref a1), (.int (3 : Int32)), (.int (0 : Int32)), (.ref dr)] ∧ Z.Warmed39 U.vm ∧ U.heap = h0) (fun _ _ _ _ _ => True) (fun _ U o U' => ∃ v L, o = .returned v ∧ Qrm_po Z a1 (3 : Int32) dr ed ke fr h0 n0 v U'.heap L ∧ FrameEnd U o U' L ({ frames := 5, cells := 13, slots := 40, locals := 69 } : Room).cells ({ frames := 5, cells := 13, slots := 40, locals := 69 } : Room).slots) := by
  refine MetFree.of_bodySF (plainFor_of_name pn_com_example_urania_urania_layered_Ports) hisR ?_
  intro p e s m args below meth c s₁ Bd hml0 hP hK
  obtain ⟨rfl, hZ, hh⟩ := hP
  have hx := Bd.exec
  have hby := Bd.bytes
  have hml : c.maxLocals = 5 := hml0
  have hown : s.vm.findClass "com/example/urania/urania/layered/Ports" = some m.cls := findClass_of_methodNamed Bd.named
  have hnm := (name_of_methodNamed Bd.named Bd.method).1
  have X0 : Stand p l e ({ frames := 5, cells := 13, slots := 40, locals := 69 } : Room) s m #[(.ref a1), (.int (3 : Int32)), (.int (0 : Int32)), (.ref dr)] below meth c s₁ [] 0 0 := Stand.of_body Bd
  have e0 : s₁.heap = h0 := by rw [← hh, Bd.state]; rfl
  have N0 := Fr.nil n0
  have K0 : Keep h0 h0 [a1] := Keep.refl _ _
  refine own_start (Qk := Qrm_po Z a1 (3 : Int32) dr ed ke fr h0 n0) (fun G hG => ?_)
  refine own_st (fun _ k => castTop (ef_2_RIIR m a1 (3 : Int32) (0 : Int32) dr) k) ?_
  show own_Fin p e below G (s₁.setTop (mkF m 0 #[rv a1, iv (3 : Int32), iv (0 : Int32), rv dr, .unset] []))
  refine own_st (fun _ k => XS.aloadN X0.here hx rfl (hb hby d2_0) rfl rfl k) ?_
  show own_Fin p e below G (s₁.setTop (mkF m 1 #[rv a1, iv (3 : Int32), iv (0 : Int32), rv dr, .unset] [(.ref a1)]))
  obtain ⟨T373, X373, e373, st373⟩ := initO X0 hx hZ hown (own_w hw 17 rfl) (own_w hw 18 rfl) (own_w hw 19 rfl) e0 (g := (mkF m 1 #[rv a1, iv (3 : Int32), iv (0 : Int32), rv dr, .unset] [(.ref a1)])) rfl (by rw [hml]; rfl) rfl (hb hby d2_1) (by decide) (W := 0) (by show 2 * 0 + _ ≤ _; exact Nat.le_of_eq rfl) (by decide)
  clear X0 e0
  refine own_st st373 ?_
  clear st373
  show own_Fin p e below G (T373.setTop (mkF m 4 #[rv a1, iv (3 : Int32), iv (0 : Int32), rv dr, .unset] []))
  refine own_st (fun _ k => XS.aloadN X373.here hx rfl (hb hby d2_4) rfl rfl k) ?_
  show own_Fin p e below G (T373.setTop (mkF m 5 #[rv a1, iv (3 : Int32), iv (0 : Int32), rv dr, .unset] [(.ref a1)]))
  obtain ⟨T374, h374, X374, e374, E374, A374, D374, M374, st374⟩ := newO X373 hx hZ hown (own_w hw 20 rfl) (own_w hw 21 rfl) (own_w hw 22 rfl) e373 (g := (mkF m 5 #[rv a1, iv (3 : Int32), iv (0 : Int32), rv dr, .unset] [(.ref a1)])) rfl (hb hby d2_5) (by decide) (by decide)
  clear X373 e373 M374
  obtain ⟨b374, g374⟩ : ∃ z, z = h0.size := ⟨_, rfl⟩
  rw [← g374] at A374 D374 st374
  have ne_a1_b374 : a1 ≠ b374 := Nat.ne_of_lt (Nat.lt_of_lt_of_le E1.lt (Nat.le_of_eq g374.symm))
  have ne_ed_b374 : ed ≠ b374 := Nat.ne_of_lt (Nat.lt_of_lt_of_le Bed.lt (Nat.le_of_eq g374.symm))
  have ne_fr_b374 : fr ≠ b374 := Nat.ne_of_lt (Nat.lt_of_lt_of_le Efr.lt (Nat.le_of_eq g374.symm))
  have sz_b374 : h0.size ≤ b374 := Nat.le_trans K0.1 (Nat.le_of_eq g374.symm)
  have g_b374 : n0 ≤ b374 := Nat.le_trans Z0 sz_b374
  have f375_0 := E1.ext E374
  clear E1
  have f375_1 := F_ofNode.ext E374
  have f375_2 := F_specs.ext E374
  have f375_3 := F_direction.ext E374
  have f375_4 := F_freedom.ext E374
  have f375_5 := F_border.ext E374
  have f375_6 := F_borderPort.ext E374
  have f375_7 := F_sourcePort.ext E374
  have f375_8 := F_targetPort.ext E374
  have f375_9 := F_group.ext E374
  have f375_10 := Sed.ext E374
  have f375_11 := Bed.ext E374
  have f375_12 := Sfr.ext E374
  have f375_13 := Efr.ext E374
  have K376 : Keep h0 h374 [a1] := K0.ext E374
  clear K0 E374
  have f377 : Fld Z h374 b374 "java/util/AbstractList" "modCount" "I" (.int (0 : Int32)) := D374 (Or.inl (own_w hw 40 rfl)) (ty := .int) (by decide)
  have f378 : Fld Z h374 b374 "java/util/ArrayList" "elementData" "[Ljava/lang/Object;" .null := D374 (Or.inl (own_w hw 43 rfl)) (ty := (.array (.object "java/lang/Object"))) (by decide)
  have f379 : Fld Z h374 b374 "java/util/ArrayList" "size" "I" (.int (0 : Int32)) := D374 (Or.inl (own_w hw 74 rfl)) (ty := .int) (by decide)
  clear D374
  refine own_st st374 ?_
  clear st374
  show own_Fin p e below G (T374.setTop (mkF m 8 #[rv a1, iv (3 : Int32), iv (0 : Int32), rv dr, .unset] [(.ref b374), (.ref a1)]))
  refine own_st (fun _ k => XS.dup X374.here hx rfl (hb hby d2_8) rfl rfl k) ?_
  show own_Fin p e below G (T374.setTop (mkF m 9 #[rv a1, iv (3 : Int32), iv (0 : Int32), rv dr, .unset] [(.ref b374), (.ref b374), (.ref a1)]))
  obtain ⟨_, _, ⟨T380, L380, k380, n380⟩, -, X380, ⟨Lc380, hQ380, l380, y380, z380⟩, st380⟩ := X374.specialBack hx (y := own_y3) rfl hown (mvT hZ (own_w hw 23 rfl)) (mvT hZ (own_w hw 24 rfl)) (mvT hZ (own_w hw 25 rfl)) (by decide) (backOf (W := 2) (rm_al l Z a0 hw [] b374 ed h374 n0 (Nat.le_trans Z0 K376.1) A374 f377 f378 f379 g_b374 f375_10) hZ (own_w hw 25 rfl) (own_w hw 22 rfl) (by decide) (by decide)) (g := (mkF m 9 #[rv a1, iv (3 : Int32), iv (0 : Int32), rv dr, .unset] [(.ref b374), (.ref b374), (.ref a1)])) rfl (by rw [hml]; rfl) (Steps.refl _) (a := b374) (argsL := []) (rest := [(.ref b374), (.ref a1)]) (lenOf pd___V_167 rfl) rfl (by show 2 * 0 + _ ≤ _; exact Nat.le_of_eq rfl) (hb hby d2_9) (fun _ _ => ⟨rfl, e374, (by decide : 1 + 0 ≤ _), (by decide : 3 + 0 ≤ _)⟩)
  clear X374 e374 f377 f378 f379
  dsimp only [Pt.U, Pt.locs, Pt.cells, Pt.slots] at X380 l380 y380 z380 st380 hQ380
  subst l380 y380 z380
  obtain ⟨rfl, N380q, Kc380, gL380_0, gL380_1, gL380_2⟩ := hQ380
  have N380 := Fr.app N0 N380q
  clear N0 N380q
  have f381_0 := f375_0.keep Kc380
  clear f375_0
  have f381_1 := f375_1.keep Kc380 (ninS ne_a1_b374 nin0)
  clear f375_1
  have f381_2 := f375_2.keep Kc380 (ninS ne_a1_b374 nin0)
  clear f375_2
  have f381_3 := f375_3.keep Kc380 (ninS ne_a1_b374 nin0)
  clear f375_3
  have f381_4 := f375_4.keep Kc380 (ninS ne_a1_b374 nin0)
  clear f375_4
  have f381_5 := f375_5.keep Kc380 (ninS ne_a1_b374 nin0)
  clear f375_5
  have f381_6 := f375_6.keep Kc380 (ninS ne_a1_b374 nin0)
  clear f375_6
  have f381_7 := f375_7.keep Kc380 (ninS ne_a1_b374 nin0)
  clear f375_7
  have f381_8 := f375_8.keep Kc380 (ninS ne_a1_b374 nin0)
  clear f375_8
  have f381_9 := f375_9.keep Kc380 (ninS ne_a1_b374 nin0)
  clear f375_9
  have f381_10 := own_Sta_keep f375_10 Kc380 (allS A374.cell all0)
  clear f375_10
  have f381_11 := f375_11.keep Kc380 (ninS ne_ed_b374 nin0)
  clear f375_11
  have f381_12 := own_Sta_keep f375_12 Kc380 (allS A374.cell all0)
  clear f375_12
  have f381_13 := f375_13.keep Kc380
  clear f375_13
  have f381_14 := A374.keep Kc380
  clear A374
  have K382 : Keep h0 T380.heap [a1] := K376.trans Kc380 (allS (Or.inr sz_b374) all0)
  clear K376 Kc380
  refine own_tr st380 ?_
  clear st380
  show own_Fin p e below G (T380.setTop (mkF m 12 #[rv a1, iv (3 : Int32), iv (0 : Int32), rv dr, .unset] [(.ref b374), (.ref a1)]))
  obtain ⟨T383, h383, X383, e383, W383, st383⟩ := putF X380 hx hZ hown (host := "") (Or.inl (own_w hw 44 rfl)) Via.refl rfl f381_1 f381_0 (Or.inr ⟨(own_w hw 45 rfl), rfl, hnm⟩) (own_w hw 9 rfl) (ty := (.object "java/util/List")) (by decide) rfl rfl (g := (mkF m 12 #[rv a1, iv (3 : Int32), iv (0 : Int32), rv dr, .unset] [(.ref b374), (.ref a1)])) rfl rfl (hb hby d2_12)
  clear X380
  have f384_0 := f381_0.wr W383
  clear f381_0
  have sl385 := slot_ne (Z := Z) (a0 := a0) (Or.inr (own_w hw 47 rfl)) (Or.inr (own_w hw 45 rfl)) (by decide) (t := (.object "java/util/List")) (t' := (.object "java/util/List")) (by decide) (by decide)
  have f384_2 := f381_2.other W383 (Or.inr sl385)
  clear f381_2
  have sl386 := slot_ne (Z := Z) (a0 := a0) (Or.inr (own_w hw 49 rfl)) (Or.inr (own_w hw 45 rfl)) (by decide) (t := (.object "com/example/urania/urania/Direction")) (t' := (.object "java/util/List")) (by decide) (by decide)
  have f384_3 := f381_3.other W383 (Or.inr sl386)
  clear f381_3
  have sl387 := slot_ne (Z := Z) (a0 := a0) (Or.inr (own_w hw 53 rfl)) (Or.inr (own_w hw 45 rfl)) (by decide) (t := (.array (.object "com/example/urania/urania/layered/Ports$Freedom"))) (t' := (.object "java/util/List")) (by decide) (by decide)
  have f384_4 := f381_4.other W383 (Or.inr sl387)
  clear f381_4
  have sl388 := slot_ne (Z := Z) (a0 := a0) (Or.inr (own_w hw 100 rfl)) (Or.inr (own_w hw 45 rfl)) (by decide) (t := (.array (.object "com/example/urania/urania/layered/FlowSide"))) (t' := (.object "java/util/List")) (by decide) (by decide)
  have f384_5 := f381_5.other W383 (Or.inr sl388)
  clear f381_5
  have sl389 := slot_ne (Z := Z) (a0 := a0) (Or.inr (own_w hw 104 rfl)) (Or.inr (own_w hw 45 rfl)) (by decide) (t := (.array (.array .double))) (t' := (.object "java/util/List")) (by decide) (by decide)
  have f384_6 := f381_6.other W383 (Or.inr sl389)
  clear f381_6
  have sl390 := slot_ne (Z := Z) (a0 := a0) (Or.inr (own_w hw 107 rfl)) (Or.inr (own_w hw 45 rfl)) (by decide) (t := (.array .int)) (t' := (.object "java/util/List")) (by decide) (by decide)
  have f384_7 := f381_7.other W383 (Or.inr sl390)
  clear f381_7
  have sl391 := slot_ne (Z := Z) (a0 := a0) (Or.inr (own_w hw 109 rfl)) (Or.inr (own_w hw 45 rfl)) (by decide) (t := (.array .int)) (t' := (.object "java/util/List")) (by decide) (by decide)
  have f384_8 := f381_8.other W383 (Or.inr sl391)
  clear f381_8
  have sl392 := slot_ne (Z := Z) (a0 := a0) (Or.inr (own_w hw 111 rfl)) (Or.inr (own_w hw 45 rfl)) (by decide) (t := (.array .int)) (t' := (.object "java/util/List")) (by decide) (by decide)
  have f384_9 := f381_9.other W383 (Or.inr sl392)
  clear f381_9
  have f384_10 := f381_10.wr W383
  clear f381_10
  have f384_11 := f381_11.other W383 ned
  clear f381_11
  have f384_12 := f381_12.wr W383
  clear f381_12
  have f384_13 := f381_13.wr W383
  clear f381_13
  have f384_14 := f381_14.wr W383
  clear f381_14
  have f384_15 := gL380_0.other W383 (Or.inl (Ne.symm ne_a1_b374))
  have f384_16 := gL380_1.other W383 (Or.inl (Ne.symm ne_a1_b374))
  have f384_17 := gL380_2.other W383 (Or.inl (Ne.symm ne_a1_b374))
  have K393 : Keep h0 h383 [a1] := K382.wr W383 (Or.inl (List.mem_of_getElem? (i := 0) rfl))
  clear K382
  have N394 := Fr.snoc X383 N380 g1
  clear N380
  have Fw383 : Fld Z h383 a1 "com/example/urania/urania/layered/Ports" "ofNode" "Ljava/util/List;" (.ref b374) := f381_1.same W383
  clear f381_1 W383
  refine own_st st383 ?_
  clear st383
  show own_Fin p e below G (T383.setTop (mkF m 15 #[rv a1, iv (3 : Int32), iv (0 : Int32), rv dr, .unset] []))
  refine own_st (fun _ k => XS.aloadN X383.here hx rfl (hb hby d2_15) rfl rfl k) ?_
  show own_Fin p e below G (T383.setTop (mkF m 16 #[rv a1, iv (3 : Int32), iv (0 : Int32), rv dr, .unset] [(.ref a1)]))
  obtain ⟨T395, h395, X395, e395, E395, A395, D395, M395, st395⟩ := newO X383 hx hZ hown (own_w hw 20 rfl) (own_w hw 21 rfl) (own_w hw 22 rfl) e383 (g := (mkF m 16 #[rv a1, iv (3 : Int32), iv (0 : Int32), rv dr, .unset] [(.ref a1)])) rfl (hb hby d2_16) (by decide) (by decide)
  clear X383 e383 M395
  obtain ⟨b395, g395⟩ : ∃ z, z = h383.size := ⟨_, rfl⟩
  rw [← g395] at A395 D395 st395
  have ne_a1_b395 : a1 ≠ b395 := Nat.ne_of_lt (Nat.lt_of_lt_of_le f384_0.lt (Nat.le_of_eq g395.symm))
  have ne_b374_b395 : b374 ≠ b395 := Nat.ne_of_lt (Nat.lt_of_lt_of_le f384_14.lt (Nat.le_of_eq g395.symm))
  have ne_ed_b395 : ed ≠ b395 := Nat.ne_of_lt (Nat.lt_of_lt_of_le f384_11.lt (Nat.le_of_eq g395.symm))
  have ne_fr_b395 : fr ≠ b395 := Nat.ne_of_lt (Nat.lt_of_lt_of_le f384_13.lt (Nat.le_of_eq g395.symm))
  have sz_b395 : h0.size ≤ b395 := Nat.le_trans K393.1 (Nat.le_of_eq g395.symm)
  have g_b395 : n0 ≤ b395 := Nat.le_trans Z0 sz_b395
  have f396_0 := f384_0.ext E395
  clear f384_0
  have f396_1 := Fw383.ext E395
  clear Fw383
  have f396_2 := f384_2.ext E395
  clear f384_2
  have f396_3 := f384_3.ext E395
  clear f384_3
  have f396_4 := f384_4.ext E395
  clear f384_4
  have f396_5 := f384_5.ext E395
  clear f384_5
  have f396_6 := f384_6.ext E395
  clear f384_6
  have f396_7 := f384_7.ext E395
  clear f384_7
  have f396_8 := f384_8.ext E395
  clear f384_8
  have f396_9 := f384_9.ext E395
  clear f384_9
  have f396_10 := f384_10.ext E395
  clear f384_10
  have f396_11 := f384_11.ext E395
  clear f384_11
  have f396_12 := f384_12.ext E395
  clear f384_12
  have f396_13 := f384_13.ext E395
  clear f384_13
  have f396_14 := f384_14.ext E395
  clear f384_14
  have f396_15 := f384_15.ext E395
  clear f384_15
  have f396_16 := f384_16.ext E395
  clear f384_16
  have f396_17 := f384_17.ext E395
  clear f384_17
  have K397 : Keep h0 h395 [a1] := K393.ext E395
  clear K393 E395
  have f398 : Fld Z h395 b395 "java/util/AbstractList" "modCount" "I" (.int (0 : Int32)) := D395 (Or.inl (own_w hw 40 rfl)) (ty := .int) (by decide)
  have f399 : Fld Z h395 b395 "java/util/ArrayList" "elementData" "[Ljava/lang/Object;" .null := D395 (Or.inl (own_w hw 43 rfl)) (ty := (.array (.object "java/lang/Object"))) (by decide)
  have f400 : Fld Z h395 b395 "java/util/ArrayList" "size" "I" (.int (0 : Int32)) := D395 (Or.inl (own_w hw 74 rfl)) (ty := .int) (by decide)
  clear D395
  refine own_st st395 ?_
  clear st395
  show own_Fin p e below G (T395.setTop (mkF m 19 #[rv a1, iv (3 : Int32), iv (0 : Int32), rv dr, .unset] [(.ref b395), (.ref a1)]))
  refine own_st (fun _ k => XS.dup X395.here hx rfl (hb hby d2_19) rfl rfl k) ?_
  show own_Fin p e below G (T395.setTop (mkF m 20 #[rv a1, iv (3 : Int32), iv (0 : Int32), rv dr, .unset] [(.ref b395), (.ref b395), (.ref a1)]))
  obtain ⟨_, _, ⟨T401, L401, k401, n401⟩, -, X401, ⟨Lc401, hQ401, l401, y401, z401⟩, st401⟩ := X395.specialBack hx (y := own_y3) rfl hown (mvT hZ (own_w hw 23 rfl)) (mvT hZ (own_w hw 24 rfl)) (mvT hZ (own_w hw 25 rfl)) (by decide) (backOf (W := 2) (rm_al l Z a0 hw [] b395 ed h395 n0 (Nat.le_trans Z0 K397.1) A395 f398 f399 f400 g_b395 f396_10) hZ (own_w hw 25 rfl) (own_w hw 22 rfl) (by decide) (by decide)) (g := (mkF m 20 #[rv a1, iv (3 : Int32), iv (0 : Int32), rv dr, .unset] [(.ref b395), (.ref b395), (.ref a1)])) rfl (by rw [hml]; rfl) (Steps.refl _) (a := b395) (argsL := []) (rest := [(.ref b395), (.ref a1)]) (lenOf pd___V_167 rfl) rfl (by show 2 * 0 + _ ≤ _; exact Nat.le_of_eq rfl) (hb hby d2_20) (fun _ _ => ⟨rfl, e395, (by decide : 2 + 0 ≤ _), (by decide : 6 + 0 ≤ _)⟩)
  clear X395 e395 f398 f399 f400
  dsimp only [Pt.U, Pt.locs, Pt.cells, Pt.slots] at X401 l401 y401 z401 st401 hQ401
  subst l401 y401 z401
  obtain ⟨rfl, N401q, Kc401, gL401_0, gL401_1, gL401_2⟩ := hQ401
  have N401 := Fr.app N394 N401q
  clear N394 N401q
  have f402_0 := f396_0.keep Kc401
  clear f396_0
  have f402_1 := f396_1.keep Kc401 (ninS ne_a1_b395 nin0)
  clear f396_1
  have f402_2 := f396_2.keep Kc401 (ninS ne_a1_b395 nin0)
  clear f396_2
  have f402_3 := f396_3.keep Kc401 (ninS ne_a1_b395 nin0)
  clear f396_3
  have f402_4 := f396_4.keep Kc401 (ninS ne_a1_b395 nin0)
  clear f396_4
  have f402_5 := f396_5.keep Kc401 (ninS ne_a1_b395 nin0)
  clear f396_5
  have f402_6 := f396_6.keep Kc401 (ninS ne_a1_b395 nin0)
  clear f396_6
  have f402_7 := f396_7.keep Kc401 (ninS ne_a1_b395 nin0)
  clear f396_7
  have f402_8 := f396_8.keep Kc401 (ninS ne_a1_b395 nin0)
  clear f396_8
  have f402_9 := f396_9.keep Kc401 (ninS ne_a1_b395 nin0)
  clear f396_9
  have f402_10 := own_Sta_keep f396_10 Kc401 (allS A395.cell all0)
  clear f396_10
  have f402_11 := f396_11.keep Kc401 (ninS ne_ed_b395 nin0)
  clear f396_11
  have f402_12 := own_Sta_keep f396_12 Kc401 (allS A395.cell all0)
  clear f396_12
  have f402_13 := f396_13.keep Kc401
  clear f396_13
  have f402_14 := f396_14.keep Kc401
  clear f396_14
  have f402_15 := f396_15.keep Kc401 (ninS ne_b374_b395 nin0)
  clear f396_15
  have f402_16 := f396_16.keep Kc401 (ninS ne_b374_b395 nin0)
  clear f396_16
  have f402_17 := f396_17.keep Kc401 (ninS ne_b374_b395 nin0)
  clear f396_17
  have f402_18 := A395.keep Kc401
  clear A395
  have K403 : Keep h0 T401.heap [a1] := K397.trans Kc401 (allS (Or.inr sz_b395) all0)
  clear K397 Kc401
  refine own_tr st401 ?_
  clear st401
  show own_Fin p e below G (T401.setTop (mkF m 23 #[rv a1, iv (3 : Int32), iv (0 : Int32), rv dr, .unset] [(.ref b395), (.ref a1)]))
  obtain ⟨T404, h404, X404, e404, W404, st404⟩ := putF X401 hx hZ hown (host := "") (Or.inl (own_w hw 46 rfl)) Via.refl rfl f402_2 f402_0 (Or.inr ⟨(own_w hw 47 rfl), rfl, hnm⟩) (own_w hw 9 rfl) (ty := (.object "java/util/List")) (by decide) rfl rfl (g := (mkF m 23 #[rv a1, iv (3 : Int32), iv (0 : Int32), rv dr, .unset] [(.ref b395), (.ref a1)])) rfl rfl (hb hby d2_23)
  clear X401
  have f405_0 := f402_0.wr W404
  clear f402_0
  have sl406 := slot_ne (Z := Z) (a0 := a0) (Or.inr (own_w hw 45 rfl)) (Or.inr (own_w hw 47 rfl)) (by decide) (t := (.object "java/util/List")) (t' := (.object "java/util/List")) (by decide) (by decide)
  have f405_1 := f402_1.other W404 (Or.inr sl406)
  clear f402_1
  have sl407 := slot_ne (Z := Z) (a0 := a0) (Or.inr (own_w hw 49 rfl)) (Or.inr (own_w hw 47 rfl)) (by decide) (t := (.object "com/example/urania/urania/Direction")) (t' := (.object "java/util/List")) (by decide) (by decide)
  have f405_3 := f402_3.other W404 (Or.inr sl407)
  clear f402_3
  have sl408 := slot_ne (Z := Z) (a0 := a0) (Or.inr (own_w hw 53 rfl)) (Or.inr (own_w hw 47 rfl)) (by decide) (t := (.array (.object "com/example/urania/urania/layered/Ports$Freedom"))) (t' := (.object "java/util/List")) (by decide) (by decide)
  have f405_4 := f402_4.other W404 (Or.inr sl408)
  clear f402_4
  have sl409 := slot_ne (Z := Z) (a0 := a0) (Or.inr (own_w hw 100 rfl)) (Or.inr (own_w hw 47 rfl)) (by decide) (t := (.array (.object "com/example/urania/urania/layered/FlowSide"))) (t' := (.object "java/util/List")) (by decide) (by decide)
  have f405_5 := f402_5.other W404 (Or.inr sl409)
  clear f402_5
  have sl410 := slot_ne (Z := Z) (a0 := a0) (Or.inr (own_w hw 104 rfl)) (Or.inr (own_w hw 47 rfl)) (by decide) (t := (.array (.array .double))) (t' := (.object "java/util/List")) (by decide) (by decide)
  have f405_6 := f402_6.other W404 (Or.inr sl410)
  clear f402_6
  have sl411 := slot_ne (Z := Z) (a0 := a0) (Or.inr (own_w hw 107 rfl)) (Or.inr (own_w hw 47 rfl)) (by decide) (t := (.array .int)) (t' := (.object "java/util/List")) (by decide) (by decide)
  have f405_7 := f402_7.other W404 (Or.inr sl411)
  clear f402_7
  have sl412 := slot_ne (Z := Z) (a0 := a0) (Or.inr (own_w hw 109 rfl)) (Or.inr (own_w hw 47 rfl)) (by decide) (t := (.array .int)) (t' := (.object "java/util/List")) (by decide) (by decide)
  have f405_8 := f402_8.other W404 (Or.inr sl412)
  clear f402_8
  have sl413 := slot_ne (Z := Z) (a0 := a0) (Or.inr (own_w hw 111 rfl)) (Or.inr (own_w hw 47 rfl)) (by decide) (t := (.array .int)) (t' := (.object "java/util/List")) (by decide) (by decide)
  have f405_9 := f402_9.other W404 (Or.inr sl413)
  clear f402_9
  have f405_10 := f402_10.wr W404
  clear f402_10
  have f405_11 := f402_11.other W404 ned
  clear f402_11
  have f405_12 := f402_12.wr W404
  clear f402_12
  have f405_13 := f402_13.wr W404
  clear f402_13
  have f405_14 := f402_14.wr W404
  clear f402_14
  have f405_15 := f402_15.other W404 (Or.inl (Ne.symm ne_a1_b374))
  clear f402_15
  have f405_16 := f402_16.other W404 (Or.inl (Ne.symm ne_a1_b374))
  clear f402_16
  have f405_17 := f402_17.other W404 (Or.inl (Ne.symm ne_a1_b374))
  clear f402_17
  have f405_18 := f402_18.wr W404
  clear f402_18 f405_18
  have f405_19 := gL401_0.other W404 (Or.inl (Ne.symm ne_a1_b395))
  clear f405_19
  have f405_20 := gL401_1.other W404 (Or.inl (Ne.symm ne_a1_b395))
  clear f405_20
  have f405_21 := gL401_2.other W404 (Or.inl (Ne.symm ne_a1_b395))
  clear f405_21
  have K414 : Keep h0 h404 [a1] := K403.wr W404 (Or.inl (List.mem_of_getElem? (i := 0) rfl))
  clear K403
  have N415 := Fr.snoc X404 N401 g1
  clear N401
  have Fw404 : Fld Z h404 a1 "com/example/urania/urania/layered/Ports" "specs" "Ljava/util/List;" (.ref b395) := f402_2.same W404
  clear f402_2 W404
  refine own_st st404 ?_
  clear st404
  show own_Fin p e below G (T404.setTop (mkF m 26 #[rv a1, iv (3 : Int32), iv (0 : Int32), rv dr, .unset] []))
  refine own_st (fun _ k => XS.aloadN X404.here hx rfl (hb hby d2_26) rfl rfl k) ?_
  show own_Fin p e below G (T404.setTop (mkF m 27 #[rv a1, iv (3 : Int32), iv (0 : Int32), rv dr, .unset] [(.ref a1)]))
  refine own_st (fun _ k => XS.aloadN X404.here hx rfl (hb hby d2_27) rfl rfl k) ?_
  show own_Fin p e below G (T404.setTop (mkF m 28 #[rv a1, iv (3 : Int32), iv (0 : Int32), rv dr, .unset] [(.ref dr), (.ref a1)]))
  obtain ⟨T416, h416, X416, e416, W416, st416⟩ := putF X404 hx hZ hown (host := "") (Or.inl (own_w hw 48 rfl)) Via.refl e404 f405_3 f405_0 (Or.inr ⟨(own_w hw 49 rfl), rfl, hnm⟩) (own_w hw 9 rfl) (ty := (.object "com/example/urania/urania/Direction")) (by decide) rfl rfl (g := (mkF m 28 #[rv a1, iv (3 : Int32), iv (0 : Int32), rv dr, .unset] [(.ref dr), (.ref a1)])) rfl rfl (hb hby d2_28)
  clear X404 e404
  have f417_0 := f405_0.wr W416
  clear f405_0
  have sl418 := slot_ne (Z := Z) (a0 := a0) (Or.inr (own_w hw 45 rfl)) (Or.inr (own_w hw 49 rfl)) (by decide) (t := (.object "java/util/List")) (t' := (.object "com/example/urania/urania/Direction")) (by decide) (by decide)
  have f417_1 := f405_1.other W416 (Or.inr sl418)
  clear f405_1
  have sl419 := slot_ne (Z := Z) (a0 := a0) (Or.inr (own_w hw 47 rfl)) (Or.inr (own_w hw 49 rfl)) (by decide) (t := (.object "java/util/List")) (t' := (.object "com/example/urania/urania/Direction")) (by decide) (by decide)
  have f417_2 := Fw404.other W416 (Or.inr sl419)
  clear Fw404
  have sl420 := slot_ne (Z := Z) (a0 := a0) (Or.inr (own_w hw 53 rfl)) (Or.inr (own_w hw 49 rfl)) (by decide) (t := (.array (.object "com/example/urania/urania/layered/Ports$Freedom"))) (t' := (.object "com/example/urania/urania/Direction")) (by decide) (by decide)
  have f417_4 := f405_4.other W416 (Or.inr sl420)
  clear f405_4
  have sl421 := slot_ne (Z := Z) (a0 := a0) (Or.inr (own_w hw 100 rfl)) (Or.inr (own_w hw 49 rfl)) (by decide) (t := (.array (.object "com/example/urania/urania/layered/FlowSide"))) (t' := (.object "com/example/urania/urania/Direction")) (by decide) (by decide)
  have f417_5 := f405_5.other W416 (Or.inr sl421)
  clear f405_5
  have sl422 := slot_ne (Z := Z) (a0 := a0) (Or.inr (own_w hw 104 rfl)) (Or.inr (own_w hw 49 rfl)) (by decide) (t := (.array (.array .double))) (t' := (.object "com/example/urania/urania/Direction")) (by decide) (by decide)
  have f417_6 := f405_6.other W416 (Or.inr sl422)
  clear f405_6
  have sl423 := slot_ne (Z := Z) (a0 := a0) (Or.inr (own_w hw 107 rfl)) (Or.inr (own_w hw 49 rfl)) (by decide) (t := (.array .int)) (t' := (.object "com/example/urania/urania/Direction")) (by decide) (by decide)
  have f417_7 := f405_7.other W416 (Or.inr sl423)
  clear f405_7
  have sl424 := slot_ne (Z := Z) (a0 := a0) (Or.inr (own_w hw 109 rfl)) (Or.inr (own_w hw 49 rfl)) (by decide) (t := (.array .int)) (t' := (.object "com/example/urania/urania/Direction")) (by decide) (by decide)
  have f417_8 := f405_8.other W416 (Or.inr sl424)
  clear f405_8
  have sl425 := slot_ne (Z := Z) (a0 := a0) (Or.inr (own_w hw 111 rfl)) (Or.inr (own_w hw 49 rfl)) (by decide) (t := (.array .int)) (t' := (.object "com/example/urania/urania/Direction")) (by decide) (by decide)
  have f417_9 := f405_9.other W416 (Or.inr sl425)
  clear f405_9
  have f417_10 := f405_10.wr W416
  clear f405_10
  have f417_11 := f405_11.other W416 ned
  clear f405_11
  have f417_12 := f405_12.wr W416
  clear f405_12
  have f417_13 := f405_13.wr W416
  clear f405_13
  have f417_14 := f405_14.wr W416
  clear f405_14
  have f417_15 := f405_15.other W416 (Or.inl (Ne.symm ne_a1_b374))
  clear f405_15
  have f417_16 := f405_16.other W416 (Or.inl (Ne.symm ne_a1_b374))
  clear f405_16
  have f417_17 := f405_17.other W416 (Or.inl (Ne.symm ne_a1_b374))
  clear f405_17
  have K426 : Keep h0 h416 [a1] := K414.wr W416 (Or.inl (List.mem_of_getElem? (i := 0) rfl))
  clear K414
  have N427 := Fr.snoc X416 N415 g1
  clear N415
  have Fw416 : Fld Z h416 a1 "com/example/urania/urania/layered/Ports" "direction" "Lcom/example/urania/urania/Direction;" (.ref dr) := f405_3.same W416
  clear f405_3 W416
  refine own_st st416 ?_
  clear st416
  show own_Fin p e below G (T416.setTop (mkF m 31 #[rv a1, iv (3 : Int32), iv (0 : Int32), rv dr, .unset] []))
  refine own_st (fun _ k => XS.aloadN X416.here hx rfl (hb hby d2_31) rfl rfl k) ?_
  show own_Fin p e below G (T416.setTop (mkF m 32 #[rv a1, iv (3 : Int32), iv (0 : Int32), rv dr, .unset] [(.ref a1)]))
  refine own_st (fun _ k => XS.iloadN X416.here hx rfl (hb hby d2_32) rfl  k) ?_
  show own_Fin p e below G (T416.setTop (mkF m 33 #[rv a1, iv (3 : Int32), iv (0 : Int32), rv dr, .unset] [(.int (3 : Int32)), (.ref a1)]))
  obtain ⟨T428, h428, k428, X428, e428, E428, A428, B428, O428, st428⟩ := newRE X416 hx hZ hown (own_w hw 50 rfl) (own_w hw 51 rfl) e416 (g := (mkF m 33 #[rv a1, iv (3 : Int32), iv (0 : Int32), rv dr, .unset] [(.int (3 : Int32)), (.ref a1)])) rfl (hb hby d2_33) rfl (by decide) (cap := 3) (by decide) (by decide) (by decide) (by decide) (ad := "[Lcom/example/urania/urania/layered/Ports$Freedom;") (by decide +kernel)
  clear X416 e416
  obtain ⟨b428, g428⟩ : ∃ z, z = h416.size := ⟨_, rfl⟩
  rw [← g428] at A428 B428 st428
  have ne_a1_b428 : a1 ≠ b428 := Nat.ne_of_lt (Nat.lt_of_lt_of_le f417_0.lt (Nat.le_of_eq g428.symm))
  have ne_b374_b428 : b374 ≠ b428 := Nat.ne_of_lt (Nat.lt_of_lt_of_le f417_14.lt (Nat.le_of_eq g428.symm))
  have ne_ed_b428 : ed ≠ b428 := Nat.ne_of_lt (Nat.lt_of_lt_of_le f417_11.lt (Nat.le_of_eq g428.symm))
  have ne_fr_b428 : fr ≠ b428 := Nat.ne_of_lt (Nat.lt_of_lt_of_le f417_13.lt (Nat.le_of_eq g428.symm))
  have sz_b428 : h0.size ≤ b428 := Nat.le_trans K426.1 (Nat.le_of_eq g428.symm)
  have g_b428 : n0 ≤ b428 := Nat.le_trans Z0 sz_b428
  have f429_0 := f417_0.ext E428
  clear f417_0
  have f429_1 := f417_1.ext E428
  clear f417_1
  have f429_2 := f417_2.ext E428
  clear f417_2
  have f429_3 := Fw416.ext E428
  clear Fw416
  have f429_4 := f417_4.ext E428
  clear f417_4
  have f429_5 := f417_5.ext E428
  clear f417_5
  have f429_6 := f417_6.ext E428
  clear f417_6
  have f429_7 := f417_7.ext E428
  clear f417_7
  have f429_8 := f417_8.ext E428
  clear f417_8
  have f429_9 := f417_9.ext E428
  clear f417_9
  have f429_10 := f417_10.ext E428
  clear f417_10
  have f429_11 := f417_11.ext E428
  clear f417_11
  have f429_12 := f417_12.ext E428
  clear f417_12
  have f429_13 := f417_13.ext E428
  clear f417_13
  have f429_14 := f417_14.ext E428
  clear f417_14
  have f429_15 := f417_15.ext E428
  clear f417_15
  have f429_16 := f417_16.ext E428
  clear f417_16
  have f429_17 := f417_17.ext E428
  clear f417_17
  have K430 : Keep h0 h428 [a1] := K426.ext E428
  clear K426 E428
  have V428 : own_AVk Z h428 b428 k428 (.object "com/example/urania/urania/layered/Ports$Freedom") [.null, .null, .null] := own_AVk_new A428
  clear A428
  refine own_st st428 ?_
  clear st428
  show own_Fin p e below G (T428.setTop (mkF m 36 #[rv a1, iv (3 : Int32), iv (0 : Int32), rv dr, .unset] [(.ref b428), (.ref a1)]))
  obtain ⟨T431, h431, X431, e431, W431, st431⟩ := putF X428 hx hZ hown (host := "") (Or.inl (own_w hw 52 rfl)) Via.refl e428 f429_4 f429_0 (Or.inr ⟨(own_w hw 53 rfl), rfl, hnm⟩) (own_w hw 9 rfl) (ty := (.array (.object "com/example/urania/urania/layered/Ports$Freedom"))) (by decide) rfl rfl (g := (mkF m 36 #[rv a1, iv (3 : Int32), iv (0 : Int32), rv dr, .unset] [(.ref b428), (.ref a1)])) rfl rfl (hb hby d2_36)
  clear X428 e428
  have f432_0 := f429_0.wr W431
  clear f429_0
  have sl433 := slot_ne (Z := Z) (a0 := a0) (Or.inr (own_w hw 45 rfl)) (Or.inr (own_w hw 53 rfl)) (by decide) (t := (.object "java/util/List")) (t' := (.array (.object "com/example/urania/urania/layered/Ports$Freedom"))) (by decide) (by decide)
  have f432_1 := f429_1.other W431 (Or.inr sl433)
  clear f429_1
  have sl434 := slot_ne (Z := Z) (a0 := a0) (Or.inr (own_w hw 47 rfl)) (Or.inr (own_w hw 53 rfl)) (by decide) (t := (.object "java/util/List")) (t' := (.array (.object "com/example/urania/urania/layered/Ports$Freedom"))) (by decide) (by decide)
  have f432_2 := f429_2.other W431 (Or.inr sl434)
  clear f429_2
  have sl435 := slot_ne (Z := Z) (a0 := a0) (Or.inr (own_w hw 49 rfl)) (Or.inr (own_w hw 53 rfl)) (by decide) (t := (.object "com/example/urania/urania/Direction")) (t' := (.array (.object "com/example/urania/urania/layered/Ports$Freedom"))) (by decide) (by decide)
  have f432_3 := f429_3.other W431 (Or.inr sl435)
  clear f429_3
  have sl436 := slot_ne (Z := Z) (a0 := a0) (Or.inr (own_w hw 100 rfl)) (Or.inr (own_w hw 53 rfl)) (by decide) (t := (.array (.object "com/example/urania/urania/layered/FlowSide"))) (t' := (.array (.object "com/example/urania/urania/layered/Ports$Freedom"))) (by decide) (by decide)
  have f432_5 := f429_5.other W431 (Or.inr sl436)
  clear f429_5
  have sl437 := slot_ne (Z := Z) (a0 := a0) (Or.inr (own_w hw 104 rfl)) (Or.inr (own_w hw 53 rfl)) (by decide) (t := (.array (.array .double))) (t' := (.array (.object "com/example/urania/urania/layered/Ports$Freedom"))) (by decide) (by decide)
  have f432_6 := f429_6.other W431 (Or.inr sl437)
  clear f429_6
  have sl438 := slot_ne (Z := Z) (a0 := a0) (Or.inr (own_w hw 107 rfl)) (Or.inr (own_w hw 53 rfl)) (by decide) (t := (.array .int)) (t' := (.array (.object "com/example/urania/urania/layered/Ports$Freedom"))) (by decide) (by decide)
  have f432_7 := f429_7.other W431 (Or.inr sl438)
  clear f429_7
  have sl439 := slot_ne (Z := Z) (a0 := a0) (Or.inr (own_w hw 109 rfl)) (Or.inr (own_w hw 53 rfl)) (by decide) (t := (.array .int)) (t' := (.array (.object "com/example/urania/urania/layered/Ports$Freedom"))) (by decide) (by decide)
  have f432_8 := f429_8.other W431 (Or.inr sl439)
  clear f429_8
  have sl440 := slot_ne (Z := Z) (a0 := a0) (Or.inr (own_w hw 111 rfl)) (Or.inr (own_w hw 53 rfl)) (by decide) (t := (.array .int)) (t' := (.array (.object "com/example/urania/urania/layered/Ports$Freedom"))) (by decide) (by decide)
  have f432_9 := f429_9.other W431 (Or.inr sl440)
  clear f429_9
  have f432_10 := f429_10.wr W431
  clear f429_10
  have f432_11 := f429_11.other W431 ned
  clear f429_11
  have f432_12 := f429_12.wr W431
  clear f429_12
  have f432_13 := f429_13.wr W431
  clear f429_13
  have f432_14 := f429_14.wr W431
  clear f429_14
  have f432_15 := f429_15.other W431 (Or.inl (Ne.symm ne_a1_b374))
  clear f429_15
  have f432_16 := f429_16.other W431 (Or.inl (Ne.symm ne_a1_b374))
  clear f429_16
  have f432_17 := f429_17.other W431 (Or.inl (Ne.symm ne_a1_b374))
  clear f429_17
  have f432_18 := B428.wr W431
  clear B428
  have f432_19 := V428.other W431 (Ne.symm ne_a1_b428)
  clear V428
  have K441 : Keep h0 h431 [a1] := K430.wr W431 (Or.inl (List.mem_of_getElem? (i := 0) rfl))
  clear K430
  have N442 := Fr.snoc X431 N427 g1
  clear N427
  have Fw431 : Fld Z h431 a1 "com/example/urania/urania/layered/Ports" "freedom" "[Lcom/example/urania/urania/layered/Ports$Freedom;" (.ref b428) := f429_4.same W431
  clear f429_4 W431
  refine own_st st431 ?_
  clear st431
  show own_Fin p e below G (T431.setTop (mkF m 39 #[rv a1, iv (3 : Int32), iv (0 : Int32), rv dr, .unset] []))
  refine own_st (fun _ k => XS.aloadN X431.here hx rfl (hb hby d2_39) rfl rfl k) ?_
  show own_Fin p e below G (T431.setTop (mkF m 40 #[rv a1, iv (3 : Int32), iv (0 : Int32), rv dr, .unset] [(.ref a1)]))
  obtain ⟨T443, X443, e443, st443⟩ := getF X431 hx hZ hown (host := "") (Or.inl (own_w hw 52 rfl)) Via.refl e431 Fw431 (g := (mkF m 40 #[rv a1, iv (3 : Int32), iv (0 : Int32), rv dr, .unset] [(.ref a1)])) rfl rfl (hb hby d2_40)
  clear X431 e431
  refine own_st st443 ?_
  clear st443
  show own_Fin p e below G (T443.setTop (mkF m 43 #[rv a1, iv (3 : Int32), iv (0 : Int32), rv dr, .unset] [(.ref b428)]))
  obtain ⟨T444, X444, e444, st444⟩ := getS2 X443 hx hZ hown (host := "") (Or.inl (own_w hw 54 rfl)) Via.refl e443 f432_12 (g := (mkF m 43 #[rv a1, iv (3 : Int32), iv (0 : Int32), rv dr, .unset] [(.ref b428)])) rfl (hb hby d2_43)
  clear X443 e443
  refine own_st st444 ?_
  clear st444
  show own_Fin p e below G (T444.setTop (mkF m 46 #[rv a1, iv (3 : Int32), iv (0 : Int32), rv dr, .unset] [(.ref fr), (.ref b428)]))
  obtain ⟨_, _, ⟨T445, L445, k445, n445⟩, -, X445, ⟨Lc445, hQ445, l445, y445, z445⟩, st445⟩ := Jvm.LawKit.callS X444 hx (y := own_y4) hown (mvT hZ (own_w hw 57 rfl)) (mvT hZ (own_w hw 58 rfl)) (mvT hZ (own_w hw 59 rfl)) (mvT hZ (own_w hw 60 rfl)) (by decide) (backOf (W := 0) (rm_fo3 l Z a0 hw [] b428 fr k428 h431 n0 (Nat.le_trans Z0 K441.1) f432_19 O428 f432_13 g_b428) hZ (own_w hw 60 rfl) (own_w hw 59 rfl) (by decide) (by decide)) (g := (mkF m 46 #[rv a1, iv (3 : Int32), iv (0 : Int32), rv dr, .unset] [(.ref fr), (.ref b428)])) rfl (by rw [hml]; rfl) (argsL := [(.ref b428), (.ref fr)]) (rest := []) (lenOf pd___Ljava_lang_Object_Ljava_lang_Object__V_595 rfl) rfl (by show 2 * 0 + _ ≤ _; exact Nat.le_of_eq rfl) (hb hby d2_46) (fun _ _ => ⟨rfl, e444, (by decide : 3 + 0 ≤ _), (by decide : 9 + 0 ≤ _)⟩)
  clear O428 f432_19 X444 e444
  dsimp only [Pt.U, Pt.locs, Pt.cells, Pt.slots] at X445 l445 y445 z445 st445 hQ445
  subst l445 y445 z445
  obtain ⟨rfl, N445q, Kc445⟩ := hQ445
  have N445 := Fr.app N442 N445q
  clear N442 N445q
  have f446_0 := f432_0.keep Kc445
  clear f432_0
  have f446_1 := f432_1.keep Kc445 (ninS ne_a1_b428 nin0)
  clear f432_1
  have f446_2 := f432_2.keep Kc445 (ninS ne_a1_b428 nin0)
  clear f432_2
  have f446_3 := f432_3.keep Kc445 (ninS ne_a1_b428 nin0)
  clear f432_3
  have f446_4 := Fw431.keep Kc445 (ninS ne_a1_b428 nin0)
  clear Fw431
  have f446_5 := f432_5.keep Kc445 (ninS ne_a1_b428 nin0)
  clear f432_5
  have f446_6 := f432_6.keep Kc445 (ninS ne_a1_b428 nin0)
  clear f432_6
  have f446_7 := f432_7.keep Kc445 (ninS ne_a1_b428 nin0)
  clear f432_7
  have f446_8 := f432_8.keep Kc445 (ninS ne_a1_b428 nin0)
  clear f432_8
  have f446_9 := f432_9.keep Kc445 (ninS ne_a1_b428 nin0)
  clear f432_9
  have f446_10 := own_Sta_keep f432_10 Kc445 (allS f432_18.cell all0)
  clear f432_10
  have f446_11 := f432_11.keep Kc445 (ninS ne_ed_b428 nin0)
  clear f432_11
  have f446_12 := own_Sta_keep f432_12 Kc445 (allS f432_18.cell all0)
  clear f432_12 f446_12
  have f446_13 := f432_13.keep Kc445
  clear f432_13 f446_13
  have f446_14 := f432_14.keep Kc445
  clear f432_14
  have f446_15 := f432_15.keep Kc445 (ninS ne_b374_b428 nin0)
  clear f432_15
  have f446_16 := f432_16.keep Kc445 (ninS ne_b374_b428 nin0)
  clear f432_16
  have f446_17 := f432_17.keep Kc445 (ninS ne_b374_b428 nin0)
  clear f432_17
  have f446_18 := f432_18.keep Kc445
  clear f432_18 f446_18
  have K447 : Keep h0 T445.heap [a1] := K441.trans Kc445 (allS (Or.inr sz_b428) all0)
  clear K441 Kc445
  refine own_st st445 ?_
  clear st445
  show own_Fin p e below G (T445.setTop (mkF m 49 #[rv a1, iv (3 : Int32), iv (0 : Int32), rv dr, .unset] []))
  refine own_st (fun _ k => XS.iconst X445.here hx rfl (hb hby d2_49) k) ?_
  show own_Fin p e below G (T445.setTop (mkF m 50 #[rv a1, iv (3 : Int32), iv (0 : Int32), rv dr, .unset] [(.int (0 : Int32))]))
  refine own_st (fun _ k => XS.istore X445.here hx rfl (hb hby d2_50) rfl (l' := #[rv a1, iv (3 : Int32), iv (0 : Int32), rv dr, iv (0 : Int32)]) rfl k) ?_
  show own_Fin p e below G (T445.setTop (mkF m 52 #[rv a1, iv (3 : Int32), iv (0 : Int32), rv dr, iv (0 : Int32)] []))
  refine own_st (fun _ k => XS.iload X445.here hx rfl (hb hby d2_52) rfl  k) ?_
  show own_Fin p e below G (T445.setTop (mkF m 54 #[rv a1, iv (3 : Int32), iv (0 : Int32), rv dr, iv (0 : Int32)] [(.int (0 : Int32))]))
  refine own_st (fun _ k => XS.iloadN X445.here hx rfl (hb hby d2_54) rfl  k) ?_
  show own_Fin p e below G (T445.setTop (mkF m 55 #[rv a1, iv (3 : Int32), iv (0 : Int32), rv dr, iv (0 : Int32)] [(.int (3 : Int32)), (.int (0 : Int32))]))
  refine own_st (fun _ k => XS.icmpNo X445.here hx rfl (hb hby d2_55) rfl (tlt (by decide : ((0 : Int32) < (3 : Int32)))).2.1 k) ?_
  show own_Fin p e below G (T445.setTop (mkF m 58 #[rv a1, iv (3 : Int32), iv (0 : Int32), rv dr, iv (0 : Int32)] []))
  refine own_st (fun _ k => XS.aloadN X445.here hx rfl (hb hby d2_58) rfl rfl k) ?_
  show own_Fin p e below G (T445.setTop (mkF m 59 #[rv a1, iv (3 : Int32), iv (0 : Int32), rv dr, iv (0 : Int32)] [(.ref a1)]))
  obtain ⟨T448, X448, e448, st448⟩ := getF X445 hx hZ hown (host := "") (Or.inl (own_w hw 44 rfl)) Via.refl rfl f446_1 (g := (mkF m 59 #[rv a1, iv (3 : Int32), iv (0 : Int32), rv dr, iv (0 : Int32)] [(.ref a1)])) rfl rfl (hb hby d2_59)
  clear X445
  refine own_st st448 ?_
  clear st448
  show own_Fin p e below G (T448.setTop (mkF m 62 #[rv a1, iv (3 : Int32), iv (0 : Int32), rv dr, iv (0 : Int32)] [(.ref b374)]))
  obtain ⟨T449, h449, X449, e449, E449, A449, D449, M449, st449⟩ := newO X448 hx hZ hown (own_w hw 20 rfl) (own_w hw 21 rfl) (own_w hw 22 rfl) e448 (g := (mkF m 62 #[rv a1, iv (3 : Int32), iv (0 : Int32), rv dr, iv (0 : Int32)] [(.ref b374)])) rfl (hb hby d2_62) (by decide) (by decide)
  clear X448 e448 M449
  obtain ⟨b449, g449⟩ : ∃ z, z = T445.heap.size := ⟨_, rfl⟩
  rw [← g449] at A449 D449 st449
  have ne_a1_b449 : a1 ≠ b449 := Nat.ne_of_lt (Nat.lt_of_lt_of_le f446_0.lt (Nat.le_of_eq g449.symm))
  have ne_b374_b449 : b374 ≠ b449 := Nat.ne_of_lt (Nat.lt_of_lt_of_le f446_14.lt (Nat.le_of_eq g449.symm))
  have ne_ed_b449 : ed ≠ b449 := Nat.ne_of_lt (Nat.lt_of_lt_of_le f446_11.lt (Nat.le_of_eq g449.symm))
  have sz_b449 : h0.size ≤ b449 := Nat.le_trans K447.1 (Nat.le_of_eq g449.symm)
  have g_b449 : n0 ≤ b449 := Nat.le_trans Z0 sz_b449
  have f450_0 := f446_0.ext E449
  clear f446_0
  have f450_1 := f446_1.ext E449
  clear f446_1
  have f450_2 := f446_2.ext E449
  clear f446_2
  have f450_3 := f446_3.ext E449
  clear f446_3
  have f450_4 := f446_4.ext E449
  clear f446_4
  have f450_5 := f446_5.ext E449
  clear f446_5
  have f450_6 := f446_6.ext E449
  clear f446_6
  have f450_7 := f446_7.ext E449
  clear f446_7
  have f450_8 := f446_8.ext E449
  clear f446_8
  have f450_9 := f446_9.ext E449
  clear f446_9
  have f450_10 := f446_10.ext E449
  clear f446_10
  have f450_11 := f446_11.ext E449
  clear f446_11
  have f450_12 := f446_14.ext E449
  clear f446_14
  have f450_13 := f446_15.ext E449
  clear f446_15
  have f450_14 := f446_16.ext E449
  clear f446_16
  have f450_15 := f446_17.ext E449
  clear f446_17
  have K451 : Keep h0 h449 [a1] := K447.ext E449
  clear K447 E449
  have f452 : Fld Z h449 b449 "java/util/AbstractList" "modCount" "I" (.int (0 : Int32)) := D449 (Or.inl (own_w hw 40 rfl)) (ty := .int) (by decide)
  have f453 : Fld Z h449 b449 "java/util/ArrayList" "elementData" "[Ljava/lang/Object;" .null := D449 (Or.inl (own_w hw 43 rfl)) (ty := (.array (.object "java/lang/Object"))) (by decide)
  have f454 : Fld Z h449 b449 "java/util/ArrayList" "size" "I" (.int (0 : Int32)) := D449 (Or.inl (own_w hw 74 rfl)) (ty := .int) (by decide)
  clear D449
  refine own_st st449 ?_
  clear st449
  show own_Fin p e below G (T449.setTop (mkF m 65 #[rv a1, iv (3 : Int32), iv (0 : Int32), rv dr, iv (0 : Int32)] [(.ref b449), (.ref b374)]))
  refine own_st (fun _ k => XS.dup X449.here hx rfl (hb hby d2_65) rfl rfl k) ?_
  show own_Fin p e below G (T449.setTop (mkF m 66 #[rv a1, iv (3 : Int32), iv (0 : Int32), rv dr, iv (0 : Int32)] [(.ref b449), (.ref b449), (.ref b374)]))
  obtain ⟨_, _, ⟨T455, L455, k455, n455⟩, -, X455, ⟨Lc455, hQ455, l455, y455, z455⟩, st455⟩ := X449.specialBack hx (y := own_y3) rfl hown (mvT hZ (own_w hw 23 rfl)) (mvT hZ (own_w hw 24 rfl)) (mvT hZ (own_w hw 25 rfl)) (by decide) (backOf (W := 2) (rm_al l Z a0 hw [] b449 ed h449 n0 (Nat.le_trans Z0 K451.1) A449 f452 f453 f454 g_b449 f450_10) hZ (own_w hw 25 rfl) (own_w hw 22 rfl) (by decide) (by decide)) (g := (mkF m 66 #[rv a1, iv (3 : Int32), iv (0 : Int32), rv dr, iv (0 : Int32)] [(.ref b449), (.ref b449), (.ref b374)])) rfl (by rw [hml]; rfl) (Steps.refl _) (a := b449) (argsL := []) (rest := [(.ref b449), (.ref b374)]) (lenOf pd___V_167 rfl) rfl (by show 2 * 0 + _ ≤ _; exact Nat.le_of_eq rfl) (hb hby d2_66) (fun _ _ => ⟨rfl, e449, (by decide : 4 + 0 ≤ _), (by decide : 12 + 0 ≤ _)⟩)
  clear X449 e449 f452 f453 f454
  dsimp only [Pt.U, Pt.locs, Pt.cells, Pt.slots] at X455 l455 y455 z455 st455 hQ455
  subst l455 y455 z455
  obtain ⟨rfl, N455q, Kc455, gL455_0, gL455_1, gL455_2⟩ := hQ455
  have N455 := Fr.app N445 N455q
  clear N445 N455q
  have f456_0 := f450_0.keep Kc455
  clear f450_0
  have f456_1 := f450_1.keep Kc455 (ninS ne_a1_b449 nin0)
  clear f450_1
  have f456_2 := f450_2.keep Kc455 (ninS ne_a1_b449 nin0)
  clear f450_2
  have f456_3 := f450_3.keep Kc455 (ninS ne_a1_b449 nin0)
  clear f450_3
  have f456_4 := f450_4.keep Kc455 (ninS ne_a1_b449 nin0)
  clear f450_4
  have f456_5 := f450_5.keep Kc455 (ninS ne_a1_b449 nin0)
  clear f450_5
  have f456_6 := f450_6.keep Kc455 (ninS ne_a1_b449 nin0)
  clear f450_6
  have f456_7 := f450_7.keep Kc455 (ninS ne_a1_b449 nin0)
  clear f450_7
  have f456_8 := f450_8.keep Kc455 (ninS ne_a1_b449 nin0)
  clear f450_8
  have f456_9 := f450_9.keep Kc455 (ninS ne_a1_b449 nin0)
  clear f450_9
  have f456_10 := own_Sta_keep f450_10 Kc455 (allS A449.cell all0)
  clear f450_10
  have f456_11 := f450_11.keep Kc455 (ninS ne_ed_b449 nin0)
  clear f450_11
  have f456_12 := f450_12.keep Kc455
  clear f450_12
  have f456_13 := f450_13.keep Kc455 (ninS ne_b374_b449 nin0)
  clear f450_13
  have f456_14 := f450_14.keep Kc455 (ninS ne_b374_b449 nin0)
  clear f450_14
  have f456_15 := f450_15.keep Kc455 (ninS ne_b374_b449 nin0)
  clear f450_15
  have f456_16 := A449.keep Kc455
  clear A449
  have K457 : Keep h0 T455.heap [a1] := K451.trans Kc455 (allS (Or.inr sz_b449) all0)
  clear K451 Kc455
  refine own_tr st455 ?_
  clear st455
  show own_Fin p e below G (T455.setTop (mkF m 69 #[rv a1, iv (3 : Int32), iv (0 : Int32), rv dr, iv (0 : Int32)] [(.ref b449), (.ref b374)]))
  obtain ⟨cq458, kq458, q458a, q458b, q458c⟩ := isOf hZ rfl f456_12
  obtain ⟨_, _, ⟨T458, L458, k458, n458⟩, -, X458, ⟨Lc458, hQ458, l458, y458, z458⟩, st458⟩ := X455.interfaceBack hx (xi := own_y10) (y := own_y9) hown (mvT hZ (own_w hw 62 rfl)) (mvT hZ (own_w hw 63 rfl)) (mvT hZ (own_w hw 64 rfl)) (mvT hZ (own_w hw 65 rfl)) (mvT hZ (own_w hw 66 rfl)) (mvT hZ (own_w hw 67 rfl)) (mvT hZ (own_w hw 68 rfl)) (mvT hZ (own_w hw 69 rfl)) (by decide) (backOf (W := 0) (rm_aq0 l Z a0 hw [] b374 b449 ed ke T455.heap n0 (Nat.le_trans Z0 K457.1) f456_12 f456_13 f456_14 f456_15 g_b374 f456_16 f456_10 f456_11 ne_ed_b374) hZ (own_w hw 70 rfl) (own_w hw 22 rfl) (by decide) (by decide)) q458a q458b q458c (g := (mkF m 69 #[rv a1, iv (3 : Int32), iv (0 : Int32), rv dr, iv (0 : Int32)] [(.ref b449), (.ref b374)])) rfl (by rw [hml]; rfl) (Steps.refl _) (argsL := [(.ref b449)]) (rest := []) (lenOf pd__Ljava_lang_Object__Z_838 rfl) rfl (by show 2 * 0 + _ ≤ _; exact Nat.le_of_eq rfl) (hb hby d2_69) (fun _ _ => ⟨rfl, rfl, (by decide : 4 + 1 ≤ _), (by decide : 12 + 10 ≤ _)⟩)
  clear X455 f456_13 f456_14 f456_15 q458a q458b q458c
  dsimp only [Pt.U, Pt.locs, Pt.cells, Pt.slots] at X458 l458 y458 z458 st458 hQ458
  subst l458 y458 z458
  obtain ⟨gb458, gk458, hQ458⟩ := hQ458
  have lt458 := f456_12.lt
  obtain ⟨rfl, N458q, Kc458, gz458, gL458_0, gL458_1, gL458_2, gB458, gO458⟩ := hQ458
  have N458 := Fr.app N455 N458q
  clear N455 N458q
  have f459_0 := f456_0.keep Kc458
  have f459_1 := f456_1.keep Kc458 (ninS ne_a1_b374 nin0)
  clear f456_1
  have f459_2 := f456_2.keep Kc458 (ninS ne_a1_b374 nin0)
  clear f456_2
  have f459_3 := f456_3.keep Kc458 (ninS ne_a1_b374 nin0)
  clear f456_3
  have f459_4 := f456_4.keep Kc458 (ninS ne_a1_b374 nin0)
  clear f456_4
  have f459_5 := f456_5.keep Kc458 (ninS ne_a1_b374 nin0)
  clear f456_5
  have f459_6 := f456_6.keep Kc458 (ninS ne_a1_b374 nin0)
  clear f456_6
  have f459_7 := f456_7.keep Kc458 (ninS ne_a1_b374 nin0)
  clear f456_7
  have f459_8 := f456_8.keep Kc458 (ninS ne_a1_b374 nin0)
  clear f456_8
  have f459_9 := f456_9.keep Kc458 (ninS ne_a1_b374 nin0)
  clear f456_9
  have f459_10 := own_Sta_keep f456_10 Kc458 (allS f456_12.cell all0)
  clear f456_10
  have f459_11 := f456_11.keep Kc458 (ninS ne_ed_b374 nin0)
  have f459_12 := f456_12.keep Kc458
  have f459_16 := f456_16.keep Kc458
  clear f459_16
  have f459_17 := gL455_0.keep Kc458 (ninS (Ne.symm ne_b374_b449) nin0)
  clear f459_17
  have f459_18 := gL455_1.keep Kc458 (ninS (Ne.symm ne_b374_b449) nin0)
  clear f459_18
  have f459_19 := gL455_2.keep Kc458 (ninS (Ne.symm ne_b374_b449) nin0)
  clear f459_19
  have K460 : Keep h0 T458.heap [a1] := K457.trans Kc458 (allS (Or.inr sz_b374) all0)
  clear Kc458
  have ne_a1_gb458 : a1 ≠ gb458 := Nat.ne_of_lt (Nat.lt_of_lt_of_le f456_0.lt gz458)
  clear f456_0
  have ne_b374_gb458 : b374 ≠ gb458 := Nat.ne_of_lt (Nat.lt_of_lt_of_le f456_12.lt gz458)
  clear f456_12
  have ne_b449_gb458 : b449 ≠ gb458 := Nat.ne_of_lt (Nat.lt_of_lt_of_le f456_16.lt gz458)
  clear f456_16
  have ne_ed_gb458 : ed ≠ gb458 := Nat.ne_of_lt (Nat.lt_of_lt_of_le f456_11.lt gz458)
  clear f456_11
  have sz_gb458 : h0.size ≤ gb458 := Nat.le_trans K457.1 gz458
  clear K457
  have g_gb458 : n0 ≤ gb458 := Nat.le_trans Z0 sz_gb458
  refine own_tr st458 ?_
  clear st458
  show own_Fin p e below G (T458.setTop (mkF m 74 #[rv a1, iv (3 : Int32), iv (0 : Int32), rv dr, iv (0 : Int32)] [(.int (1 : Int32))]))
  refine own_st (fun _ k => XS.pop X458.here hx rfl (hb hby d2_74) rfl rfl k) ?_
  show own_Fin p e below G (T458.setTop (mkF m 75 #[rv a1, iv (3 : Int32), iv (0 : Int32), rv dr, iv (0 : Int32)] []))
  refine own_st (fun _ k => XS.iinc X458.here hx rfl (hb hby d2_75) rfl (l' := #[rv a1, iv (3 : Int32), iv (0 : Int32), rv dr, iv (1 : Int32)]) rfl k) ?_
  show own_Fin p e below G (T458.setTop (mkF m 78 #[rv a1, iv (3 : Int32), iv (0 : Int32), rv dr, iv (1 : Int32)] []))
  refine own_st (fun _ k => XS.goto X458.here hx rfl (pc0 := 78) (pc' := 52) rfl (hb hby d2_78) (by decide) (by decide) k) ?_
  show own_Fin p e below G (T458.setTop (mkF m 52 #[rv a1, iv (3 : Int32), iv (0 : Int32), rv dr, iv (1 : Int32)] []))
  refine own_st (fun _ k => XS.iload X458.here hx rfl (hb hby d2_52) rfl  k) ?_
  show own_Fin p e below G (T458.setTop (mkF m 54 #[rv a1, iv (3 : Int32), iv (0 : Int32), rv dr, iv (1 : Int32)] [(.int (1 : Int32))]))
  refine own_st (fun _ k => XS.iloadN X458.here hx rfl (hb hby d2_54) rfl  k) ?_
  show own_Fin p e below G (T458.setTop (mkF m 55 #[rv a1, iv (3 : Int32), iv (0 : Int32), rv dr, iv (1 : Int32)] [(.int (3 : Int32)), (.int (1 : Int32))]))
  refine own_st (fun _ k => XS.icmpNo X458.here hx rfl (hb hby d2_55) rfl (tlt (by decide : ((1 : Int32) < (3 : Int32)))).2.1 k) ?_
  show own_Fin p e below G (T458.setTop (mkF m 58 #[rv a1, iv (3 : Int32), iv (0 : Int32), rv dr, iv (1 : Int32)] []))
  refine own_st (fun _ k => XS.aloadN X458.here hx rfl (hb hby d2_58) rfl rfl k) ?_
  show own_Fin p e below G (T458.setTop (mkF m 59 #[rv a1, iv (3 : Int32), iv (0 : Int32), rv dr, iv (1 : Int32)] [(.ref a1)]))
  obtain ⟨T461, X461, e461, st461⟩ := getF X458 hx hZ hown (host := "") (Or.inl (own_w hw 44 rfl)) Via.refl rfl f459_1 (g := (mkF m 59 #[rv a1, iv (3 : Int32), iv (0 : Int32), rv dr, iv (1 : Int32)] [(.ref a1)])) rfl rfl (hb hby d2_59)
  clear X458
  refine own_st st461 ?_
  clear st461
  show own_Fin p e below G (T461.setTop (mkF m 62 #[rv a1, iv (3 : Int32), iv (0 : Int32), rv dr, iv (1 : Int32)] [(.ref b374)]))
  obtain ⟨T462, h462, X462, e462, E462, A462, D462, M462, st462⟩ := newO X461 hx hZ hown (own_w hw 20 rfl) (own_w hw 21 rfl) (own_w hw 22 rfl) e461 (g := (mkF m 62 #[rv a1, iv (3 : Int32), iv (0 : Int32), rv dr, iv (1 : Int32)] [(.ref b374)])) rfl (hb hby d2_62) (by decide) (by decide)
  clear X461 e461 M462
  obtain ⟨b462, g462⟩ : ∃ z, z = T458.heap.size := ⟨_, rfl⟩
  rw [← g462] at A462 D462 st462
  have ne_a1_b462 : a1 ≠ b462 := Nat.ne_of_lt (Nat.lt_of_lt_of_le f459_0.lt (Nat.le_of_eq g462.symm))
  have ne_b374_b462 : b374 ≠ b462 := Nat.ne_of_lt (Nat.lt_of_lt_of_le f459_12.lt (Nat.le_of_eq g462.symm))
  have ne_ed_b462 : ed ≠ b462 := Nat.ne_of_lt (Nat.lt_of_lt_of_le f459_11.lt (Nat.le_of_eq g462.symm))
  have ne_gb458_b462 : gb458 ≠ b462 := Nat.ne_of_lt (Nat.lt_of_lt_of_le gB458.lt (Nat.le_of_eq g462.symm))
  have sz_b462 : h0.size ≤ b462 := Nat.le_trans K460.1 (Nat.le_of_eq g462.symm)
  have g_b462 : n0 ≤ b462 := Nat.le_trans Z0 sz_b462
  have f463_0 := f459_0.ext E462
  clear f459_0
  have f463_1 := f459_1.ext E462
  clear f459_1
  have f463_2 := f459_2.ext E462
  clear f459_2
  have f463_3 := f459_3.ext E462
  clear f459_3
  have f463_4 := f459_4.ext E462
  clear f459_4
  have f463_5 := f459_5.ext E462
  clear f459_5
  have f463_6 := f459_6.ext E462
  clear f459_6
  have f463_7 := f459_7.ext E462
  clear f459_7
  have f463_8 := f459_8.ext E462
  clear f459_8
  have f463_9 := f459_9.ext E462
  clear f459_9
  have f463_10 := f459_10.ext E462
  clear f459_10
  have f463_11 := f459_11.ext E462
  clear f459_11
  have f463_12 := f459_12.ext E462
  clear f459_12
  have f463_13 := gL458_0.ext E462
  have f463_14 := gL458_1.ext E462
  have f463_15 := gL458_2.ext E462
  have f463_16 := gB458.ext E462
  have K464 : Keep h0 h462 [a1] := K460.ext E462
  clear K460 E462
  have f465 : Fld Z h462 b462 "java/util/AbstractList" "modCount" "I" (.int (0 : Int32)) := D462 (Or.inl (own_w hw 40 rfl)) (ty := .int) (by decide)
  have f466 : Fld Z h462 b462 "java/util/ArrayList" "elementData" "[Ljava/lang/Object;" .null := D462 (Or.inl (own_w hw 43 rfl)) (ty := (.array (.object "java/lang/Object"))) (by decide)
  have f467 : Fld Z h462 b462 "java/util/ArrayList" "size" "I" (.int (0 : Int32)) := D462 (Or.inl (own_w hw 74 rfl)) (ty := .int) (by decide)
  clear D462
  refine own_st st462 ?_
  clear st462
  show own_Fin p e below G (T462.setTop (mkF m 65 #[rv a1, iv (3 : Int32), iv (0 : Int32), rv dr, iv (1 : Int32)] [(.ref b462), (.ref b374)]))
  refine own_st (fun _ k => XS.dup X462.here hx rfl (hb hby d2_65) rfl rfl k) ?_
  show own_Fin p e below G (T462.setTop (mkF m 66 #[rv a1, iv (3 : Int32), iv (0 : Int32), rv dr, iv (1 : Int32)] [(.ref b462), (.ref b462), (.ref b374)]))
  obtain ⟨_, _, ⟨T468, L468, k468, n468⟩, -, X468, ⟨Lc468, hQ468, l468, y468, z468⟩, st468⟩ := X462.specialBack hx (y := own_y3) rfl hown (mvT hZ (own_w hw 23 rfl)) (mvT hZ (own_w hw 24 rfl)) (mvT hZ (own_w hw 25 rfl)) (by decide) (backOf (W := 2) (rm_al l Z a0 hw [] b462 ed h462 n0 (Nat.le_trans Z0 K464.1) A462 f465 f466 f467 g_b462 f463_10) hZ (own_w hw 25 rfl) (own_w hw 22 rfl) (by decide) (by decide)) (g := (mkF m 66 #[rv a1, iv (3 : Int32), iv (0 : Int32), rv dr, iv (1 : Int32)] [(.ref b462), (.ref b462), (.ref b374)])) rfl (by rw [hml]; rfl) (Steps.refl _) (a := b462) (argsL := []) (rest := [(.ref b462), (.ref b374)]) (lenOf pd___V_167 rfl) rfl (by show 2 * 0 + _ ≤ _; exact Nat.le_of_eq rfl) (hb hby d2_66) (fun _ _ => ⟨rfl, e462, (by decide : 6 + 0 ≤ _), (by decide : 25 + 0 ≤ _)⟩)
  clear X462 e462 f465 f466 f467
  dsimp only [Pt.U, Pt.locs, Pt.cells, Pt.slots] at X468 l468 y468 z468 st468 hQ468
  subst l468 y468 z468
  obtain ⟨rfl, N468q, Kc468, gL468_0, gL468_1, gL468_2⟩ := hQ468
  have N468 := Fr.app N458 N468q
  clear N458 N468q
  have f469_0 := f463_0.keep Kc468
  clear f463_0
  have f469_1 := f463_1.keep Kc468 (ninS ne_a1_b462 nin0)
  clear f463_1
  have f469_2 := f463_2.keep Kc468 (ninS ne_a1_b462 nin0)
  clear f463_2
  have f469_3 := f463_3.keep Kc468 (ninS ne_a1_b462 nin0)
  clear f463_3
  have f469_4 := f463_4.keep Kc468 (ninS ne_a1_b462 nin0)
  clear f463_4
  have f469_5 := f463_5.keep Kc468 (ninS ne_a1_b462 nin0)
  clear f463_5
  have f469_6 := f463_6.keep Kc468 (ninS ne_a1_b462 nin0)
  clear f463_6
  have f469_7 := f463_7.keep Kc468 (ninS ne_a1_b462 nin0)
  clear f463_7
  have f469_8 := f463_8.keep Kc468 (ninS ne_a1_b462 nin0)
  clear f463_8
  have f469_9 := f463_9.keep Kc468 (ninS ne_a1_b462 nin0)
  clear f463_9
  have f469_10 := own_Sta_keep f463_10 Kc468 (allS A462.cell all0)
  clear f463_10
  have f469_11 := f463_11.keep Kc468 (ninS ne_ed_b462 nin0)
  clear f463_11
  have f469_12 := f463_12.keep Kc468
  clear f463_12
  have f469_13 := f463_13.keep Kc468 (ninS ne_b374_b462 nin0)
  clear f463_13
  have f469_14 := f463_14.keep Kc468 (ninS ne_b374_b462 nin0)
  clear f463_14
  have f469_15 := f463_15.keep Kc468 (ninS ne_b374_b462 nin0)
  clear f463_15
  have f469_16 := f463_16.keep Kc468 (ninS ne_gb458_b462 nin0)
  clear f463_16
  have f469_17 := A462.keep Kc468
  clear A462
  have K470 : Keep h0 T468.heap [a1] := K464.trans Kc468 (allS (Or.inr sz_b462) all0)
  clear K464 Kc468
  refine own_tr st468 ?_
  clear st468
  show own_Fin p e below G (T468.setTop (mkF m 69 #[rv a1, iv (3 : Int32), iv (0 : Int32), rv dr, iv (1 : Int32)] [(.ref b462), (.ref b374)]))
  obtain ⟨cq471, kq471, q471a, q471b, q471c⟩ := isOf hZ rfl f469_12
  obtain ⟨_, _, ⟨T471, L471, k471, n471⟩, -, X471, ⟨Lc471, hQ471, l471, y471, z471⟩, st471⟩ := X468.interfaceBack hx (xi := own_y10) (y := own_y9) hown (mvT hZ (own_w hw 62 rfl)) (mvT hZ (own_w hw 63 rfl)) (mvT hZ (own_w hw 64 rfl)) (mvT hZ (own_w hw 65 rfl)) (mvT hZ (own_w hw 66 rfl)) (mvT hZ (own_w hw 67 rfl)) (mvT hZ (own_w hw 68 rfl)) (mvT hZ (own_w hw 69 rfl)) (by decide) (backOf (W := 0) (rm_aq1 l Z a0 hw [] b374 b462 gb458 gk458 (.ref b449) (.null) (.null) (.null) (.null) (.null) (.null) (.null) (.null) (.null) T468.heap n0 (Nat.le_trans Z0 K470.1) f469_12 f469_13 f469_14 f469_15 g_b374 f469_17 f469_16 gO458 ne_b374_gb458 g_gb458) hZ (own_w hw 70 rfl) (own_w hw 22 rfl) (by decide) (by decide)) q471a q471b q471c (g := (mkF m 69 #[rv a1, iv (3 : Int32), iv (0 : Int32), rv dr, iv (1 : Int32)] [(.ref b462), (.ref b374)])) rfl (by rw [hml]; rfl) (Steps.refl _) (argsL := [(.ref b462)]) (rest := []) (lenOf pd__Ljava_lang_Object__Z_838 rfl) rfl (by show 2 * 0 + _ ≤ _; exact Nat.le_of_eq rfl) (hb hby d2_69) (fun _ _ => ⟨rfl, rfl, (by decide : 6 + 0 ≤ _), (by decide : 25 + 0 ≤ _)⟩)
  clear X468 f469_13 f469_14 f469_15 q471a q471b q471c
  dsimp only [Pt.U, Pt.locs, Pt.cells, Pt.slots] at X471 l471 y471 z471 st471 hQ471
  subst l471 y471 z471
  obtain ⟨rfl, N471q, Kc471, gL471_0, gL471_1, gL471_2, gB471⟩ := hQ471
  have N471 := Fr.app N468 N471q
  clear N468 N471q
  have f472_0 := f469_0.keep Kc471
  clear f469_0
  have f472_1 := f469_1.keep Kc471 (ninS ne_a1_b374 (ninS ne_a1_gb458 nin0))
  clear f469_1
  have f472_2 := f469_2.keep Kc471 (ninS ne_a1_b374 (ninS ne_a1_gb458 nin0))
  clear f469_2
  have f472_3 := f469_3.keep Kc471 (ninS ne_a1_b374 (ninS ne_a1_gb458 nin0))
  clear f469_3
  have f472_4 := f469_4.keep Kc471 (ninS ne_a1_b374 (ninS ne_a1_gb458 nin0))
  clear f469_4
  have f472_5 := f469_5.keep Kc471 (ninS ne_a1_b374 (ninS ne_a1_gb458 nin0))
  clear f469_5
  have f472_6 := f469_6.keep Kc471 (ninS ne_a1_b374 (ninS ne_a1_gb458 nin0))
  clear f469_6
  have f472_7 := f469_7.keep Kc471 (ninS ne_a1_b374 (ninS ne_a1_gb458 nin0))
  clear f469_7
  have f472_8 := f469_8.keep Kc471 (ninS ne_a1_b374 (ninS ne_a1_gb458 nin0))
  clear f469_8
  have f472_9 := f469_9.keep Kc471 (ninS ne_a1_b374 (ninS ne_a1_gb458 nin0))
  clear f469_9
  have f472_10 := own_Sta_keep f469_10 Kc471 (allS f469_12.cell (allS f469_16.cell all0))
  clear f469_10 f469_16
  have f472_11 := f469_11.keep Kc471 (ninS ne_ed_b374 (ninS ne_ed_gb458 nin0))
  clear f469_11
  have f472_12 := f469_12.keep Kc471
  clear f469_12
  have f472_17 := f469_17.keep Kc471
  clear f469_17 f472_17
  have f472_18 := gL468_0.keep Kc471 (ninS (Ne.symm ne_b374_b462) (ninS (Ne.symm ne_gb458_b462) nin0))
  clear f472_18
  have f472_19 := gL468_1.keep Kc471 (ninS (Ne.symm ne_b374_b462) (ninS (Ne.symm ne_gb458_b462) nin0))
  clear f472_19
  have f472_20 := gL468_2.keep Kc471 (ninS (Ne.symm ne_b374_b462) (ninS (Ne.symm ne_gb458_b462) nin0))
  clear f472_20
  have K473 : Keep h0 T471.heap [a1] := K470.trans Kc471 (allS (Or.inr sz_b374) (allS (Or.inr sz_gb458) all0))
  clear K470 Kc471
  refine own_tr st471 ?_
  clear st471
  show own_Fin p e below G (T471.setTop (mkF m 74 #[rv a1, iv (3 : Int32), iv (0 : Int32), rv dr, iv (1 : Int32)] [(.int (1 : Int32))]))
  refine own_st (fun _ k => XS.pop X471.here hx rfl (hb hby d2_74) rfl rfl k) ?_
  show own_Fin p e below G (T471.setTop (mkF m 75 #[rv a1, iv (3 : Int32), iv (0 : Int32), rv dr, iv (1 : Int32)] []))
  refine own_st (fun _ k => XS.iinc X471.here hx rfl (hb hby d2_75) rfl (l' := #[rv a1, iv (3 : Int32), iv (0 : Int32), rv dr, iv (2 : Int32)]) rfl k) ?_
  show own_Fin p e below G (T471.setTop (mkF m 78 #[rv a1, iv (3 : Int32), iv (0 : Int32), rv dr, iv (2 : Int32)] []))
  refine own_st (fun _ k => XS.goto X471.here hx rfl (pc0 := 78) (pc' := 52) rfl (hb hby d2_78) (by decide) (by decide) k) ?_
  show own_Fin p e below G (T471.setTop (mkF m 52 #[rv a1, iv (3 : Int32), iv (0 : Int32), rv dr, iv (2 : Int32)] []))
  refine own_st (fun _ k => XS.iload X471.here hx rfl (hb hby d2_52) rfl  k) ?_
  show own_Fin p e below G (T471.setTop (mkF m 54 #[rv a1, iv (3 : Int32), iv (0 : Int32), rv dr, iv (2 : Int32)] [(.int (2 : Int32))]))
  refine own_st (fun _ k => XS.iloadN X471.here hx rfl (hb hby d2_54) rfl  k) ?_
  show own_Fin p e below G (T471.setTop (mkF m 55 #[rv a1, iv (3 : Int32), iv (0 : Int32), rv dr, iv (2 : Int32)] [(.int (3 : Int32)), (.int (2 : Int32))]))
  refine own_st (fun _ k => XS.icmpNo X471.here hx rfl (hb hby d2_55) rfl (tlt (by decide : ((2 : Int32) < (3 : Int32)))).2.1 k) ?_
  show own_Fin p e below G (T471.setTop (mkF m 58 #[rv a1, iv (3 : Int32), iv (0 : Int32), rv dr, iv (2 : Int32)] []))
  refine own_st (fun _ k => XS.aloadN X471.here hx rfl (hb hby d2_58) rfl rfl k) ?_
  show own_Fin p e below G (T471.setTop (mkF m 59 #[rv a1, iv (3 : Int32), iv (0 : Int32), rv dr, iv (2 : Int32)] [(.ref a1)]))
  obtain ⟨T474, X474, e474, st474⟩ := getF X471 hx hZ hown (host := "") (Or.inl (own_w hw 44 rfl)) Via.refl rfl f472_1 (g := (mkF m 59 #[rv a1, iv (3 : Int32), iv (0 : Int32), rv dr, iv (2 : Int32)] [(.ref a1)])) rfl rfl (hb hby d2_59)
  clear X471
  refine own_st st474 ?_
  clear st474
  show own_Fin p e below G (T474.setTop (mkF m 62 #[rv a1, iv (3 : Int32), iv (0 : Int32), rv dr, iv (2 : Int32)] [(.ref b374)]))
  obtain ⟨T475, h475, X475, e475, E475, A475, D475, M475, st475⟩ := newO X474 hx hZ hown (own_w hw 20 rfl) (own_w hw 21 rfl) (own_w hw 22 rfl) e474 (g := (mkF m 62 #[rv a1, iv (3 : Int32), iv (0 : Int32), rv dr, iv (2 : Int32)] [(.ref b374)])) rfl (hb hby d2_62) (by decide) (by decide)
  clear X474 e474 M475
  obtain ⟨b475, g475⟩ : ∃ z, z = T471.heap.size := ⟨_, rfl⟩
  rw [← g475] at A475 D475 st475
  have ne_a1_b475 : a1 ≠ b475 := Nat.ne_of_lt (Nat.lt_of_lt_of_le f472_0.lt (Nat.le_of_eq g475.symm))
  have ne_b374_b475 : b374 ≠ b475 := Nat.ne_of_lt (Nat.lt_of_lt_of_le f472_12.lt (Nat.le_of_eq g475.symm))
  have ne_ed_b475 : ed ≠ b475 := Nat.ne_of_lt (Nat.lt_of_lt_of_le f472_11.lt (Nat.le_of_eq g475.symm))
  have ne_gb458_b475 : gb458 ≠ b475 := Nat.ne_of_lt (Nat.lt_of_lt_of_le gB471.lt (Nat.le_of_eq g475.symm))
  have sz_b475 : h0.size ≤ b475 := Nat.le_trans K473.1 (Nat.le_of_eq g475.symm)
  have g_b475 : n0 ≤ b475 := Nat.le_trans Z0 sz_b475
  have f476_0 := f472_0.ext E475
  clear f472_0
  have f476_1 := f472_1.ext E475
  clear f472_1
  have f476_2 := f472_2.ext E475
  clear f472_2
  have f476_3 := f472_3.ext E475
  clear f472_3
  have f476_4 := f472_4.ext E475
  clear f472_4
  have f476_5 := f472_5.ext E475
  clear f472_5
  have f476_6 := f472_6.ext E475
  clear f472_6
  have f476_7 := f472_7.ext E475
  clear f472_7
  have f476_8 := f472_8.ext E475
  clear f472_8
  have f476_9 := f472_9.ext E475
  clear f472_9
  have f476_10 := f472_10.ext E475
  clear f472_10
  have f476_11 := f472_11.ext E475
  clear f472_11
  have f476_12 := f472_12.ext E475
  clear f472_12
  have f476_13 := gL471_0.ext E475
  have f476_14 := gL471_1.ext E475
  have f476_15 := gL471_2.ext E475
  have f476_16 := gB471.ext E475
  have K477 : Keep h0 h475 [a1] := K473.ext E475
  clear K473 E475
  have f478 : Fld Z h475 b475 "java/util/AbstractList" "modCount" "I" (.int (0 : Int32)) := D475 (Or.inl (own_w hw 40 rfl)) (ty := .int) (by decide)
  have f479 : Fld Z h475 b475 "java/util/ArrayList" "elementData" "[Ljava/lang/Object;" .null := D475 (Or.inl (own_w hw 43 rfl)) (ty := (.array (.object "java/lang/Object"))) (by decide)
  have f480 : Fld Z h475 b475 "java/util/ArrayList" "size" "I" (.int (0 : Int32)) := D475 (Or.inl (own_w hw 74 rfl)) (ty := .int) (by decide)
  clear D475
  refine own_st st475 ?_
  clear st475
  show own_Fin p e below G (T475.setTop (mkF m 65 #[rv a1, iv (3 : Int32), iv (0 : Int32), rv dr, iv (2 : Int32)] [(.ref b475), (.ref b374)]))
  refine own_st (fun _ k => XS.dup X475.here hx rfl (hb hby d2_65) rfl rfl k) ?_
  show own_Fin p e below G (T475.setTop (mkF m 66 #[rv a1, iv (3 : Int32), iv (0 : Int32), rv dr, iv (2 : Int32)] [(.ref b475), (.ref b475), (.ref b374)]))
  obtain ⟨_, _, ⟨T481, L481, k481, n481⟩, -, X481, ⟨Lc481, hQ481, l481, y481, z481⟩, st481⟩ := X475.specialBack hx (y := own_y3) rfl hown (mvT hZ (own_w hw 23 rfl)) (mvT hZ (own_w hw 24 rfl)) (mvT hZ (own_w hw 25 rfl)) (by decide) (backOf (W := 2) (rm_al l Z a0 hw [] b475 ed h475 n0 (Nat.le_trans Z0 K477.1) A475 f478 f479 f480 g_b475 f476_10) hZ (own_w hw 25 rfl) (own_w hw 22 rfl) (by decide) (by decide)) (g := (mkF m 66 #[rv a1, iv (3 : Int32), iv (0 : Int32), rv dr, iv (2 : Int32)] [(.ref b475), (.ref b475), (.ref b374)])) rfl (by rw [hml]; rfl) (Steps.refl _) (a := b475) (argsL := []) (rest := [(.ref b475), (.ref b374)]) (lenOf pd___V_167 rfl) rfl (by show 2 * 0 + _ ≤ _; exact Nat.le_of_eq rfl) (hb hby d2_66) (fun _ _ => ⟨rfl, e475, (by decide : 7 + 0 ≤ _), (by decide : 28 + 0 ≤ _)⟩)
  clear X475 e475 f478 f479 f480
  dsimp only [Pt.U, Pt.locs, Pt.cells, Pt.slots] at X481 l481 y481 z481 st481 hQ481
  subst l481 y481 z481
  obtain ⟨rfl, N481q, Kc481, gL481_0, gL481_1, gL481_2⟩ := hQ481
  have N481 := Fr.app N471 N481q
  clear N471 N481q
  have f482_0 := f476_0.keep Kc481
  clear f476_0
  have f482_1 := f476_1.keep Kc481 (ninS ne_a1_b475 nin0)
  clear f476_1
  have f482_2 := f476_2.keep Kc481 (ninS ne_a1_b475 nin0)
  clear f476_2
  have f482_3 := f476_3.keep Kc481 (ninS ne_a1_b475 nin0)
  clear f476_3
  have f482_4 := f476_4.keep Kc481 (ninS ne_a1_b475 nin0)
  clear f476_4
  have f482_5 := f476_5.keep Kc481 (ninS ne_a1_b475 nin0)
  clear f476_5
  have f482_6 := f476_6.keep Kc481 (ninS ne_a1_b475 nin0)
  clear f476_6
  have f482_7 := f476_7.keep Kc481 (ninS ne_a1_b475 nin0)
  clear f476_7
  have f482_8 := f476_8.keep Kc481 (ninS ne_a1_b475 nin0)
  clear f476_8
  have f482_9 := f476_9.keep Kc481 (ninS ne_a1_b475 nin0)
  clear f476_9
  have f482_10 := own_Sta_keep f476_10 Kc481 (allS A475.cell all0)
  clear f476_10
  have f482_11 := f476_11.keep Kc481 (ninS ne_ed_b475 nin0)
  clear f476_11
  have f482_12 := f476_12.keep Kc481
  clear f476_12
  have f482_13 := f476_13.keep Kc481 (ninS ne_b374_b475 nin0)
  clear f476_13
  have f482_14 := f476_14.keep Kc481 (ninS ne_b374_b475 nin0)
  clear f476_14
  have f482_15 := f476_15.keep Kc481 (ninS ne_b374_b475 nin0)
  clear f476_15
  have f482_16 := f476_16.keep Kc481 (ninS ne_gb458_b475 nin0)
  clear f476_16
  have f482_17 := A475.keep Kc481
  clear A475
  have K483 : Keep h0 T481.heap [a1] := K477.trans Kc481 (allS (Or.inr sz_b475) all0)
  clear K477 Kc481
  refine own_tr st481 ?_
  clear st481
  show own_Fin p e below G (T481.setTop (mkF m 69 #[rv a1, iv (3 : Int32), iv (0 : Int32), rv dr, iv (2 : Int32)] [(.ref b475), (.ref b374)]))
  obtain ⟨cq484, kq484, q484a, q484b, q484c⟩ := isOf hZ rfl f482_12
  obtain ⟨_, _, ⟨T484, L484, k484, n484⟩, -, X484, ⟨Lc484, hQ484, l484, y484, z484⟩, st484⟩ := X481.interfaceBack hx (xi := own_y10) (y := own_y9) hown (mvT hZ (own_w hw 62 rfl)) (mvT hZ (own_w hw 63 rfl)) (mvT hZ (own_w hw 64 rfl)) (mvT hZ (own_w hw 65 rfl)) (mvT hZ (own_w hw 66 rfl)) (mvT hZ (own_w hw 67 rfl)) (mvT hZ (own_w hw 68 rfl)) (mvT hZ (own_w hw 69 rfl)) (by decide) (backOf (W := 0) (rm_aq2 l Z a0 hw [] b374 b475 gb458 gk458 (.ref b449) (.ref b462) (.null) (.null) (.null) (.null) (.null) (.null) (.null) (.null) T481.heap n0 (Nat.le_trans Z0 K483.1) f482_12 f482_13 f482_14 f482_15 g_b374 f482_17 f482_16 gO458 ne_b374_gb458 g_gb458) hZ (own_w hw 70 rfl) (own_w hw 22 rfl) (by decide) (by decide)) q484a q484b q484c (g := (mkF m 69 #[rv a1, iv (3 : Int32), iv (0 : Int32), rv dr, iv (2 : Int32)] [(.ref b475), (.ref b374)])) rfl (by rw [hml]; rfl) (Steps.refl _) (argsL := [(.ref b475)]) (rest := []) (lenOf pd__Ljava_lang_Object__Z_838 rfl) rfl (by show 2 * 0 + _ ≤ _; exact Nat.le_of_eq rfl) (hb hby d2_69) (fun _ _ => ⟨rfl, rfl, (by decide : 7 + 0 ≤ _), (by decide : 28 + 0 ≤ _)⟩)
  clear X481 f482_13 f482_14 f482_15 q484a q484b q484c
  dsimp only [Pt.U, Pt.locs, Pt.cells, Pt.slots] at X484 l484 y484 z484 st484 hQ484
  subst l484 y484 z484
  obtain ⟨rfl, N484q, Kc484, gL484_0, gL484_1, gL484_2, gB484⟩ := hQ484
  have N484 := Fr.app N481 N484q
  clear N481 N484q
  have f485_0 := f482_0.keep Kc484
  clear f482_0
  have f485_1 := f482_1.keep Kc484 (ninS ne_a1_b374 (ninS ne_a1_gb458 nin0))
  clear f482_1
  have f485_2 := f482_2.keep Kc484 (ninS ne_a1_b374 (ninS ne_a1_gb458 nin0))
  clear f482_2
  have f485_3 := f482_3.keep Kc484 (ninS ne_a1_b374 (ninS ne_a1_gb458 nin0))
  clear f482_3
  have f485_4 := f482_4.keep Kc484 (ninS ne_a1_b374 (ninS ne_a1_gb458 nin0))
  clear f482_4
  have f485_5 := f482_5.keep Kc484 (ninS ne_a1_b374 (ninS ne_a1_gb458 nin0))
  clear f482_5
  have f485_6 := f482_6.keep Kc484 (ninS ne_a1_b374 (ninS ne_a1_gb458 nin0))
  clear f482_6
  have f485_7 := f482_7.keep Kc484 (ninS ne_a1_b374 (ninS ne_a1_gb458 nin0))
  clear f482_7
  have f485_8 := f482_8.keep Kc484 (ninS ne_a1_b374 (ninS ne_a1_gb458 nin0))
  clear f482_8
  have f485_9 := f482_9.keep Kc484 (ninS ne_a1_b374 (ninS ne_a1_gb458 nin0))
  clear f482_9
  have f485_10 := own_Sta_keep f482_10 Kc484 (allS f482_12.cell (allS f482_16.cell all0))
  clear f482_10 f482_16 f485_10
  have f485_11 := f482_11.keep Kc484 (ninS ne_ed_b374 (ninS ne_ed_gb458 nin0))
  clear f482_11 f485_11
  have f485_12 := f482_12.keep Kc484
  clear f482_12 f485_12
  have f485_17 := f482_17.keep Kc484
  clear f482_17 f485_17
  have f485_18 := gL481_0.keep Kc484 (ninS (Ne.symm ne_b374_b475) (ninS (Ne.symm ne_gb458_b475) nin0))
  clear f485_18
  have f485_19 := gL481_1.keep Kc484 (ninS (Ne.symm ne_b374_b475) (ninS (Ne.symm ne_gb458_b475) nin0))
  clear f485_19
  have f485_20 := gL481_2.keep Kc484 (ninS (Ne.symm ne_b374_b475) (ninS (Ne.symm ne_gb458_b475) nin0))
  clear f485_20
  have K486 : Keep h0 T484.heap [a1] := K483.trans Kc484 (allS (Or.inr sz_b374) (allS (Or.inr sz_gb458) all0))
  clear K483 Kc484
  refine own_tr st484 ?_
  clear st484
  show own_Fin p e below G (T484.setTop (mkF m 74 #[rv a1, iv (3 : Int32), iv (0 : Int32), rv dr, iv (2 : Int32)] [(.int (1 : Int32))]))
  refine own_st (fun _ k => XS.pop X484.here hx rfl (hb hby d2_74) rfl rfl k) ?_
  show own_Fin p e below G (T484.setTop (mkF m 75 #[rv a1, iv (3 : Int32), iv (0 : Int32), rv dr, iv (2 : Int32)] []))
  refine own_st (fun _ k => XS.iinc X484.here hx rfl (hb hby d2_75) rfl (l' := #[rv a1, iv (3 : Int32), iv (0 : Int32), rv dr, iv (3 : Int32)]) rfl k) ?_
  show own_Fin p e below G (T484.setTop (mkF m 78 #[rv a1, iv (3 : Int32), iv (0 : Int32), rv dr, iv (3 : Int32)] []))
  refine own_st (fun _ k => XS.goto X484.here hx rfl (pc0 := 78) (pc' := 52) rfl (hb hby d2_78) (by decide) (by decide) k) ?_
  show own_Fin p e below G (T484.setTop (mkF m 52 #[rv a1, iv (3 : Int32), iv (0 : Int32), rv dr, iv (3 : Int32)] []))
  refine own_st (fun _ k => XS.iload X484.here hx rfl (hb hby d2_52) rfl  k) ?_
  show own_Fin p e below G (T484.setTop (mkF m 54 #[rv a1, iv (3 : Int32), iv (0 : Int32), rv dr, iv (3 : Int32)] [(.int (3 : Int32))]))
  refine own_st (fun _ k => XS.iloadN X484.here hx rfl (hb hby d2_54) rfl  k) ?_
  show own_Fin p e below G (T484.setTop (mkF m 55 #[rv a1, iv (3 : Int32), iv (0 : Int32), rv dr, iv (3 : Int32)] [(.int (3 : Int32)), (.int (3 : Int32))]))
  refine own_st (fun _ k => XS.icmpYes X484.here hx rfl (pc0 := 55) (pc' := 81) rfl (hb hby d2_55) rfl (flt (by decide : ¬ ((3 : Int32) < (3 : Int32)))).2.1 (by decide) (by decide) k) ?_
  show own_Fin p e below G (T484.setTop (mkF m 81 #[rv a1, iv (3 : Int32), iv (0 : Int32), rv dr, iv (3 : Int32)] []))
  refine own_st (fun _ k => XS.aloadN X484.here hx rfl (hb hby d2_81) rfl rfl k) ?_
  show own_Fin p e below G (T484.setTop (mkF m 82 #[rv a1, iv (3 : Int32), iv (0 : Int32), rv dr, iv (3 : Int32)] [(.ref a1)]))
  refine own_st (fun _ k => XS.iloadN X484.here hx rfl (hb hby d2_82) rfl  k) ?_
  show own_Fin p e below G (T484.setTop (mkF m 83 #[rv a1, iv (3 : Int32), iv (0 : Int32), rv dr, iv (3 : Int32)] [(.int (3 : Int32)), (.ref a1)]))
  obtain ⟨T487, h487, k487, X487, e487, E487, A487, B487, O487, st487⟩ := newRE X484 hx hZ hown (own_w hw 97 rfl) (own_w hw 98 rfl) rfl (g := (mkF m 83 #[rv a1, iv (3 : Int32), iv (0 : Int32), rv dr, iv (3 : Int32)] [(.int (3 : Int32)), (.ref a1)])) rfl (hb hby d2_83) rfl (by decide) (cap := 3) (by decide) (by decide) (by decide) (by decide) (ad := "[Lcom/example/urania/urania/layered/FlowSide;") (by decide +kernel)
  clear X484
  obtain ⟨b487, g487⟩ : ∃ z, z = T484.heap.size := ⟨_, rfl⟩
  rw [← g487] at A487 B487 st487
  have ne_a1_b487 : a1 ≠ b487 := Nat.ne_of_lt (Nat.lt_of_lt_of_le f485_0.lt (Nat.le_of_eq g487.symm))
  have sz_b487 : h0.size ≤ b487 := Nat.le_trans K486.1 (Nat.le_of_eq g487.symm)
  have g_b487 : n0 ≤ b487 := Nat.le_trans Z0 sz_b487
  have f488_0 := f485_0.ext E487
  clear f485_0
  have f488_1 := f485_1.ext E487
  clear f485_1
  have f488_2 := f485_2.ext E487
  clear f485_2
  have f488_3 := f485_3.ext E487
  clear f485_3
  have f488_4 := f485_4.ext E487
  clear f485_4
  have f488_5 := f485_5.ext E487
  clear f485_5
  have f488_6 := f485_6.ext E487
  clear f485_6
  have f488_7 := f485_7.ext E487
  clear f485_7
  have f488_8 := f485_8.ext E487
  clear f485_8
  have f488_9 := f485_9.ext E487
  clear f485_9
  have K489 : Keep h0 h487 [a1] := K486.ext E487
  clear K486 E487
  have V487 : own_AVk Z h487 b487 k487 (.object "com/example/urania/urania/layered/FlowSide") [.null, .null, .null] := own_AVk_new A487
  clear A487
  refine own_st st487 ?_
  clear st487
  show own_Fin p e below G (T487.setTop (mkF m 86 #[rv a1, iv (3 : Int32), iv (0 : Int32), rv dr, iv (3 : Int32)] [(.ref b487), (.ref a1)]))
  obtain ⟨T490, h490, X490, e490, W490, st490⟩ := putF X487 hx hZ hown (host := "") (Or.inl (own_w hw 99 rfl)) Via.refl e487 f488_5 f488_0 (Or.inr ⟨(own_w hw 100 rfl), rfl, hnm⟩) (own_w hw 9 rfl) (ty := (.array (.object "com/example/urania/urania/layered/FlowSide"))) (by decide) rfl rfl (g := (mkF m 86 #[rv a1, iv (3 : Int32), iv (0 : Int32), rv dr, iv (3 : Int32)] [(.ref b487), (.ref a1)])) rfl rfl (hb hby d2_86)
  clear X487 e487
  have f491_0 := f488_0.wr W490
  clear f488_0
  have sl492 := slot_ne (Z := Z) (a0 := a0) (Or.inr (own_w hw 45 rfl)) (Or.inr (own_w hw 100 rfl)) (by decide) (t := (.object "java/util/List")) (t' := (.array (.object "com/example/urania/urania/layered/FlowSide"))) (by decide) (by decide)
  have f491_1 := f488_1.other W490 (Or.inr sl492)
  clear f488_1
  have sl493 := slot_ne (Z := Z) (a0 := a0) (Or.inr (own_w hw 47 rfl)) (Or.inr (own_w hw 100 rfl)) (by decide) (t := (.object "java/util/List")) (t' := (.array (.object "com/example/urania/urania/layered/FlowSide"))) (by decide) (by decide)
  have f491_2 := f488_2.other W490 (Or.inr sl493)
  clear f488_2
  have sl494 := slot_ne (Z := Z) (a0 := a0) (Or.inr (own_w hw 49 rfl)) (Or.inr (own_w hw 100 rfl)) (by decide) (t := (.object "com/example/urania/urania/Direction")) (t' := (.array (.object "com/example/urania/urania/layered/FlowSide"))) (by decide) (by decide)
  have f491_3 := f488_3.other W490 (Or.inr sl494)
  clear f488_3
  have sl495 := slot_ne (Z := Z) (a0 := a0) (Or.inr (own_w hw 53 rfl)) (Or.inr (own_w hw 100 rfl)) (by decide) (t := (.array (.object "com/example/urania/urania/layered/Ports$Freedom"))) (t' := (.array (.object "com/example/urania/urania/layered/FlowSide"))) (by decide) (by decide)
  have f491_4 := f488_4.other W490 (Or.inr sl495)
  clear f488_4
  have sl496 := slot_ne (Z := Z) (a0 := a0) (Or.inr (own_w hw 104 rfl)) (Or.inr (own_w hw 100 rfl)) (by decide) (t := (.array (.array .double))) (t' := (.array (.object "com/example/urania/urania/layered/FlowSide"))) (by decide) (by decide)
  have f491_6 := f488_6.other W490 (Or.inr sl496)
  clear f488_6
  have sl497 := slot_ne (Z := Z) (a0 := a0) (Or.inr (own_w hw 107 rfl)) (Or.inr (own_w hw 100 rfl)) (by decide) (t := (.array .int)) (t' := (.array (.object "com/example/urania/urania/layered/FlowSide"))) (by decide) (by decide)
  have f491_7 := f488_7.other W490 (Or.inr sl497)
  clear f488_7
  have sl498 := slot_ne (Z := Z) (a0 := a0) (Or.inr (own_w hw 109 rfl)) (Or.inr (own_w hw 100 rfl)) (by decide) (t := (.array .int)) (t' := (.array (.object "com/example/urania/urania/layered/FlowSide"))) (by decide) (by decide)
  have f491_8 := f488_8.other W490 (Or.inr sl498)
  clear f488_8
  have sl499 := slot_ne (Z := Z) (a0 := a0) (Or.inr (own_w hw 111 rfl)) (Or.inr (own_w hw 100 rfl)) (by decide) (t := (.array .int)) (t' := (.array (.object "com/example/urania/urania/layered/FlowSide"))) (by decide) (by decide)
  have f491_9 := f488_9.other W490 (Or.inr sl499)
  clear f488_9
  have f491_10 := B487.wr W490
  clear B487
  have f491_11 := V487.other W490 (Ne.symm ne_a1_b487)
  clear V487
  have K500 : Keep h0 h490 [a1] := K489.wr W490 (Or.inl (List.mem_of_getElem? (i := 0) rfl))
  clear K489
  have N501 := Fr.snoc X490 N484 g1
  clear N484
  have Fw490 : Fld Z h490 a1 "com/example/urania/urania/layered/Ports" "border" "[Lcom/example/urania/urania/layered/FlowSide;" (.ref b487) := f488_5.same W490
  clear f488_5 W490
  refine own_st st490 ?_
  clear st490
  show own_Fin p e below G (T490.setTop (mkF m 89 #[rv a1, iv (3 : Int32), iv (0 : Int32), rv dr, iv (3 : Int32)] []))
  refine own_st (fun _ k => XS.aloadN X490.here hx rfl (hb hby d2_89) rfl rfl k) ?_
  show own_Fin p e below G (T490.setTop (mkF m 90 #[rv a1, iv (3 : Int32), iv (0 : Int32), rv dr, iv (3 : Int32)] [(.ref a1)]))
  refine own_st (fun _ k => XS.iloadN X490.here hx rfl (hb hby d2_90) rfl  k) ?_
  show own_Fin p e below G (T490.setTop (mkF m 91 #[rv a1, iv (3 : Int32), iv (0 : Int32), rv dr, iv (3 : Int32)] [(.int (3 : Int32)), (.ref a1)]))
  obtain ⟨T502, h502, k502, X502, e502, E502, A502, B502, O502, st502⟩ := newRA X490 hx hZ hown (ty := .double) (C := "[D") (by decide +kernel) (own_w hw 101 rfl) (own_w hw 102 rfl) e490 (g := (mkF m 91 #[rv a1, iv (3 : Int32), iv (0 : Int32), rv dr, iv (3 : Int32)] [(.int (3 : Int32)), (.ref a1)])) rfl (hb hby d2_91) rfl (by decide) (cap := 3) (by decide) (by decide) (by decide) (by decide) (ad := "[[D") (by decide +kernel)
  clear X490 e490
  obtain ⟨b502, g502⟩ : ∃ z, z = h490.size := ⟨_, rfl⟩
  rw [← g502] at A502 B502 st502
  have ne_a1_b502 : a1 ≠ b502 := Nat.ne_of_lt (Nat.lt_of_lt_of_le f491_0.lt (Nat.le_of_eq g502.symm))
  have ne_b487_b502 : b487 ≠ b502 := Nat.ne_of_lt (Nat.lt_of_lt_of_le f491_10.lt (Nat.le_of_eq g502.symm))
  have sz_b502 : h0.size ≤ b502 := Nat.le_trans K500.1 (Nat.le_of_eq g502.symm)
  have g_b502 : n0 ≤ b502 := Nat.le_trans Z0 sz_b502
  have f503_0 := f491_0.ext E502
  clear f491_0
  have f503_1 := f491_1.ext E502
  clear f491_1
  have f503_2 := f491_2.ext E502
  clear f491_2
  have f503_3 := f491_3.ext E502
  clear f491_3
  have f503_4 := f491_4.ext E502
  clear f491_4
  have f503_5 := Fw490.ext E502
  clear Fw490
  have f503_6 := f491_6.ext E502
  clear f491_6
  have f503_7 := f491_7.ext E502
  clear f491_7
  have f503_8 := f491_8.ext E502
  clear f491_8
  have f503_9 := f491_9.ext E502
  clear f491_9
  have f503_10 := f491_10.ext E502
  clear f491_10
  have f503_11 := f491_11.ext E502
  clear f491_11
  have K504 : Keep h0 h502 [a1] := K500.ext E502
  clear K500 E502
  have V502 : own_AVk Z h502 b502 k502 (.array .double) [.null, .null, .null] := own_AVk_new A502
  clear A502
  refine own_st st502 ?_
  clear st502
  show own_Fin p e below G (T502.setTop (mkF m 94 #[rv a1, iv (3 : Int32), iv (0 : Int32), rv dr, iv (3 : Int32)] [(.ref b502), (.ref a1)]))
  obtain ⟨T505, h505, X505, e505, W505, st505⟩ := putF X502 hx hZ hown (host := "") (Or.inl (own_w hw 103 rfl)) Via.refl e502 f503_6 f503_0 (Or.inr ⟨(own_w hw 104 rfl), rfl, hnm⟩) (own_w hw 9 rfl) (ty := (.array (.array .double))) (by decide) rfl rfl (g := (mkF m 94 #[rv a1, iv (3 : Int32), iv (0 : Int32), rv dr, iv (3 : Int32)] [(.ref b502), (.ref a1)])) rfl rfl (hb hby d2_94)
  clear X502 e502
  have f506_0 := f503_0.wr W505
  clear f503_0
  have sl507 := slot_ne (Z := Z) (a0 := a0) (Or.inr (own_w hw 45 rfl)) (Or.inr (own_w hw 104 rfl)) (by decide) (t := (.object "java/util/List")) (t' := (.array (.array .double))) (by decide) (by decide)
  have f506_1 := f503_1.other W505 (Or.inr sl507)
  clear f503_1
  have sl508 := slot_ne (Z := Z) (a0 := a0) (Or.inr (own_w hw 47 rfl)) (Or.inr (own_w hw 104 rfl)) (by decide) (t := (.object "java/util/List")) (t' := (.array (.array .double))) (by decide) (by decide)
  have f506_2 := f503_2.other W505 (Or.inr sl508)
  clear f503_2
  have sl509 := slot_ne (Z := Z) (a0 := a0) (Or.inr (own_w hw 49 rfl)) (Or.inr (own_w hw 104 rfl)) (by decide) (t := (.object "com/example/urania/urania/Direction")) (t' := (.array (.array .double))) (by decide) (by decide)
  have f506_3 := f503_3.other W505 (Or.inr sl509)
  clear f503_3
  have sl510 := slot_ne (Z := Z) (a0 := a0) (Or.inr (own_w hw 53 rfl)) (Or.inr (own_w hw 104 rfl)) (by decide) (t := (.array (.object "com/example/urania/urania/layered/Ports$Freedom"))) (t' := (.array (.array .double))) (by decide) (by decide)
  have f506_4 := f503_4.other W505 (Or.inr sl510)
  clear f503_4
  have sl511 := slot_ne (Z := Z) (a0 := a0) (Or.inr (own_w hw 100 rfl)) (Or.inr (own_w hw 104 rfl)) (by decide) (t := (.array (.object "com/example/urania/urania/layered/FlowSide"))) (t' := (.array (.array .double))) (by decide) (by decide)
  have f506_5 := f503_5.other W505 (Or.inr sl511)
  clear f503_5
  have sl512 := slot_ne (Z := Z) (a0 := a0) (Or.inr (own_w hw 107 rfl)) (Or.inr (own_w hw 104 rfl)) (by decide) (t := (.array .int)) (t' := (.array (.array .double))) (by decide) (by decide)
  have f506_7 := f503_7.other W505 (Or.inr sl512)
  clear f503_7
  have sl513 := slot_ne (Z := Z) (a0 := a0) (Or.inr (own_w hw 109 rfl)) (Or.inr (own_w hw 104 rfl)) (by decide) (t := (.array .int)) (t' := (.array (.array .double))) (by decide) (by decide)
  have f506_8 := f503_8.other W505 (Or.inr sl513)
  clear f503_8
  have sl514 := slot_ne (Z := Z) (a0 := a0) (Or.inr (own_w hw 111 rfl)) (Or.inr (own_w hw 104 rfl)) (by decide) (t := (.array .int)) (t' := (.array (.array .double))) (by decide) (by decide)
  have f506_9 := f503_9.other W505 (Or.inr sl514)
  clear f503_9
  have f506_10 := f503_10.wr W505
  clear f503_10
  have f506_11 := f503_11.other W505 (Ne.symm ne_a1_b487)
  clear f503_11
  have f506_12 := B502.wr W505
  clear B502
  have f506_13 := V502.other W505 (Ne.symm ne_a1_b502)
  clear V502
  have K515 : Keep h0 h505 [a1] := K504.wr W505 (Or.inl (List.mem_of_getElem? (i := 0) rfl))
  clear K504
  have N516 := Fr.snoc X505 N501 g1
  clear N501
  have Fw505 : Fld Z h505 a1 "com/example/urania/urania/layered/Ports" "borderPort" "[[D" (.ref b502) := f503_6.same W505
  clear f503_6 W505
  refine own_st st505 ?_
  clear st505
  show own_Fin p e below G (T505.setTop (mkF m 97 #[rv a1, iv (3 : Int32), iv (0 : Int32), rv dr, iv (3 : Int32)] []))
  refine own_st (fun _ k => XS.aloadN X505.here hx rfl (hb hby d2_97) rfl rfl k) ?_
  show own_Fin p e below G (T505.setTop (mkF m 98 #[rv a1, iv (3 : Int32), iv (0 : Int32), rv dr, iv (3 : Int32)] [(.ref a1)]))
  refine own_st (fun _ k => XS.iloadN X505.here hx rfl (hb hby d2_98) rfl  k) ?_
  show own_Fin p e below G (T505.setTop (mkF m 99 #[rv a1, iv (3 : Int32), iv (0 : Int32), rv dr, iv (3 : Int32)] [(.int (0 : Int32)), (.ref a1)]))
  obtain ⟨T517, h517, k517, X517, e517, E517, A517, st517⟩ := newP X505 hx hZ (own_w hw 105 rfl) e505 (g := (mkF m 99 #[rv a1, iv (3 : Int32), iv (0 : Int32), rv dr, iv (3 : Int32)] [(.int (0 : Int32)), (.ref a1)])) rfl (hb hby d2_99) rfl (by decide) (cap := 0) (by decide) (by decide) (by decide) (by decide)
  clear X505 e505
  obtain ⟨b517, g517⟩ : ∃ z, z = h505.size := ⟨_, rfl⟩
  rw [← g517] at A517 st517
  have ne_a1_b517 : a1 ≠ b517 := Nat.ne_of_lt (Nat.lt_of_lt_of_le f506_0.lt (Nat.le_of_eq g517.symm))
  have ne_b487_b517 : b487 ≠ b517 := Nat.ne_of_lt (Nat.lt_of_lt_of_le f506_10.lt (Nat.le_of_eq g517.symm))
  have ne_b502_b517 : b502 ≠ b517 := Nat.ne_of_lt (Nat.lt_of_lt_of_le f506_12.lt (Nat.le_of_eq g517.symm))
  have sz_b517 : h0.size ≤ b517 := Nat.le_trans K515.1 (Nat.le_of_eq g517.symm)
  have g_b517 : n0 ≤ b517 := Nat.le_trans Z0 sz_b517
  have f518_0 := f506_0.ext E517
  clear f506_0
  have f518_1 := f506_1.ext E517
  clear f506_1
  have f518_2 := f506_2.ext E517
  clear f506_2
  have f518_3 := f506_3.ext E517
  clear f506_3
  have f518_4 := f506_4.ext E517
  clear f506_4
  have f518_5 := f506_5.ext E517
  clear f506_5
  have f518_6 := Fw505.ext E517
  clear Fw505
  have f518_7 := f506_7.ext E517
  clear f506_7
  have f518_8 := f506_8.ext E517
  clear f506_8
  have f518_9 := f506_9.ext E517
  clear f506_9
  have f518_10 := f506_10.ext E517
  clear f506_10
  have f518_11 := f506_11.ext E517
  clear f506_11
  have f518_12 := f506_12.ext E517
  clear f506_12
  have f518_13 := f506_13.ext E517
  clear f506_13
  have K519 : Keep h0 h517 [a1] := K515.ext E517
  clear K515 E517
  have V517 : own_AV Z h517 b517 .int (own_is []) := own_AV_newI A517
  clear A517
  refine own_st st517 ?_
  clear st517
  show own_Fin p e below G (T517.setTop (mkF m 101 #[rv a1, iv (3 : Int32), iv (0 : Int32), rv dr, iv (3 : Int32)] [(.ref b517), (.ref a1)]))
  obtain ⟨T520, h520, X520, e520, W520, st520⟩ := putF X517 hx hZ hown (host := "") (Or.inl (own_w hw 106 rfl)) Via.refl e517 f518_7 f518_0 (Or.inr ⟨(own_w hw 107 rfl), rfl, hnm⟩) (own_w hw 9 rfl) (ty := (.array .int)) (by decide) rfl rfl (g := (mkF m 101 #[rv a1, iv (3 : Int32), iv (0 : Int32), rv dr, iv (3 : Int32)] [(.ref b517), (.ref a1)])) rfl rfl (hb hby d2_101)
  clear X517 e517
  have f521_0 := f518_0.wr W520
  clear f518_0
  have sl522 := slot_ne (Z := Z) (a0 := a0) (Or.inr (own_w hw 45 rfl)) (Or.inr (own_w hw 107 rfl)) (by decide) (t := (.object "java/util/List")) (t' := (.array .int)) (by decide) (by decide)
  have f521_1 := f518_1.other W520 (Or.inr sl522)
  clear f518_1
  have sl523 := slot_ne (Z := Z) (a0 := a0) (Or.inr (own_w hw 47 rfl)) (Or.inr (own_w hw 107 rfl)) (by decide) (t := (.object "java/util/List")) (t' := (.array .int)) (by decide) (by decide)
  have f521_2 := f518_2.other W520 (Or.inr sl523)
  clear f518_2
  have sl524 := slot_ne (Z := Z) (a0 := a0) (Or.inr (own_w hw 49 rfl)) (Or.inr (own_w hw 107 rfl)) (by decide) (t := (.object "com/example/urania/urania/Direction")) (t' := (.array .int)) (by decide) (by decide)
  have f521_3 := f518_3.other W520 (Or.inr sl524)
  clear f518_3
  have sl525 := slot_ne (Z := Z) (a0 := a0) (Or.inr (own_w hw 53 rfl)) (Or.inr (own_w hw 107 rfl)) (by decide) (t := (.array (.object "com/example/urania/urania/layered/Ports$Freedom"))) (t' := (.array .int)) (by decide) (by decide)
  have f521_4 := f518_4.other W520 (Or.inr sl525)
  clear f518_4
  have sl526 := slot_ne (Z := Z) (a0 := a0) (Or.inr (own_w hw 100 rfl)) (Or.inr (own_w hw 107 rfl)) (by decide) (t := (.array (.object "com/example/urania/urania/layered/FlowSide"))) (t' := (.array .int)) (by decide) (by decide)
  have f521_5 := f518_5.other W520 (Or.inr sl526)
  clear f518_5
  have sl527 := slot_ne (Z := Z) (a0 := a0) (Or.inr (own_w hw 104 rfl)) (Or.inr (own_w hw 107 rfl)) (by decide) (t := (.array (.array .double))) (t' := (.array .int)) (by decide) (by decide)
  have f521_6 := f518_6.other W520 (Or.inr sl527)
  clear f518_6
  have sl528 := slot_ne (Z := Z) (a0 := a0) (Or.inr (own_w hw 109 rfl)) (Or.inr (own_w hw 107 rfl)) (by decide) (t := (.array .int)) (t' := (.array .int)) (by decide) (by decide)
  have f521_8 := f518_8.other W520 (Or.inr sl528)
  clear f518_8
  have sl529 := slot_ne (Z := Z) (a0 := a0) (Or.inr (own_w hw 111 rfl)) (Or.inr (own_w hw 107 rfl)) (by decide) (t := (.array .int)) (t' := (.array .int)) (by decide) (by decide)
  have f521_9 := f518_9.other W520 (Or.inr sl529)
  clear f518_9
  have f521_10 := f518_10.wr W520
  clear f518_10
  have f521_11 := f518_11.other W520 (Ne.symm ne_a1_b487)
  clear f518_11
  have f521_12 := f518_12.wr W520
  clear f518_12
  have f521_13 := f518_13.other W520 (Ne.symm ne_a1_b502)
  clear f518_13
  have f521_14 := V517.other W520 (Ne.symm ne_a1_b517)
  clear V517
  have K530 : Keep h0 h520 [a1] := K519.wr W520 (Or.inl (List.mem_of_getElem? (i := 0) rfl))
  clear K519
  have N531 := Fr.snoc X520 N516 g1
  clear N516
  have Fw520 : Fld Z h520 a1 "com/example/urania/urania/layered/Ports" "sourcePort" "[I" (.ref b517) := f518_7.same W520
  clear f518_7 W520
  refine own_st st520 ?_
  clear st520
  show own_Fin p e below G (T520.setTop (mkF m 104 #[rv a1, iv (3 : Int32), iv (0 : Int32), rv dr, iv (3 : Int32)] []))
  refine own_st (fun _ k => XS.aloadN X520.here hx rfl (hb hby d2_104) rfl rfl k) ?_
  show own_Fin p e below G (T520.setTop (mkF m 105 #[rv a1, iv (3 : Int32), iv (0 : Int32), rv dr, iv (3 : Int32)] [(.ref a1)]))
  refine own_st (fun _ k => XS.iloadN X520.here hx rfl (hb hby d2_105) rfl  k) ?_
  show own_Fin p e below G (T520.setTop (mkF m 106 #[rv a1, iv (3 : Int32), iv (0 : Int32), rv dr, iv (3 : Int32)] [(.int (0 : Int32)), (.ref a1)]))
  obtain ⟨T532, h532, k532, X532, e532, E532, A532, st532⟩ := newP X520 hx hZ (own_w hw 105 rfl) e520 (g := (mkF m 106 #[rv a1, iv (3 : Int32), iv (0 : Int32), rv dr, iv (3 : Int32)] [(.int (0 : Int32)), (.ref a1)])) rfl (hb hby d2_106) rfl (by decide) (cap := 0) (by decide) (by decide) (by decide) (by decide)
  clear X520 e520
  obtain ⟨b532, g532⟩ : ∃ z, z = h520.size := ⟨_, rfl⟩
  rw [← g532] at A532 st532
  have ne_a1_b532 : a1 ≠ b532 := Nat.ne_of_lt (Nat.lt_of_lt_of_le f521_0.lt (Nat.le_of_eq g532.symm))
  have ne_b487_b532 : b487 ≠ b532 := Nat.ne_of_lt (Nat.lt_of_lt_of_le f521_10.lt (Nat.le_of_eq g532.symm))
  have ne_b502_b532 : b502 ≠ b532 := Nat.ne_of_lt (Nat.lt_of_lt_of_le f521_12.lt (Nat.le_of_eq g532.symm))
  have ne_b517_b532 : b517 ≠ b532 := Nat.ne_of_lt (Nat.lt_of_lt_of_le f521_14.lt (Nat.le_of_eq g532.symm))
  have sz_b532 : h0.size ≤ b532 := Nat.le_trans K530.1 (Nat.le_of_eq g532.symm)
  have g_b532 : n0 ≤ b532 := Nat.le_trans Z0 sz_b532
  have f533_0 := f521_0.ext E532
  clear f521_0
  have f533_1 := f521_1.ext E532
  clear f521_1
  have f533_2 := f521_2.ext E532
  clear f521_2
  have f533_3 := f521_3.ext E532
  clear f521_3
  have f533_4 := f521_4.ext E532
  clear f521_4
  have f533_5 := f521_5.ext E532
  clear f521_5
  have f533_6 := f521_6.ext E532
  clear f521_6
  have f533_7 := Fw520.ext E532
  clear Fw520
  have f533_8 := f521_8.ext E532
  clear f521_8
  have f533_9 := f521_9.ext E532
  clear f521_9
  have f533_10 := f521_10.ext E532
  clear f521_10
  have f533_11 := f521_11.ext E532
  clear f521_11
  have f533_12 := f521_12.ext E532
  clear f521_12
  have f533_13 := f521_13.ext E532
  clear f521_13
  have f533_14 := f521_14.ext E532
  clear f521_14
  have K534 : Keep h0 h532 [a1] := K530.ext E532
  clear K530 E532
  have V532 : own_AV Z h532 b532 .int (own_is []) := own_AV_newI A532
  clear A532
  refine own_st st532 ?_
  clear st532
  show own_Fin p e below G (T532.setTop (mkF m 108 #[rv a1, iv (3 : Int32), iv (0 : Int32), rv dr, iv (3 : Int32)] [(.ref b532), (.ref a1)]))
  obtain ⟨T535, h535, X535, e535, W535, st535⟩ := putF X532 hx hZ hown (host := "") (Or.inl (own_w hw 108 rfl)) Via.refl e532 f533_8 f533_0 (Or.inr ⟨(own_w hw 109 rfl), rfl, hnm⟩) (own_w hw 9 rfl) (ty := (.array .int)) (by decide) rfl rfl (g := (mkF m 108 #[rv a1, iv (3 : Int32), iv (0 : Int32), rv dr, iv (3 : Int32)] [(.ref b532), (.ref a1)])) rfl rfl (hb hby d2_108)
  clear X532 e532
  have f536_0 := f533_0.wr W535
  clear f533_0
  have sl537 := slot_ne (Z := Z) (a0 := a0) (Or.inr (own_w hw 45 rfl)) (Or.inr (own_w hw 109 rfl)) (by decide) (t := (.object "java/util/List")) (t' := (.array .int)) (by decide) (by decide)
  have f536_1 := f533_1.other W535 (Or.inr sl537)
  clear f533_1
  have sl538 := slot_ne (Z := Z) (a0 := a0) (Or.inr (own_w hw 47 rfl)) (Or.inr (own_w hw 109 rfl)) (by decide) (t := (.object "java/util/List")) (t' := (.array .int)) (by decide) (by decide)
  have f536_2 := f533_2.other W535 (Or.inr sl538)
  clear f533_2
  have sl539 := slot_ne (Z := Z) (a0 := a0) (Or.inr (own_w hw 49 rfl)) (Or.inr (own_w hw 109 rfl)) (by decide) (t := (.object "com/example/urania/urania/Direction")) (t' := (.array .int)) (by decide) (by decide)
  have f536_3 := f533_3.other W535 (Or.inr sl539)
  clear f533_3
  have sl540 := slot_ne (Z := Z) (a0 := a0) (Or.inr (own_w hw 53 rfl)) (Or.inr (own_w hw 109 rfl)) (by decide) (t := (.array (.object "com/example/urania/urania/layered/Ports$Freedom"))) (t' := (.array .int)) (by decide) (by decide)
  have f536_4 := f533_4.other W535 (Or.inr sl540)
  clear f533_4
  have sl541 := slot_ne (Z := Z) (a0 := a0) (Or.inr (own_w hw 100 rfl)) (Or.inr (own_w hw 109 rfl)) (by decide) (t := (.array (.object "com/example/urania/urania/layered/FlowSide"))) (t' := (.array .int)) (by decide) (by decide)
  have f536_5 := f533_5.other W535 (Or.inr sl541)
  clear f533_5
  have sl542 := slot_ne (Z := Z) (a0 := a0) (Or.inr (own_w hw 104 rfl)) (Or.inr (own_w hw 109 rfl)) (by decide) (t := (.array (.array .double))) (t' := (.array .int)) (by decide) (by decide)
  have f536_6 := f533_6.other W535 (Or.inr sl542)
  clear f533_6
  have sl543 := slot_ne (Z := Z) (a0 := a0) (Or.inr (own_w hw 107 rfl)) (Or.inr (own_w hw 109 rfl)) (by decide) (t := (.array .int)) (t' := (.array .int)) (by decide) (by decide)
  have f536_7 := f533_7.other W535 (Or.inr sl543)
  clear f533_7
  have sl544 := slot_ne (Z := Z) (a0 := a0) (Or.inr (own_w hw 111 rfl)) (Or.inr (own_w hw 109 rfl)) (by decide) (t := (.array .int)) (t' := (.array .int)) (by decide) (by decide)
  have f536_9 := f533_9.other W535 (Or.inr sl544)
  clear f533_9
  have f536_10 := f533_10.wr W535
  clear f533_10
  have f536_11 := f533_11.other W535 (Ne.symm ne_a1_b487)
  clear f533_11
  have f536_12 := f533_12.wr W535
  clear f533_12
  have f536_13 := f533_13.other W535 (Ne.symm ne_a1_b502)
  clear f533_13
  have f536_14 := f533_14.other W535 (Ne.symm ne_a1_b517)
  clear f533_14
  have f536_15 := V532.other W535 (Ne.symm ne_a1_b532)
  clear V532
  have K545 : Keep h0 h535 [a1] := K534.wr W535 (Or.inl (List.mem_of_getElem? (i := 0) rfl))
  clear K534
  have N546 := Fr.snoc X535 N531 g1
  clear N531
  have Fw535 : Fld Z h535 a1 "com/example/urania/urania/layered/Ports" "targetPort" "[I" (.ref b532) := f533_8.same W535
  clear f533_8 W535
  refine own_st st535 ?_
  clear st535
  show own_Fin p e below G (T535.setTop (mkF m 111 #[rv a1, iv (3 : Int32), iv (0 : Int32), rv dr, iv (3 : Int32)] []))
  refine own_st (fun _ k => XS.aloadN X535.here hx rfl (hb hby d2_111) rfl rfl k) ?_
  show own_Fin p e below G (T535.setTop (mkF m 112 #[rv a1, iv (3 : Int32), iv (0 : Int32), rv dr, iv (3 : Int32)] [(.ref a1)]))
  refine own_st (fun _ k => XS.iloadN X535.here hx rfl (hb hby d2_112) rfl  k) ?_
  show own_Fin p e below G (T535.setTop (mkF m 113 #[rv a1, iv (3 : Int32), iv (0 : Int32), rv dr, iv (3 : Int32)] [(.int (0 : Int32)), (.ref a1)]))
  obtain ⟨T547, h547, k547, X547, e547, E547, A547, st547⟩ := newP X535 hx hZ (own_w hw 105 rfl) e535 (g := (mkF m 113 #[rv a1, iv (3 : Int32), iv (0 : Int32), rv dr, iv (3 : Int32)] [(.int (0 : Int32)), (.ref a1)])) rfl (hb hby d2_113) rfl (by decide) (cap := 0) (by decide) (by decide) (by decide) (by decide)
  clear X535 e535
  obtain ⟨b547, g547⟩ : ∃ z, z = h535.size := ⟨_, rfl⟩
  rw [← g547] at A547 st547
  have ne_a1_b547 : a1 ≠ b547 := Nat.ne_of_lt (Nat.lt_of_lt_of_le f536_0.lt (Nat.le_of_eq g547.symm))
  have ne_b487_b547 : b487 ≠ b547 := Nat.ne_of_lt (Nat.lt_of_lt_of_le f536_10.lt (Nat.le_of_eq g547.symm))
  have ne_b502_b547 : b502 ≠ b547 := Nat.ne_of_lt (Nat.lt_of_lt_of_le f536_12.lt (Nat.le_of_eq g547.symm))
  have ne_b517_b547 : b517 ≠ b547 := Nat.ne_of_lt (Nat.lt_of_lt_of_le f536_14.lt (Nat.le_of_eq g547.symm))
  have ne_b532_b547 : b532 ≠ b547 := Nat.ne_of_lt (Nat.lt_of_lt_of_le f536_15.lt (Nat.le_of_eq g547.symm))
  have sz_b547 : h0.size ≤ b547 := Nat.le_trans K545.1 (Nat.le_of_eq g547.symm)
  have g_b547 : n0 ≤ b547 := Nat.le_trans Z0 sz_b547
  have f548_0 := f536_0.ext E547
  clear f536_0
  have f548_1 := f536_1.ext E547
  clear f536_1
  have f548_2 := f536_2.ext E547
  clear f536_2
  have f548_3 := f536_3.ext E547
  clear f536_3
  have f548_4 := f536_4.ext E547
  clear f536_4
  have f548_5 := f536_5.ext E547
  clear f536_5
  have f548_6 := f536_6.ext E547
  clear f536_6
  have f548_7 := f536_7.ext E547
  clear f536_7
  have f548_8 := Fw535.ext E547
  clear Fw535
  have f548_9 := f536_9.ext E547
  clear f536_9
  have f548_10 := f536_10.ext E547
  clear f536_10
  have f548_11 := f536_11.ext E547
  clear f536_11
  have f548_12 := f536_12.ext E547
  clear f536_12
  have f548_13 := f536_13.ext E547
  clear f536_13
  have f548_14 := f536_14.ext E547
  clear f536_14
  have f548_15 := f536_15.ext E547
  clear f536_15
  have K549 : Keep h0 h547 [a1] := K545.ext E547
  clear K545 E547
  have V547 : own_AV Z h547 b547 .int (own_is []) := own_AV_newI A547
  clear A547
  refine own_st st547 ?_
  clear st547
  show own_Fin p e below G (T547.setTop (mkF m 115 #[rv a1, iv (3 : Int32), iv (0 : Int32), rv dr, iv (3 : Int32)] [(.ref b547), (.ref a1)]))
  obtain ⟨T550, h550, X550, e550, W550, st550⟩ := putF X547 hx hZ hown (host := "") (Or.inl (own_w hw 110 rfl)) Via.refl e547 f548_9 f548_0 (Or.inr ⟨(own_w hw 111 rfl), rfl, hnm⟩) (own_w hw 9 rfl) (ty := (.array .int)) (by decide) rfl rfl (g := (mkF m 115 #[rv a1, iv (3 : Int32), iv (0 : Int32), rv dr, iv (3 : Int32)] [(.ref b547), (.ref a1)])) rfl rfl (hb hby d2_115)
  clear X547 e547
  have f551_0 := f548_0.wr W550
  clear f548_0 f551_0
  have sl552 := slot_ne (Z := Z) (a0 := a0) (Or.inr (own_w hw 45 rfl)) (Or.inr (own_w hw 111 rfl)) (by decide) (t := (.object "java/util/List")) (t' := (.array .int)) (by decide) (by decide)
  have f551_1 := f548_1.other W550 (Or.inr sl552)
  clear f548_1 f551_1
  have sl553 := slot_ne (Z := Z) (a0 := a0) (Or.inr (own_w hw 47 rfl)) (Or.inr (own_w hw 111 rfl)) (by decide) (t := (.object "java/util/List")) (t' := (.array .int)) (by decide) (by decide)
  have f551_2 := f548_2.other W550 (Or.inr sl553)
  clear f548_2 f551_2
  have sl554 := slot_ne (Z := Z) (a0 := a0) (Or.inr (own_w hw 49 rfl)) (Or.inr (own_w hw 111 rfl)) (by decide) (t := (.object "com/example/urania/urania/Direction")) (t' := (.array .int)) (by decide) (by decide)
  have f551_3 := f548_3.other W550 (Or.inr sl554)
  clear f548_3 f551_3
  have sl555 := slot_ne (Z := Z) (a0 := a0) (Or.inr (own_w hw 53 rfl)) (Or.inr (own_w hw 111 rfl)) (by decide) (t := (.array (.object "com/example/urania/urania/layered/Ports$Freedom"))) (t' := (.array .int)) (by decide) (by decide)
  have f551_4 := f548_4.other W550 (Or.inr sl555)
  clear f548_4 f551_4
  have sl556 := slot_ne (Z := Z) (a0 := a0) (Or.inr (own_w hw 100 rfl)) (Or.inr (own_w hw 111 rfl)) (by decide) (t := (.array (.object "com/example/urania/urania/layered/FlowSide"))) (t' := (.array .int)) (by decide) (by decide)
  have f551_5 := f548_5.other W550 (Or.inr sl556)
  clear f548_5
  have sl557 := slot_ne (Z := Z) (a0 := a0) (Or.inr (own_w hw 104 rfl)) (Or.inr (own_w hw 111 rfl)) (by decide) (t := (.array (.array .double))) (t' := (.array .int)) (by decide) (by decide)
  have f551_6 := f548_6.other W550 (Or.inr sl557)
  clear f548_6
  have sl558 := slot_ne (Z := Z) (a0 := a0) (Or.inr (own_w hw 107 rfl)) (Or.inr (own_w hw 111 rfl)) (by decide) (t := (.array .int)) (t' := (.array .int)) (by decide) (by decide)
  have f551_7 := f548_7.other W550 (Or.inr sl558)
  clear f548_7
  have sl559 := slot_ne (Z := Z) (a0 := a0) (Or.inr (own_w hw 109 rfl)) (Or.inr (own_w hw 111 rfl)) (by decide) (t := (.array .int)) (t' := (.array .int)) (by decide) (by decide)
  have f551_8 := f548_8.other W550 (Or.inr sl559)
  clear f548_8
  have f551_10 := f548_10.wr W550
  clear f548_10
  have f551_11 := f548_11.other W550 (Ne.symm ne_a1_b487)
  clear f548_11
  have f551_12 := f548_12.wr W550
  clear f548_12 f551_12
  have f551_13 := f548_13.other W550 (Ne.symm ne_a1_b502)
  clear f548_13
  have f551_14 := f548_14.other W550 (Ne.symm ne_a1_b517)
  clear f548_14
  have f551_15 := f548_15.other W550 (Ne.symm ne_a1_b532)
  clear f548_15
  have f551_16 := V547.other W550 (Ne.symm ne_a1_b547)
  clear V547 f551_16
  have K560 : Keep h0 h550 [a1] := K549.wr W550 (Or.inl (List.mem_of_getElem? (i := 0) rfl))
  clear K549
  have N561 := Fr.snoc X550 N546 g1
  clear N546
  have Fw550 : Fld Z h550 a1 "com/example/urania/urania/layered/Ports" "group" "[I" (.ref b547) := f548_9.same W550
  clear f548_9 W550 Fw550
  refine own_st st550 ?_
  clear st550
  show own_Fin p e below G (T550.setTop (mkF m 118 #[rv a1, iv (3 : Int32), iv (0 : Int32), rv dr, iv (3 : Int32)] []))
  refine own_st (fun _ k => XS.aloadN X550.here hx rfl (hb hby d2_118) rfl rfl k) ?_
  show own_Fin p e below G (T550.setTop (mkF m 119 #[rv a1, iv (3 : Int32), iv (0 : Int32), rv dr, iv (3 : Int32)] [(.ref a1)]))
  obtain ⟨T562, X562, e562, st562⟩ := getF X550 hx hZ hown (host := "") (Or.inl (own_w hw 106 rfl)) Via.refl e550 f551_7 (g := (mkF m 119 #[rv a1, iv (3 : Int32), iv (0 : Int32), rv dr, iv (3 : Int32)] [(.ref a1)])) rfl rfl (hb hby d2_119)
  clear X550 e550 f551_7
  refine own_st st562 ?_
  clear st562
  show own_Fin p e below G (T562.setTop (mkF m 122 #[rv a1, iv (3 : Int32), iv (0 : Int32), rv dr, iv (3 : Int32)] [(.ref b517)]))
  refine own_st (fun _ k => XS.iconst X562.here hx rfl (hb hby d2_122) k) ?_
  show own_Fin p e below G (T562.setTop (mkF m 123 #[rv a1, iv (3 : Int32), iv (0 : Int32), rv dr, iv (3 : Int32)] [(.int (-1 : Int32)), (.ref b517)]))
  obtain ⟨_, _, ⟨T563, L563, k563, n563⟩, -, X563, ⟨Lc563, hQ563, l563, y563, z563⟩, st563⟩ := Jvm.LawKit.callS X562 hx (y := own_y5) hown (mvT hZ (own_w hw 112 rfl)) (mvT hZ (own_w hw 113 rfl)) (mvT hZ (own_w hw 59 rfl)) (mvT hZ (own_w hw 114 rfl)) (by decide) (backOf (W := 0) (rm_fi l Z a0 hw [] b517 h550 n0 (Nat.le_trans Z0 K560.1) f551_14) hZ (own_w hw 114 rfl) (own_w hw 59 rfl) (by decide) (by decide)) (g := (mkF m 123 #[rv a1, iv (3 : Int32), iv (0 : Int32), rv dr, iv (3 : Int32)] [(.int (-1 : Int32)), (.ref b517)])) rfl (by rw [hml]; rfl) (argsL := [(.ref b517), (.int (-1 : Int32))]) (rest := []) (lenOf pd___II_V_404 rfl) rfl (by show 2 * 0 + _ ≤ _; exact Nat.le_of_eq rfl) (hb hby d2_123) (fun _ _ => ⟨rfl, e562, (by decide : 12 + 0 ≤ _), (by decide : 34 + 0 ≤ _)⟩)
  clear f551_14 X562 e562
  dsimp only [Pt.U, Pt.locs, Pt.cells, Pt.slots] at X563 l563 y563 z563 st563 hQ563
  subst l563 y563 z563
  obtain ⟨rfl, N563q, e563⟩ := hQ563
  skip
  have N563 := Fr.app N561 N563q
  clear N561 N563q
  refine own_st st563 ?_
  clear st563
  show own_Fin p e below G (T563.setTop (mkF m 126 #[rv a1, iv (3 : Int32), iv (0 : Int32), rv dr, iv (3 : Int32)] []))
  refine own_st (fun _ k => XS.aloadN X563.here hx rfl (hb hby d2_126) rfl rfl k) ?_
  show own_Fin p e below G (T563.setTop (mkF m 127 #[rv a1, iv (3 : Int32), iv (0 : Int32), rv dr, iv (3 : Int32)] [(.ref a1)]))
  obtain ⟨T564, X564, e564, st564⟩ := getF X563 hx hZ hown (host := "") (Or.inl (own_w hw 108 rfl)) Via.refl e563 f551_8 (g := (mkF m 127 #[rv a1, iv (3 : Int32), iv (0 : Int32), rv dr, iv (3 : Int32)] [(.ref a1)])) rfl rfl (hb hby d2_127)
  clear f551_8 X563 e563
  refine own_st st564 ?_
  clear st564
  show own_Fin p e below G (T564.setTop (mkF m 130 #[rv a1, iv (3 : Int32), iv (0 : Int32), rv dr, iv (3 : Int32)] [(.ref b532)]))
  refine own_st (fun _ k => XS.iconst X564.here hx rfl (hb hby d2_130) k) ?_
  show own_Fin p e below G (T564.setTop (mkF m 131 #[rv a1, iv (3 : Int32), iv (0 : Int32), rv dr, iv (3 : Int32)] [(.int (-1 : Int32)), (.ref b532)]))
  obtain ⟨_, _, ⟨T565, L565, k565, n565⟩, -, X565, ⟨Lc565, hQ565, l565, y565, z565⟩, st565⟩ := Jvm.LawKit.callS X564 hx (y := own_y5) hown (mvT hZ (own_w hw 112 rfl)) (mvT hZ (own_w hw 113 rfl)) (mvT hZ (own_w hw 59 rfl)) (mvT hZ (own_w hw 114 rfl)) (by decide) (backOf (W := 0) (rm_fi l Z a0 hw [] b532 h550 n0 (Nat.le_trans Z0 K560.1) f551_15) hZ (own_w hw 114 rfl) (own_w hw 59 rfl) (by decide) (by decide)) (g := (mkF m 131 #[rv a1, iv (3 : Int32), iv (0 : Int32), rv dr, iv (3 : Int32)] [(.int (-1 : Int32)), (.ref b532)])) rfl (by rw [hml]; rfl) (argsL := [(.ref b532), (.int (-1 : Int32))]) (rest := []) (lenOf pd___II_V_404 rfl) rfl (by show 2 * 0 + _ ≤ _; exact Nat.le_of_eq rfl) (hb hby d2_131) (fun _ _ => ⟨rfl, e564, (by decide : 12 + 0 ≤ _), (by decide : 34 + 0 ≤ _)⟩)
  clear f551_15 X564 e564
  dsimp only [Pt.U, Pt.locs, Pt.cells, Pt.slots] at X565 l565 y565 z565 st565 hQ565
  subst l565 y565 z565
  obtain ⟨rfl, N565q, e565⟩ := hQ565
  skip
  have N565 := Fr.app N563 N565q
  clear N563 N565q
  refine own_st st565 ?_
  clear st565
  show own_Fin p e below G (T565.setTop (mkF m 134 #[rv a1, iv (3 : Int32), iv (0 : Int32), rv dr, iv (3 : Int32)] []))
  refine own_st (fun _ k => XS.iconst X565.here hx rfl (hb hby d2_134) k) ?_
  show own_Fin p e below G (T565.setTop (mkF m 135 #[rv a1, iv (3 : Int32), iv (0 : Int32), rv dr, iv (3 : Int32)] [(.int (0 : Int32))]))
  refine own_st (fun _ k => XS.istore X565.here hx rfl (hb hby d2_135) rfl (l' := #[rv a1, iv (3 : Int32), iv (0 : Int32), rv dr, iv (0 : Int32)]) rfl k) ?_
  show own_Fin p e below G (T565.setTop (mkF m 137 #[rv a1, iv (3 : Int32), iv (0 : Int32), rv dr, iv (0 : Int32)] []))
  refine own_st (fun _ k => XS.iload X565.here hx rfl (hb hby d2_137) rfl  k) ?_
  show own_Fin p e below G (T565.setTop (mkF m 139 #[rv a1, iv (3 : Int32), iv (0 : Int32), rv dr, iv (0 : Int32)] [(.int (0 : Int32))]))
  refine own_st (fun _ k => XS.iloadN X565.here hx rfl (hb hby d2_139) rfl  k) ?_
  show own_Fin p e below G (T565.setTop (mkF m 140 #[rv a1, iv (3 : Int32), iv (0 : Int32), rv dr, iv (0 : Int32)] [(.int (0 : Int32)), (.int (0 : Int32))]))
  refine own_st (fun _ k => XS.icmpYes X565.here hx rfl (pc0 := 140) (pc' := 158) rfl (hb hby d2_140) rfl (flt (by decide : ¬ ((0 : Int32) < (0 : Int32)))).2.1 (by decide) (by decide) k) ?_
  show own_Fin p e below G (T565.setTop (mkF m 158 #[rv a1, iv (3 : Int32), iv (0 : Int32), rv dr, iv (0 : Int32)] []))
  refine own_out X565 Bd.notSynchronized (v := none) (fun _ => rfl) hG (fun fs hr => X565.returnOut hx Bd.returns (hb hby d2_158) hr) (by decide) (by decide) ?_
  exact ⟨b487, k487, b502, k502, rfl, N565, e565.symm ▸ K560, sz_b487, sz_b502, ne_b487_b502, e565.symm ▸ f551_5, e565.symm ▸ f551_6, e565.symm ▸ f551_11, e565.symm ▸ f551_10, O487, e565.symm ▸ f551_13, O502⟩

set_option maxRecDepth 65536 in
set_option maxHeartbeats 40000000 in
theorem rm_po2 (l : Launch) (Z : State) (a0 : Array Value) (hw : ∀ d ∈ tables_1, d.before a0 Z = true) (ws : List Jvm.Cond) (a1 : Addr) (dr : Addr) (ed : Addr) (ke : ClassId) (fr : Addr) (h0 : Heap) (n0 : Nat) (Z0 : n0 ≤ h0.size) (E1 : Exa Z h0 a1 "com/example/urania/urania/layered/Ports") (F_ofNode : Fld Z h0 a1 "com/example/urania/urania/layered/Ports" "ofNode" "Ljava/util/List;" .null) (F_specs : Fld Z h0 a1 "com/example/urania/urania/layered/Ports" "specs" "Ljava/util/List;" .null) (F_direction : Fld Z h0 a1 "com/example/urania/urania/layered/Ports" "direction" "Lcom/example/urania/urania/Direction;" .null) (F_freedom : Fld Z h0 a1 "com/example/urania/urania/layered/Ports" "freedom" "[Lcom/example/urania/urania/layered/Ports$Freedom;" .null) (F_border : Fld Z h0 a1 "com/example/urania/urania/layered/Ports" "border" "[Lcom/example/urania/urania/layered/FlowSide;" .null) (F_borderPort : Fld Z h0 a1 "com/example/urania/urania/layered/Ports" "borderPort" "[[D" .null) (F_sourcePort : Fld Z h0 a1 "com/example/urania/urania/layered/Ports" "sourcePort" "[I" .null) (F_targetPort : Fld Z h0 a1 "com/example/urania/urania/layered/Ports" "targetPort" "[I" .null) (F_group : Fld Z h0 a1 "com/example/urania/urania/layered/Ports" "group" "[I" .null) (g1 : n0 ≤ a1) (Sed : Sta Z h0 "java/util/ArrayList" "DEFAULTCAPACITY_EMPTY_ELEMENTDATA" "[Ljava/lang/Object;" (.ref ed)) (Bed : own_AVk Z h0 ed ke (.object "java/lang/Object") []) (ned : ed ≠ a1) (Sfr : Sta Z h0 "com/example/urania/urania/layered/Ports$Freedom" "FREE" "Lcom/example/urania/urania/layered/Ports$Freedom;" (.ref fr)) (Efr : Exa Z h0 fr "com/example/urania/urania/layered/Ports$Freedom") :
    MetFree l own_y11 (head1 (Jvm.Cond.code own_y11 prog_81_method_1_code 5 none :: ws) ({ frames := 5, cells := 13, slots := 40, locals := 69 } : Room)) (fun a U => a = #[(.ref a1), (.int (2 : Int32)), (.int (0 : Int32)), (.ref dr)] ∧ Z.Warmed39 U.vm ∧ U.heap = h0) (fun _ _ _ _ _ => True) (fun _ U o U' => ∃ v L, o = .returned v ∧ Qrm_po Z a1 (2 : Int32) dr ed ke fr h0 n0 v U'.heap L ∧ FrameEnd U o U' L ({ frames := 5, cells := 13, slots := 40, locals := 69 } : Room).cells ({ frames := 5, cells := 13, slots := 40, locals := 69 } : Room).slots) := by
  refine MetFree.of_bodySF (plainFor_of_name pn_com_example_urania_urania_layered_Ports) hisR ?_
  intro p e s m args below meth c s₁ Bd hml0 hP hK
  obtain ⟨rfl, hZ, hh⟩ := hP
  have hx := Bd.exec
  have hby := Bd.bytes
  have hml : c.maxLocals = 5 := hml0
  have hown : s.vm.findClass "com/example/urania/urania/layered/Ports" = some m.cls := findClass_of_methodNamed Bd.named
  have hnm := (name_of_methodNamed Bd.named Bd.method).1
  have X0 : Stand p l e ({ frames := 5, cells := 13, slots := 40, locals := 69 } : Room) s m #[(.ref a1), (.int (2 : Int32)), (.int (0 : Int32)), (.ref dr)] below meth c s₁ [] 0 0 := Stand.of_body Bd
  have e0 : s₁.heap = h0 := by rw [← hh, Bd.state]; rfl
  have N0 := Fr.nil n0
  have K0 : Keep h0 h0 [a1] := Keep.refl _ _
  refine own_start (Qk := Qrm_po Z a1 (2 : Int32) dr ed ke fr h0 n0) (fun G hG => ?_)
  refine own_st (fun _ k => castTop (ef_2_RIIR m a1 (2 : Int32) (0 : Int32) dr) k) ?_
  show own_Fin p e below G (s₁.setTop (mkF m 0 #[rv a1, iv (2 : Int32), iv (0 : Int32), rv dr, .unset] []))
  refine own_st (fun _ k => XS.aloadN X0.here hx rfl (hb hby d2_0) rfl rfl k) ?_
  show own_Fin p e below G (s₁.setTop (mkF m 1 #[rv a1, iv (2 : Int32), iv (0 : Int32), rv dr, .unset] [(.ref a1)]))
  obtain ⟨T566, X566, e566, st566⟩ := initO X0 hx hZ hown (own_w hw 17 rfl) (own_w hw 18 rfl) (own_w hw 19 rfl) e0 (g := (mkF m 1 #[rv a1, iv (2 : Int32), iv (0 : Int32), rv dr, .unset] [(.ref a1)])) rfl (by rw [hml]; rfl) rfl (hb hby d2_1) (by decide) (W := 0) (by show 2 * 0 + _ ≤ _; exact Nat.le_of_eq rfl) (by decide)
  clear X0 e0
  refine own_st st566 ?_
  clear st566
  show own_Fin p e below G (T566.setTop (mkF m 4 #[rv a1, iv (2 : Int32), iv (0 : Int32), rv dr, .unset] []))
  refine own_st (fun _ k => XS.aloadN X566.here hx rfl (hb hby d2_4) rfl rfl k) ?_
  show own_Fin p e below G (T566.setTop (mkF m 5 #[rv a1, iv (2 : Int32), iv (0 : Int32), rv dr, .unset] [(.ref a1)]))
  obtain ⟨T567, h567, X567, e567, E567, A567, D567, M567, st567⟩ := newO X566 hx hZ hown (own_w hw 20 rfl) (own_w hw 21 rfl) (own_w hw 22 rfl) e566 (g := (mkF m 5 #[rv a1, iv (2 : Int32), iv (0 : Int32), rv dr, .unset] [(.ref a1)])) rfl (hb hby d2_5) (by decide) (by decide)
  clear X566 e566 M567
  obtain ⟨b567, g567⟩ : ∃ z, z = h0.size := ⟨_, rfl⟩
  rw [← g567] at A567 D567 st567
  have ne_a1_b567 : a1 ≠ b567 := Nat.ne_of_lt (Nat.lt_of_lt_of_le E1.lt (Nat.le_of_eq g567.symm))
  have ne_ed_b567 : ed ≠ b567 := Nat.ne_of_lt (Nat.lt_of_lt_of_le Bed.lt (Nat.le_of_eq g567.symm))
  have ne_fr_b567 : fr ≠ b567 := Nat.ne_of_lt (Nat.lt_of_lt_of_le Efr.lt (Nat.le_of_eq g567.symm))
  have sz_b567 : h0.size ≤ b567 := Nat.le_trans K0.1 (Nat.le_of_eq g567.symm)
  have g_b567 : n0 ≤ b567 := Nat.le_trans Z0 sz_b567
  have f568_0 := E1.ext E567
  clear E1
  have f568_1 := F_ofNode.ext E567
  have f568_2 := F_specs.ext E567
  have f568_3 := F_direction.ext E567
  have f568_4 := F_freedom.ext E567
  have f568_5 := F_border.ext E567
  have f568_6 := F_borderPort.ext E567
  have f568_7 := F_sourcePort.ext E567
  have f568_8 := F_targetPort.ext E567
  have f568_9 := F_group.ext E567
  have f568_10 := Sed.ext E567
  have f568_11 := Bed.ext E567
  have f568_12 := Sfr.ext E567
  have f568_13 := Efr.ext E567
  have K569 : Keep h0 h567 [a1] := K0.ext E567
  clear K0 E567
  have f570 : Fld Z h567 b567 "java/util/AbstractList" "modCount" "I" (.int (0 : Int32)) := D567 (Or.inl (own_w hw 40 rfl)) (ty := .int) (by decide)
  have f571 : Fld Z h567 b567 "java/util/ArrayList" "elementData" "[Ljava/lang/Object;" .null := D567 (Or.inl (own_w hw 43 rfl)) (ty := (.array (.object "java/lang/Object"))) (by decide)
  have f572 : Fld Z h567 b567 "java/util/ArrayList" "size" "I" (.int (0 : Int32)) := D567 (Or.inl (own_w hw 74 rfl)) (ty := .int) (by decide)
  clear D567
  refine own_st st567 ?_
  clear st567
  show own_Fin p e below G (T567.setTop (mkF m 8 #[rv a1, iv (2 : Int32), iv (0 : Int32), rv dr, .unset] [(.ref b567), (.ref a1)]))
  refine own_st (fun _ k => XS.dup X567.here hx rfl (hb hby d2_8) rfl rfl k) ?_
  show own_Fin p e below G (T567.setTop (mkF m 9 #[rv a1, iv (2 : Int32), iv (0 : Int32), rv dr, .unset] [(.ref b567), (.ref b567), (.ref a1)]))
  obtain ⟨_, _, ⟨T573, L573, k573, n573⟩, -, X573, ⟨Lc573, hQ573, l573, y573, z573⟩, st573⟩ := X567.specialBack hx (y := own_y3) rfl hown (mvT hZ (own_w hw 23 rfl)) (mvT hZ (own_w hw 24 rfl)) (mvT hZ (own_w hw 25 rfl)) (by decide) (backOf (W := 2) (rm_al l Z a0 hw [] b567 ed h567 n0 (Nat.le_trans Z0 K569.1) A567 f570 f571 f572 g_b567 f568_10) hZ (own_w hw 25 rfl) (own_w hw 22 rfl) (by decide) (by decide)) (g := (mkF m 9 #[rv a1, iv (2 : Int32), iv (0 : Int32), rv dr, .unset] [(.ref b567), (.ref b567), (.ref a1)])) rfl (by rw [hml]; rfl) (Steps.refl _) (a := b567) (argsL := []) (rest := [(.ref b567), (.ref a1)]) (lenOf pd___V_167 rfl) rfl (by show 2 * 0 + _ ≤ _; exact Nat.le_of_eq rfl) (hb hby d2_9) (fun _ _ => ⟨rfl, e567, (by decide : 1 + 0 ≤ _), (by decide : 3 + 0 ≤ _)⟩)
  clear X567 e567 f570 f571 f572
  dsimp only [Pt.U, Pt.locs, Pt.cells, Pt.slots] at X573 l573 y573 z573 st573 hQ573
  subst l573 y573 z573
  obtain ⟨rfl, N573q, Kc573, gL573_0, gL573_1, gL573_2⟩ := hQ573
  have N573 := Fr.app N0 N573q
  clear N0 N573q
  have f574_0 := f568_0.keep Kc573
  clear f568_0
  have f574_1 := f568_1.keep Kc573 (ninS ne_a1_b567 nin0)
  clear f568_1
  have f574_2 := f568_2.keep Kc573 (ninS ne_a1_b567 nin0)
  clear f568_2
  have f574_3 := f568_3.keep Kc573 (ninS ne_a1_b567 nin0)
  clear f568_3
  have f574_4 := f568_4.keep Kc573 (ninS ne_a1_b567 nin0)
  clear f568_4
  have f574_5 := f568_5.keep Kc573 (ninS ne_a1_b567 nin0)
  clear f568_5
  have f574_6 := f568_6.keep Kc573 (ninS ne_a1_b567 nin0)
  clear f568_6
  have f574_7 := f568_7.keep Kc573 (ninS ne_a1_b567 nin0)
  clear f568_7
  have f574_8 := f568_8.keep Kc573 (ninS ne_a1_b567 nin0)
  clear f568_8
  have f574_9 := f568_9.keep Kc573 (ninS ne_a1_b567 nin0)
  clear f568_9
  have f574_10 := own_Sta_keep f568_10 Kc573 (allS A567.cell all0)
  clear f568_10
  have f574_11 := f568_11.keep Kc573 (ninS ne_ed_b567 nin0)
  clear f568_11
  have f574_12 := own_Sta_keep f568_12 Kc573 (allS A567.cell all0)
  clear f568_12
  have f574_13 := f568_13.keep Kc573
  clear f568_13
  have f574_14 := A567.keep Kc573
  clear A567
  have K575 : Keep h0 T573.heap [a1] := K569.trans Kc573 (allS (Or.inr sz_b567) all0)
  clear K569 Kc573
  refine own_tr st573 ?_
  clear st573
  show own_Fin p e below G (T573.setTop (mkF m 12 #[rv a1, iv (2 : Int32), iv (0 : Int32), rv dr, .unset] [(.ref b567), (.ref a1)]))
  obtain ⟨T576, h576, X576, e576, W576, st576⟩ := putF X573 hx hZ hown (host := "") (Or.inl (own_w hw 44 rfl)) Via.refl rfl f574_1 f574_0 (Or.inr ⟨(own_w hw 45 rfl), rfl, hnm⟩) (own_w hw 9 rfl) (ty := (.object "java/util/List")) (by decide) rfl rfl (g := (mkF m 12 #[rv a1, iv (2 : Int32), iv (0 : Int32), rv dr, .unset] [(.ref b567), (.ref a1)])) rfl rfl (hb hby d2_12)
  clear X573
  have f577_0 := f574_0.wr W576
  clear f574_0
  have sl578 := slot_ne (Z := Z) (a0 := a0) (Or.inr (own_w hw 47 rfl)) (Or.inr (own_w hw 45 rfl)) (by decide) (t := (.object "java/util/List")) (t' := (.object "java/util/List")) (by decide) (by decide)
  have f577_2 := f574_2.other W576 (Or.inr sl578)
  clear f574_2
  have sl579 := slot_ne (Z := Z) (a0 := a0) (Or.inr (own_w hw 49 rfl)) (Or.inr (own_w hw 45 rfl)) (by decide) (t := (.object "com/example/urania/urania/Direction")) (t' := (.object "java/util/List")) (by decide) (by decide)
  have f577_3 := f574_3.other W576 (Or.inr sl579)
  clear f574_3
  have sl580 := slot_ne (Z := Z) (a0 := a0) (Or.inr (own_w hw 53 rfl)) (Or.inr (own_w hw 45 rfl)) (by decide) (t := (.array (.object "com/example/urania/urania/layered/Ports$Freedom"))) (t' := (.object "java/util/List")) (by decide) (by decide)
  have f577_4 := f574_4.other W576 (Or.inr sl580)
  clear f574_4
  have sl581 := slot_ne (Z := Z) (a0 := a0) (Or.inr (own_w hw 100 rfl)) (Or.inr (own_w hw 45 rfl)) (by decide) (t := (.array (.object "com/example/urania/urania/layered/FlowSide"))) (t' := (.object "java/util/List")) (by decide) (by decide)
  have f577_5 := f574_5.other W576 (Or.inr sl581)
  clear f574_5
  have sl582 := slot_ne (Z := Z) (a0 := a0) (Or.inr (own_w hw 104 rfl)) (Or.inr (own_w hw 45 rfl)) (by decide) (t := (.array (.array .double))) (t' := (.object "java/util/List")) (by decide) (by decide)
  have f577_6 := f574_6.other W576 (Or.inr sl582)
  clear f574_6
  have sl583 := slot_ne (Z := Z) (a0 := a0) (Or.inr (own_w hw 107 rfl)) (Or.inr (own_w hw 45 rfl)) (by decide) (t := (.array .int)) (t' := (.object "java/util/List")) (by decide) (by decide)
  have f577_7 := f574_7.other W576 (Or.inr sl583)
  clear f574_7
  have sl584 := slot_ne (Z := Z) (a0 := a0) (Or.inr (own_w hw 109 rfl)) (Or.inr (own_w hw 45 rfl)) (by decide) (t := (.array .int)) (t' := (.object "java/util/List")) (by decide) (by decide)
  have f577_8 := f574_8.other W576 (Or.inr sl584)
  clear f574_8
  have sl585 := slot_ne (Z := Z) (a0 := a0) (Or.inr (own_w hw 111 rfl)) (Or.inr (own_w hw 45 rfl)) (by decide) (t := (.array .int)) (t' := (.object "java/util/List")) (by decide) (by decide)
  have f577_9 := f574_9.other W576 (Or.inr sl585)
  clear f574_9
  have f577_10 := f574_10.wr W576
  clear f574_10
  have f577_11 := f574_11.other W576 ned
  clear f574_11
  have f577_12 := f574_12.wr W576
  clear f574_12
  have f577_13 := f574_13.wr W576
  clear f574_13
  have f577_14 := f574_14.wr W576
  clear f574_14
  have f577_15 := gL573_0.other W576 (Or.inl (Ne.symm ne_a1_b567))
  have f577_16 := gL573_1.other W576 (Or.inl (Ne.symm ne_a1_b567))
  have f577_17 := gL573_2.other W576 (Or.inl (Ne.symm ne_a1_b567))
  have K586 : Keep h0 h576 [a1] := K575.wr W576 (Or.inl (List.mem_of_getElem? (i := 0) rfl))
  clear K575
  have N587 := Fr.snoc X576 N573 g1
  clear N573
  have Fw576 : Fld Z h576 a1 "com/example/urania/urania/layered/Ports" "ofNode" "Ljava/util/List;" (.ref b567) := f574_1.same W576
  clear f574_1 W576
  refine own_st st576 ?_
  clear st576
  show own_Fin p e below G (T576.setTop (mkF m 15 #[rv a1, iv (2 : Int32), iv (0 : Int32), rv dr, .unset] []))
  refine own_st (fun _ k => XS.aloadN X576.here hx rfl (hb hby d2_15) rfl rfl k) ?_
  show own_Fin p e below G (T576.setTop (mkF m 16 #[rv a1, iv (2 : Int32), iv (0 : Int32), rv dr, .unset] [(.ref a1)]))
  obtain ⟨T588, h588, X588, e588, E588, A588, D588, M588, st588⟩ := newO X576 hx hZ hown (own_w hw 20 rfl) (own_w hw 21 rfl) (own_w hw 22 rfl) e576 (g := (mkF m 16 #[rv a1, iv (2 : Int32), iv (0 : Int32), rv dr, .unset] [(.ref a1)])) rfl (hb hby d2_16) (by decide) (by decide)
  clear X576 e576 M588
  obtain ⟨b588, g588⟩ : ∃ z, z = h576.size := ⟨_, rfl⟩
  rw [← g588] at A588 D588 st588
  have ne_a1_b588 : a1 ≠ b588 := Nat.ne_of_lt (Nat.lt_of_lt_of_le f577_0.lt (Nat.le_of_eq g588.symm))
  have ne_b567_b588 : b567 ≠ b588 := Nat.ne_of_lt (Nat.lt_of_lt_of_le f577_14.lt (Nat.le_of_eq g588.symm))
  have ne_ed_b588 : ed ≠ b588 := Nat.ne_of_lt (Nat.lt_of_lt_of_le f577_11.lt (Nat.le_of_eq g588.symm))
  have ne_fr_b588 : fr ≠ b588 := Nat.ne_of_lt (Nat.lt_of_lt_of_le f577_13.lt (Nat.le_of_eq g588.symm))
  have sz_b588 : h0.size ≤ b588 := Nat.le_trans K586.1 (Nat.le_of_eq g588.symm)
  have g_b588 : n0 ≤ b588 := Nat.le_trans Z0 sz_b588
  have f589_0 := f577_0.ext E588
  clear f577_0
  have f589_1 := Fw576.ext E588
  clear Fw576
  have f589_2 := f577_2.ext E588
  clear f577_2
  have f589_3 := f577_3.ext E588
  clear f577_3
  have f589_4 := f577_4.ext E588
  clear f577_4
  have f589_5 := f577_5.ext E588
  clear f577_5
  have f589_6 := f577_6.ext E588
  clear f577_6
  have f589_7 := f577_7.ext E588
  clear f577_7
  have f589_8 := f577_8.ext E588
  clear f577_8
  have f589_9 := f577_9.ext E588
  clear f577_9
  have f589_10 := f577_10.ext E588
  clear f577_10
  have f589_11 := f577_11.ext E588
  clear f577_11
  have f589_12 := f577_12.ext E588
  clear f577_12
  have f589_13 := f577_13.ext E588
  clear f577_13
  have f589_14 := f577_14.ext E588
  clear f577_14
  have f589_15 := f577_15.ext E588
  clear f577_15
  have f589_16 := f577_16.ext E588
  clear f577_16
  have f589_17 := f577_17.ext E588
  clear f577_17
  have K590 : Keep h0 h588 [a1] := K586.ext E588
  clear K586 E588
  have f591 : Fld Z h588 b588 "java/util/AbstractList" "modCount" "I" (.int (0 : Int32)) := D588 (Or.inl (own_w hw 40 rfl)) (ty := .int) (by decide)
  have f592 : Fld Z h588 b588 "java/util/ArrayList" "elementData" "[Ljava/lang/Object;" .null := D588 (Or.inl (own_w hw 43 rfl)) (ty := (.array (.object "java/lang/Object"))) (by decide)
  have f593 : Fld Z h588 b588 "java/util/ArrayList" "size" "I" (.int (0 : Int32)) := D588 (Or.inl (own_w hw 74 rfl)) (ty := .int) (by decide)
  clear D588
  refine own_st st588 ?_
  clear st588
  show own_Fin p e below G (T588.setTop (mkF m 19 #[rv a1, iv (2 : Int32), iv (0 : Int32), rv dr, .unset] [(.ref b588), (.ref a1)]))
  refine own_st (fun _ k => XS.dup X588.here hx rfl (hb hby d2_19) rfl rfl k) ?_
  show own_Fin p e below G (T588.setTop (mkF m 20 #[rv a1, iv (2 : Int32), iv (0 : Int32), rv dr, .unset] [(.ref b588), (.ref b588), (.ref a1)]))
  obtain ⟨_, _, ⟨T594, L594, k594, n594⟩, -, X594, ⟨Lc594, hQ594, l594, y594, z594⟩, st594⟩ := X588.specialBack hx (y := own_y3) rfl hown (mvT hZ (own_w hw 23 rfl)) (mvT hZ (own_w hw 24 rfl)) (mvT hZ (own_w hw 25 rfl)) (by decide) (backOf (W := 2) (rm_al l Z a0 hw [] b588 ed h588 n0 (Nat.le_trans Z0 K590.1) A588 f591 f592 f593 g_b588 f589_10) hZ (own_w hw 25 rfl) (own_w hw 22 rfl) (by decide) (by decide)) (g := (mkF m 20 #[rv a1, iv (2 : Int32), iv (0 : Int32), rv dr, .unset] [(.ref b588), (.ref b588), (.ref a1)])) rfl (by rw [hml]; rfl) (Steps.refl _) (a := b588) (argsL := []) (rest := [(.ref b588), (.ref a1)]) (lenOf pd___V_167 rfl) rfl (by show 2 * 0 + _ ≤ _; exact Nat.le_of_eq rfl) (hb hby d2_20) (fun _ _ => ⟨rfl, e588, (by decide : 2 + 0 ≤ _), (by decide : 6 + 0 ≤ _)⟩)
  clear X588 e588 f591 f592 f593
  dsimp only [Pt.U, Pt.locs, Pt.cells, Pt.slots] at X594 l594 y594 z594 st594 hQ594
  subst l594 y594 z594
  obtain ⟨rfl, N594q, Kc594, gL594_0, gL594_1, gL594_2⟩ := hQ594
  have N594 := Fr.app N587 N594q
  clear N587 N594q
  have f595_0 := f589_0.keep Kc594
  clear f589_0
  have f595_1 := f589_1.keep Kc594 (ninS ne_a1_b588 nin0)
  clear f589_1
  have f595_2 := f589_2.keep Kc594 (ninS ne_a1_b588 nin0)
  clear f589_2
  have f595_3 := f589_3.keep Kc594 (ninS ne_a1_b588 nin0)
  clear f589_3
  have f595_4 := f589_4.keep Kc594 (ninS ne_a1_b588 nin0)
  clear f589_4
  have f595_5 := f589_5.keep Kc594 (ninS ne_a1_b588 nin0)
  clear f589_5
  have f595_6 := f589_6.keep Kc594 (ninS ne_a1_b588 nin0)
  clear f589_6
  have f595_7 := f589_7.keep Kc594 (ninS ne_a1_b588 nin0)
  clear f589_7
  have f595_8 := f589_8.keep Kc594 (ninS ne_a1_b588 nin0)
  clear f589_8
  have f595_9 := f589_9.keep Kc594 (ninS ne_a1_b588 nin0)
  clear f589_9
  have f595_10 := own_Sta_keep f589_10 Kc594 (allS A588.cell all0)
  clear f589_10
  have f595_11 := f589_11.keep Kc594 (ninS ne_ed_b588 nin0)
  clear f589_11
  have f595_12 := own_Sta_keep f589_12 Kc594 (allS A588.cell all0)
  clear f589_12
  have f595_13 := f589_13.keep Kc594
  clear f589_13
  have f595_14 := f589_14.keep Kc594
  clear f589_14
  have f595_15 := f589_15.keep Kc594 (ninS ne_b567_b588 nin0)
  clear f589_15
  have f595_16 := f589_16.keep Kc594 (ninS ne_b567_b588 nin0)
  clear f589_16
  have f595_17 := f589_17.keep Kc594 (ninS ne_b567_b588 nin0)
  clear f589_17
  have f595_18 := A588.keep Kc594
  clear A588
  have K596 : Keep h0 T594.heap [a1] := K590.trans Kc594 (allS (Or.inr sz_b588) all0)
  clear K590 Kc594
  refine own_tr st594 ?_
  clear st594
  show own_Fin p e below G (T594.setTop (mkF m 23 #[rv a1, iv (2 : Int32), iv (0 : Int32), rv dr, .unset] [(.ref b588), (.ref a1)]))
  obtain ⟨T597, h597, X597, e597, W597, st597⟩ := putF X594 hx hZ hown (host := "") (Or.inl (own_w hw 46 rfl)) Via.refl rfl f595_2 f595_0 (Or.inr ⟨(own_w hw 47 rfl), rfl, hnm⟩) (own_w hw 9 rfl) (ty := (.object "java/util/List")) (by decide) rfl rfl (g := (mkF m 23 #[rv a1, iv (2 : Int32), iv (0 : Int32), rv dr, .unset] [(.ref b588), (.ref a1)])) rfl rfl (hb hby d2_23)
  clear X594
  have f598_0 := f595_0.wr W597
  clear f595_0
  have sl599 := slot_ne (Z := Z) (a0 := a0) (Or.inr (own_w hw 45 rfl)) (Or.inr (own_w hw 47 rfl)) (by decide) (t := (.object "java/util/List")) (t' := (.object "java/util/List")) (by decide) (by decide)
  have f598_1 := f595_1.other W597 (Or.inr sl599)
  clear f595_1
  have sl600 := slot_ne (Z := Z) (a0 := a0) (Or.inr (own_w hw 49 rfl)) (Or.inr (own_w hw 47 rfl)) (by decide) (t := (.object "com/example/urania/urania/Direction")) (t' := (.object "java/util/List")) (by decide) (by decide)
  have f598_3 := f595_3.other W597 (Or.inr sl600)
  clear f595_3
  have sl601 := slot_ne (Z := Z) (a0 := a0) (Or.inr (own_w hw 53 rfl)) (Or.inr (own_w hw 47 rfl)) (by decide) (t := (.array (.object "com/example/urania/urania/layered/Ports$Freedom"))) (t' := (.object "java/util/List")) (by decide) (by decide)
  have f598_4 := f595_4.other W597 (Or.inr sl601)
  clear f595_4
  have sl602 := slot_ne (Z := Z) (a0 := a0) (Or.inr (own_w hw 100 rfl)) (Or.inr (own_w hw 47 rfl)) (by decide) (t := (.array (.object "com/example/urania/urania/layered/FlowSide"))) (t' := (.object "java/util/List")) (by decide) (by decide)
  have f598_5 := f595_5.other W597 (Or.inr sl602)
  clear f595_5
  have sl603 := slot_ne (Z := Z) (a0 := a0) (Or.inr (own_w hw 104 rfl)) (Or.inr (own_w hw 47 rfl)) (by decide) (t := (.array (.array .double))) (t' := (.object "java/util/List")) (by decide) (by decide)
  have f598_6 := f595_6.other W597 (Or.inr sl603)
  clear f595_6
  have sl604 := slot_ne (Z := Z) (a0 := a0) (Or.inr (own_w hw 107 rfl)) (Or.inr (own_w hw 47 rfl)) (by decide) (t := (.array .int)) (t' := (.object "java/util/List")) (by decide) (by decide)
  have f598_7 := f595_7.other W597 (Or.inr sl604)
  clear f595_7
  have sl605 := slot_ne (Z := Z) (a0 := a0) (Or.inr (own_w hw 109 rfl)) (Or.inr (own_w hw 47 rfl)) (by decide) (t := (.array .int)) (t' := (.object "java/util/List")) (by decide) (by decide)
  have f598_8 := f595_8.other W597 (Or.inr sl605)
  clear f595_8
  have sl606 := slot_ne (Z := Z) (a0 := a0) (Or.inr (own_w hw 111 rfl)) (Or.inr (own_w hw 47 rfl)) (by decide) (t := (.array .int)) (t' := (.object "java/util/List")) (by decide) (by decide)
  have f598_9 := f595_9.other W597 (Or.inr sl606)
  clear f595_9
  have f598_10 := f595_10.wr W597
  clear f595_10
  have f598_11 := f595_11.other W597 ned
  clear f595_11
  have f598_12 := f595_12.wr W597
  clear f595_12
  have f598_13 := f595_13.wr W597
  clear f595_13
  have f598_14 := f595_14.wr W597
  clear f595_14
  have f598_15 := f595_15.other W597 (Or.inl (Ne.symm ne_a1_b567))
  clear f595_15
  have f598_16 := f595_16.other W597 (Or.inl (Ne.symm ne_a1_b567))
  clear f595_16
  have f598_17 := f595_17.other W597 (Or.inl (Ne.symm ne_a1_b567))
  clear f595_17
  have f598_18 := f595_18.wr W597
  clear f595_18 f598_18
  have f598_19 := gL594_0.other W597 (Or.inl (Ne.symm ne_a1_b588))
  clear f598_19
  have f598_20 := gL594_1.other W597 (Or.inl (Ne.symm ne_a1_b588))
  clear f598_20
  have f598_21 := gL594_2.other W597 (Or.inl (Ne.symm ne_a1_b588))
  clear f598_21
  have K607 : Keep h0 h597 [a1] := K596.wr W597 (Or.inl (List.mem_of_getElem? (i := 0) rfl))
  clear K596
  have N608 := Fr.snoc X597 N594 g1
  clear N594
  have Fw597 : Fld Z h597 a1 "com/example/urania/urania/layered/Ports" "specs" "Ljava/util/List;" (.ref b588) := f595_2.same W597
  clear f595_2 W597
  refine own_st st597 ?_
  clear st597
  show own_Fin p e below G (T597.setTop (mkF m 26 #[rv a1, iv (2 : Int32), iv (0 : Int32), rv dr, .unset] []))
  refine own_st (fun _ k => XS.aloadN X597.here hx rfl (hb hby d2_26) rfl rfl k) ?_
  show own_Fin p e below G (T597.setTop (mkF m 27 #[rv a1, iv (2 : Int32), iv (0 : Int32), rv dr, .unset] [(.ref a1)]))
  refine own_st (fun _ k => XS.aloadN X597.here hx rfl (hb hby d2_27) rfl rfl k) ?_
  show own_Fin p e below G (T597.setTop (mkF m 28 #[rv a1, iv (2 : Int32), iv (0 : Int32), rv dr, .unset] [(.ref dr), (.ref a1)]))
  obtain ⟨T609, h609, X609, e609, W609, st609⟩ := putF X597 hx hZ hown (host := "") (Or.inl (own_w hw 48 rfl)) Via.refl e597 f598_3 f598_0 (Or.inr ⟨(own_w hw 49 rfl), rfl, hnm⟩) (own_w hw 9 rfl) (ty := (.object "com/example/urania/urania/Direction")) (by decide) rfl rfl (g := (mkF m 28 #[rv a1, iv (2 : Int32), iv (0 : Int32), rv dr, .unset] [(.ref dr), (.ref a1)])) rfl rfl (hb hby d2_28)
  clear X597 e597
  have f610_0 := f598_0.wr W609
  clear f598_0
  have sl611 := slot_ne (Z := Z) (a0 := a0) (Or.inr (own_w hw 45 rfl)) (Or.inr (own_w hw 49 rfl)) (by decide) (t := (.object "java/util/List")) (t' := (.object "com/example/urania/urania/Direction")) (by decide) (by decide)
  have f610_1 := f598_1.other W609 (Or.inr sl611)
  clear f598_1
  have sl612 := slot_ne (Z := Z) (a0 := a0) (Or.inr (own_w hw 47 rfl)) (Or.inr (own_w hw 49 rfl)) (by decide) (t := (.object "java/util/List")) (t' := (.object "com/example/urania/urania/Direction")) (by decide) (by decide)
  have f610_2 := Fw597.other W609 (Or.inr sl612)
  clear Fw597
  have sl613 := slot_ne (Z := Z) (a0 := a0) (Or.inr (own_w hw 53 rfl)) (Or.inr (own_w hw 49 rfl)) (by decide) (t := (.array (.object "com/example/urania/urania/layered/Ports$Freedom"))) (t' := (.object "com/example/urania/urania/Direction")) (by decide) (by decide)
  have f610_4 := f598_4.other W609 (Or.inr sl613)
  clear f598_4
  have sl614 := slot_ne (Z := Z) (a0 := a0) (Or.inr (own_w hw 100 rfl)) (Or.inr (own_w hw 49 rfl)) (by decide) (t := (.array (.object "com/example/urania/urania/layered/FlowSide"))) (t' := (.object "com/example/urania/urania/Direction")) (by decide) (by decide)
  have f610_5 := f598_5.other W609 (Or.inr sl614)
  clear f598_5
  have sl615 := slot_ne (Z := Z) (a0 := a0) (Or.inr (own_w hw 104 rfl)) (Or.inr (own_w hw 49 rfl)) (by decide) (t := (.array (.array .double))) (t' := (.object "com/example/urania/urania/Direction")) (by decide) (by decide)
  have f610_6 := f598_6.other W609 (Or.inr sl615)
  clear f598_6
  have sl616 := slot_ne (Z := Z) (a0 := a0) (Or.inr (own_w hw 107 rfl)) (Or.inr (own_w hw 49 rfl)) (by decide) (t := (.array .int)) (t' := (.object "com/example/urania/urania/Direction")) (by decide) (by decide)
  have f610_7 := f598_7.other W609 (Or.inr sl616)
  clear f598_7
  have sl617 := slot_ne (Z := Z) (a0 := a0) (Or.inr (own_w hw 109 rfl)) (Or.inr (own_w hw 49 rfl)) (by decide) (t := (.array .int)) (t' := (.object "com/example/urania/urania/Direction")) (by decide) (by decide)
  have f610_8 := f598_8.other W609 (Or.inr sl617)
  clear f598_8
  have sl618 := slot_ne (Z := Z) (a0 := a0) (Or.inr (own_w hw 111 rfl)) (Or.inr (own_w hw 49 rfl)) (by decide) (t := (.array .int)) (t' := (.object "com/example/urania/urania/Direction")) (by decide) (by decide)
  have f610_9 := f598_9.other W609 (Or.inr sl618)
  clear f598_9
  have f610_10 := f598_10.wr W609
  clear f598_10
  have f610_11 := f598_11.other W609 ned
  clear f598_11
  have f610_12 := f598_12.wr W609
  clear f598_12
  have f610_13 := f598_13.wr W609
  clear f598_13
  have f610_14 := f598_14.wr W609
  clear f598_14
  have f610_15 := f598_15.other W609 (Or.inl (Ne.symm ne_a1_b567))
  clear f598_15
  have f610_16 := f598_16.other W609 (Or.inl (Ne.symm ne_a1_b567))
  clear f598_16
  have f610_17 := f598_17.other W609 (Or.inl (Ne.symm ne_a1_b567))
  clear f598_17
  have K619 : Keep h0 h609 [a1] := K607.wr W609 (Or.inl (List.mem_of_getElem? (i := 0) rfl))
  clear K607
  have N620 := Fr.snoc X609 N608 g1
  clear N608
  have Fw609 : Fld Z h609 a1 "com/example/urania/urania/layered/Ports" "direction" "Lcom/example/urania/urania/Direction;" (.ref dr) := f598_3.same W609
  clear f598_3 W609
  refine own_st st609 ?_
  clear st609
  show own_Fin p e below G (T609.setTop (mkF m 31 #[rv a1, iv (2 : Int32), iv (0 : Int32), rv dr, .unset] []))
  refine own_st (fun _ k => XS.aloadN X609.here hx rfl (hb hby d2_31) rfl rfl k) ?_
  show own_Fin p e below G (T609.setTop (mkF m 32 #[rv a1, iv (2 : Int32), iv (0 : Int32), rv dr, .unset] [(.ref a1)]))
  refine own_st (fun _ k => XS.iloadN X609.here hx rfl (hb hby d2_32) rfl  k) ?_
  show own_Fin p e below G (T609.setTop (mkF m 33 #[rv a1, iv (2 : Int32), iv (0 : Int32), rv dr, .unset] [(.int (2 : Int32)), (.ref a1)]))
  obtain ⟨T621, h621, k621, X621, e621, E621, A621, B621, O621, st621⟩ := newRE X609 hx hZ hown (own_w hw 50 rfl) (own_w hw 51 rfl) e609 (g := (mkF m 33 #[rv a1, iv (2 : Int32), iv (0 : Int32), rv dr, .unset] [(.int (2 : Int32)), (.ref a1)])) rfl (hb hby d2_33) rfl (by decide) (cap := 2) (by decide) (by decide) (by decide) (by decide) (ad := "[Lcom/example/urania/urania/layered/Ports$Freedom;") (by decide +kernel)
  clear X609 e609
  obtain ⟨b621, g621⟩ : ∃ z, z = h609.size := ⟨_, rfl⟩
  rw [← g621] at A621 B621 st621
  have ne_a1_b621 : a1 ≠ b621 := Nat.ne_of_lt (Nat.lt_of_lt_of_le f610_0.lt (Nat.le_of_eq g621.symm))
  have ne_b567_b621 : b567 ≠ b621 := Nat.ne_of_lt (Nat.lt_of_lt_of_le f610_14.lt (Nat.le_of_eq g621.symm))
  have ne_ed_b621 : ed ≠ b621 := Nat.ne_of_lt (Nat.lt_of_lt_of_le f610_11.lt (Nat.le_of_eq g621.symm))
  have ne_fr_b621 : fr ≠ b621 := Nat.ne_of_lt (Nat.lt_of_lt_of_le f610_13.lt (Nat.le_of_eq g621.symm))
  have sz_b621 : h0.size ≤ b621 := Nat.le_trans K619.1 (Nat.le_of_eq g621.symm)
  have g_b621 : n0 ≤ b621 := Nat.le_trans Z0 sz_b621
  have f622_0 := f610_0.ext E621
  clear f610_0
  have f622_1 := f610_1.ext E621
  clear f610_1
  have f622_2 := f610_2.ext E621
  clear f610_2
  have f622_3 := Fw609.ext E621
  clear Fw609
  have f622_4 := f610_4.ext E621
  clear f610_4
  have f622_5 := f610_5.ext E621
  clear f610_5
  have f622_6 := f610_6.ext E621
  clear f610_6
  have f622_7 := f610_7.ext E621
  clear f610_7
  have f622_8 := f610_8.ext E621
  clear f610_8
  have f622_9 := f610_9.ext E621
  clear f610_9
  have f622_10 := f610_10.ext E621
  clear f610_10
  have f622_11 := f610_11.ext E621
  clear f610_11
  have f622_12 := f610_12.ext E621
  clear f610_12
  have f622_13 := f610_13.ext E621
  clear f610_13
  have f622_14 := f610_14.ext E621
  clear f610_14
  have f622_15 := f610_15.ext E621
  clear f610_15
  have f622_16 := f610_16.ext E621
  clear f610_16
  have f622_17 := f610_17.ext E621
  clear f610_17
  have K623 : Keep h0 h621 [a1] := K619.ext E621
  clear K619 E621
  have V621 : own_AVk Z h621 b621 k621 (.object "com/example/urania/urania/layered/Ports$Freedom") [.null, .null] := own_AVk_new A621
  clear A621
  refine own_st st621 ?_
  clear st621
  show own_Fin p e below G (T621.setTop (mkF m 36 #[rv a1, iv (2 : Int32), iv (0 : Int32), rv dr, .unset] [(.ref b621), (.ref a1)]))
  obtain ⟨T624, h624, X624, e624, W624, st624⟩ := putF X621 hx hZ hown (host := "") (Or.inl (own_w hw 52 rfl)) Via.refl e621 f622_4 f622_0 (Or.inr ⟨(own_w hw 53 rfl), rfl, hnm⟩) (own_w hw 9 rfl) (ty := (.array (.object "com/example/urania/urania/layered/Ports$Freedom"))) (by decide) rfl rfl (g := (mkF m 36 #[rv a1, iv (2 : Int32), iv (0 : Int32), rv dr, .unset] [(.ref b621), (.ref a1)])) rfl rfl (hb hby d2_36)
  clear X621 e621
  have f625_0 := f622_0.wr W624
  clear f622_0
  have sl626 := slot_ne (Z := Z) (a0 := a0) (Or.inr (own_w hw 45 rfl)) (Or.inr (own_w hw 53 rfl)) (by decide) (t := (.object "java/util/List")) (t' := (.array (.object "com/example/urania/urania/layered/Ports$Freedom"))) (by decide) (by decide)
  have f625_1 := f622_1.other W624 (Or.inr sl626)
  clear f622_1
  have sl627 := slot_ne (Z := Z) (a0 := a0) (Or.inr (own_w hw 47 rfl)) (Or.inr (own_w hw 53 rfl)) (by decide) (t := (.object "java/util/List")) (t' := (.array (.object "com/example/urania/urania/layered/Ports$Freedom"))) (by decide) (by decide)
  have f625_2 := f622_2.other W624 (Or.inr sl627)
  clear f622_2
  have sl628 := slot_ne (Z := Z) (a0 := a0) (Or.inr (own_w hw 49 rfl)) (Or.inr (own_w hw 53 rfl)) (by decide) (t := (.object "com/example/urania/urania/Direction")) (t' := (.array (.object "com/example/urania/urania/layered/Ports$Freedom"))) (by decide) (by decide)
  have f625_3 := f622_3.other W624 (Or.inr sl628)
  clear f622_3
  have sl629 := slot_ne (Z := Z) (a0 := a0) (Or.inr (own_w hw 100 rfl)) (Or.inr (own_w hw 53 rfl)) (by decide) (t := (.array (.object "com/example/urania/urania/layered/FlowSide"))) (t' := (.array (.object "com/example/urania/urania/layered/Ports$Freedom"))) (by decide) (by decide)
  have f625_5 := f622_5.other W624 (Or.inr sl629)
  clear f622_5
  have sl630 := slot_ne (Z := Z) (a0 := a0) (Or.inr (own_w hw 104 rfl)) (Or.inr (own_w hw 53 rfl)) (by decide) (t := (.array (.array .double))) (t' := (.array (.object "com/example/urania/urania/layered/Ports$Freedom"))) (by decide) (by decide)
  have f625_6 := f622_6.other W624 (Or.inr sl630)
  clear f622_6
  have sl631 := slot_ne (Z := Z) (a0 := a0) (Or.inr (own_w hw 107 rfl)) (Or.inr (own_w hw 53 rfl)) (by decide) (t := (.array .int)) (t' := (.array (.object "com/example/urania/urania/layered/Ports$Freedom"))) (by decide) (by decide)
  have f625_7 := f622_7.other W624 (Or.inr sl631)
  clear f622_7
  have sl632 := slot_ne (Z := Z) (a0 := a0) (Or.inr (own_w hw 109 rfl)) (Or.inr (own_w hw 53 rfl)) (by decide) (t := (.array .int)) (t' := (.array (.object "com/example/urania/urania/layered/Ports$Freedom"))) (by decide) (by decide)
  have f625_8 := f622_8.other W624 (Or.inr sl632)
  clear f622_8
  have sl633 := slot_ne (Z := Z) (a0 := a0) (Or.inr (own_w hw 111 rfl)) (Or.inr (own_w hw 53 rfl)) (by decide) (t := (.array .int)) (t' := (.array (.object "com/example/urania/urania/layered/Ports$Freedom"))) (by decide) (by decide)
  have f625_9 := f622_9.other W624 (Or.inr sl633)
  clear f622_9
  have f625_10 := f622_10.wr W624
  clear f622_10
  have f625_11 := f622_11.other W624 ned
  clear f622_11
  have f625_12 := f622_12.wr W624
  clear f622_12
  have f625_13 := f622_13.wr W624
  clear f622_13
  have f625_14 := f622_14.wr W624
  clear f622_14
  have f625_15 := f622_15.other W624 (Or.inl (Ne.symm ne_a1_b567))
  clear f622_15
  have f625_16 := f622_16.other W624 (Or.inl (Ne.symm ne_a1_b567))
  clear f622_16
  have f625_17 := f622_17.other W624 (Or.inl (Ne.symm ne_a1_b567))
  clear f622_17
  have f625_18 := B621.wr W624
  clear B621
  have f625_19 := V621.other W624 (Ne.symm ne_a1_b621)
  clear V621
  have K634 : Keep h0 h624 [a1] := K623.wr W624 (Or.inl (List.mem_of_getElem? (i := 0) rfl))
  clear K623
  have N635 := Fr.snoc X624 N620 g1
  clear N620
  have Fw624 : Fld Z h624 a1 "com/example/urania/urania/layered/Ports" "freedom" "[Lcom/example/urania/urania/layered/Ports$Freedom;" (.ref b621) := f622_4.same W624
  clear f622_4 W624
  refine own_st st624 ?_
  clear st624
  show own_Fin p e below G (T624.setTop (mkF m 39 #[rv a1, iv (2 : Int32), iv (0 : Int32), rv dr, .unset] []))
  refine own_st (fun _ k => XS.aloadN X624.here hx rfl (hb hby d2_39) rfl rfl k) ?_
  show own_Fin p e below G (T624.setTop (mkF m 40 #[rv a1, iv (2 : Int32), iv (0 : Int32), rv dr, .unset] [(.ref a1)]))
  obtain ⟨T636, X636, e636, st636⟩ := getF X624 hx hZ hown (host := "") (Or.inl (own_w hw 52 rfl)) Via.refl e624 Fw624 (g := (mkF m 40 #[rv a1, iv (2 : Int32), iv (0 : Int32), rv dr, .unset] [(.ref a1)])) rfl rfl (hb hby d2_40)
  clear X624 e624
  refine own_st st636 ?_
  clear st636
  show own_Fin p e below G (T636.setTop (mkF m 43 #[rv a1, iv (2 : Int32), iv (0 : Int32), rv dr, .unset] [(.ref b621)]))
  obtain ⟨T637, X637, e637, st637⟩ := getS2 X636 hx hZ hown (host := "") (Or.inl (own_w hw 54 rfl)) Via.refl e636 f625_12 (g := (mkF m 43 #[rv a1, iv (2 : Int32), iv (0 : Int32), rv dr, .unset] [(.ref b621)])) rfl (hb hby d2_43)
  clear X636 e636
  refine own_st st637 ?_
  clear st637
  show own_Fin p e below G (T637.setTop (mkF m 46 #[rv a1, iv (2 : Int32), iv (0 : Int32), rv dr, .unset] [(.ref fr), (.ref b621)]))
  obtain ⟨_, _, ⟨T638, L638, k638, n638⟩, -, X638, ⟨Lc638, hQ638, l638, y638, z638⟩, st638⟩ := Jvm.LawKit.callS X637 hx (y := own_y4) hown (mvT hZ (own_w hw 57 rfl)) (mvT hZ (own_w hw 58 rfl)) (mvT hZ (own_w hw 59 rfl)) (mvT hZ (own_w hw 60 rfl)) (by decide) (backOf (W := 0) (rm_fo2 l Z a0 hw [] b621 fr k621 h624 n0 (Nat.le_trans Z0 K634.1) f625_19 O621 f625_13 g_b621) hZ (own_w hw 60 rfl) (own_w hw 59 rfl) (by decide) (by decide)) (g := (mkF m 46 #[rv a1, iv (2 : Int32), iv (0 : Int32), rv dr, .unset] [(.ref fr), (.ref b621)])) rfl (by rw [hml]; rfl) (argsL := [(.ref b621), (.ref fr)]) (rest := []) (lenOf pd___Ljava_lang_Object_Ljava_lang_Object__V_595 rfl) rfl (by show 2 * 0 + _ ≤ _; exact Nat.le_of_eq rfl) (hb hby d2_46) (fun _ _ => ⟨rfl, e637, (by decide : 3 + 0 ≤ _), (by decide : 8 + 0 ≤ _)⟩)
  clear O621 f625_19 X637 e637
  dsimp only [Pt.U, Pt.locs, Pt.cells, Pt.slots] at X638 l638 y638 z638 st638 hQ638
  subst l638 y638 z638
  obtain ⟨rfl, N638q, Kc638⟩ := hQ638
  have N638 := Fr.app N635 N638q
  clear N635 N638q
  have f639_0 := f625_0.keep Kc638
  clear f625_0
  have f639_1 := f625_1.keep Kc638 (ninS ne_a1_b621 nin0)
  clear f625_1
  have f639_2 := f625_2.keep Kc638 (ninS ne_a1_b621 nin0)
  clear f625_2
  have f639_3 := f625_3.keep Kc638 (ninS ne_a1_b621 nin0)
  clear f625_3
  have f639_4 := Fw624.keep Kc638 (ninS ne_a1_b621 nin0)
  clear Fw624
  have f639_5 := f625_5.keep Kc638 (ninS ne_a1_b621 nin0)
  clear f625_5
  have f639_6 := f625_6.keep Kc638 (ninS ne_a1_b621 nin0)
  clear f625_6
  have f639_7 := f625_7.keep Kc638 (ninS ne_a1_b621 nin0)
  clear f625_7
  have f639_8 := f625_8.keep Kc638 (ninS ne_a1_b621 nin0)
  clear f625_8
  have f639_9 := f625_9.keep Kc638 (ninS ne_a1_b621 nin0)
  clear f625_9
  have f639_10 := own_Sta_keep f625_10 Kc638 (allS f625_18.cell all0)
  clear f625_10
  have f639_11 := f625_11.keep Kc638 (ninS ne_ed_b621 nin0)
  clear f625_11
  have f639_12 := own_Sta_keep f625_12 Kc638 (allS f625_18.cell all0)
  clear f625_12 f639_12
  have f639_13 := f625_13.keep Kc638
  clear f625_13 f639_13
  have f639_14 := f625_14.keep Kc638
  clear f625_14
  have f639_15 := f625_15.keep Kc638 (ninS ne_b567_b621 nin0)
  clear f625_15
  have f639_16 := f625_16.keep Kc638 (ninS ne_b567_b621 nin0)
  clear f625_16
  have f639_17 := f625_17.keep Kc638 (ninS ne_b567_b621 nin0)
  clear f625_17
  have f639_18 := f625_18.keep Kc638
  clear f625_18 f639_18
  have K640 : Keep h0 T638.heap [a1] := K634.trans Kc638 (allS (Or.inr sz_b621) all0)
  clear K634 Kc638
  refine own_st st638 ?_
  clear st638
  show own_Fin p e below G (T638.setTop (mkF m 49 #[rv a1, iv (2 : Int32), iv (0 : Int32), rv dr, .unset] []))
  refine own_st (fun _ k => XS.iconst X638.here hx rfl (hb hby d2_49) k) ?_
  show own_Fin p e below G (T638.setTop (mkF m 50 #[rv a1, iv (2 : Int32), iv (0 : Int32), rv dr, .unset] [(.int (0 : Int32))]))
  refine own_st (fun _ k => XS.istore X638.here hx rfl (hb hby d2_50) rfl (l' := #[rv a1, iv (2 : Int32), iv (0 : Int32), rv dr, iv (0 : Int32)]) rfl k) ?_
  show own_Fin p e below G (T638.setTop (mkF m 52 #[rv a1, iv (2 : Int32), iv (0 : Int32), rv dr, iv (0 : Int32)] []))
  refine own_st (fun _ k => XS.iload X638.here hx rfl (hb hby d2_52) rfl  k) ?_
  show own_Fin p e below G (T638.setTop (mkF m 54 #[rv a1, iv (2 : Int32), iv (0 : Int32), rv dr, iv (0 : Int32)] [(.int (0 : Int32))]))
  refine own_st (fun _ k => XS.iloadN X638.here hx rfl (hb hby d2_54) rfl  k) ?_
  show own_Fin p e below G (T638.setTop (mkF m 55 #[rv a1, iv (2 : Int32), iv (0 : Int32), rv dr, iv (0 : Int32)] [(.int (2 : Int32)), (.int (0 : Int32))]))
  refine own_st (fun _ k => XS.icmpNo X638.here hx rfl (hb hby d2_55) rfl (tlt (by decide : ((0 : Int32) < (2 : Int32)))).2.1 k) ?_
  show own_Fin p e below G (T638.setTop (mkF m 58 #[rv a1, iv (2 : Int32), iv (0 : Int32), rv dr, iv (0 : Int32)] []))
  refine own_st (fun _ k => XS.aloadN X638.here hx rfl (hb hby d2_58) rfl rfl k) ?_
  show own_Fin p e below G (T638.setTop (mkF m 59 #[rv a1, iv (2 : Int32), iv (0 : Int32), rv dr, iv (0 : Int32)] [(.ref a1)]))
  obtain ⟨T641, X641, e641, st641⟩ := getF X638 hx hZ hown (host := "") (Or.inl (own_w hw 44 rfl)) Via.refl rfl f639_1 (g := (mkF m 59 #[rv a1, iv (2 : Int32), iv (0 : Int32), rv dr, iv (0 : Int32)] [(.ref a1)])) rfl rfl (hb hby d2_59)
  clear X638
  refine own_st st641 ?_
  clear st641
  show own_Fin p e below G (T641.setTop (mkF m 62 #[rv a1, iv (2 : Int32), iv (0 : Int32), rv dr, iv (0 : Int32)] [(.ref b567)]))
  obtain ⟨T642, h642, X642, e642, E642, A642, D642, M642, st642⟩ := newO X641 hx hZ hown (own_w hw 20 rfl) (own_w hw 21 rfl) (own_w hw 22 rfl) e641 (g := (mkF m 62 #[rv a1, iv (2 : Int32), iv (0 : Int32), rv dr, iv (0 : Int32)] [(.ref b567)])) rfl (hb hby d2_62) (by decide) (by decide)
  clear X641 e641 M642
  obtain ⟨b642, g642⟩ : ∃ z, z = T638.heap.size := ⟨_, rfl⟩
  rw [← g642] at A642 D642 st642
  have ne_a1_b642 : a1 ≠ b642 := Nat.ne_of_lt (Nat.lt_of_lt_of_le f639_0.lt (Nat.le_of_eq g642.symm))
  have ne_b567_b642 : b567 ≠ b642 := Nat.ne_of_lt (Nat.lt_of_lt_of_le f639_14.lt (Nat.le_of_eq g642.symm))
  have ne_ed_b642 : ed ≠ b642 := Nat.ne_of_lt (Nat.lt_of_lt_of_le f639_11.lt (Nat.le_of_eq g642.symm))
  have sz_b642 : h0.size ≤ b642 := Nat.le_trans K640.1 (Nat.le_of_eq g642.symm)
  have g_b642 : n0 ≤ b642 := Nat.le_trans Z0 sz_b642
  have f643_0 := f639_0.ext E642
  clear f639_0
  have f643_1 := f639_1.ext E642
  clear f639_1
  have f643_2 := f639_2.ext E642
  clear f639_2
  have f643_3 := f639_3.ext E642
  clear f639_3
  have f643_4 := f639_4.ext E642
  clear f639_4
  have f643_5 := f639_5.ext E642
  clear f639_5
  have f643_6 := f639_6.ext E642
  clear f639_6
  have f643_7 := f639_7.ext E642
  clear f639_7
  have f643_8 := f639_8.ext E642
  clear f639_8
  have f643_9 := f639_9.ext E642
  clear f639_9
  have f643_10 := f639_10.ext E642
  clear f639_10
  have f643_11 := f639_11.ext E642
  clear f639_11
  have f643_12 := f639_14.ext E642
  clear f639_14
  have f643_13 := f639_15.ext E642
  clear f639_15
  have f643_14 := f639_16.ext E642
  clear f639_16
  have f643_15 := f639_17.ext E642
  clear f639_17
  have K644 : Keep h0 h642 [a1] := K640.ext E642
  clear K640 E642
  have f645 : Fld Z h642 b642 "java/util/AbstractList" "modCount" "I" (.int (0 : Int32)) := D642 (Or.inl (own_w hw 40 rfl)) (ty := .int) (by decide)
  have f646 : Fld Z h642 b642 "java/util/ArrayList" "elementData" "[Ljava/lang/Object;" .null := D642 (Or.inl (own_w hw 43 rfl)) (ty := (.array (.object "java/lang/Object"))) (by decide)
  have f647 : Fld Z h642 b642 "java/util/ArrayList" "size" "I" (.int (0 : Int32)) := D642 (Or.inl (own_w hw 74 rfl)) (ty := .int) (by decide)
  clear D642
  refine own_st st642 ?_
  clear st642
  show own_Fin p e below G (T642.setTop (mkF m 65 #[rv a1, iv (2 : Int32), iv (0 : Int32), rv dr, iv (0 : Int32)] [(.ref b642), (.ref b567)]))
  refine own_st (fun _ k => XS.dup X642.here hx rfl (hb hby d2_65) rfl rfl k) ?_
  show own_Fin p e below G (T642.setTop (mkF m 66 #[rv a1, iv (2 : Int32), iv (0 : Int32), rv dr, iv (0 : Int32)] [(.ref b642), (.ref b642), (.ref b567)]))
  obtain ⟨_, _, ⟨T648, L648, k648, n648⟩, -, X648, ⟨Lc648, hQ648, l648, y648, z648⟩, st648⟩ := X642.specialBack hx (y := own_y3) rfl hown (mvT hZ (own_w hw 23 rfl)) (mvT hZ (own_w hw 24 rfl)) (mvT hZ (own_w hw 25 rfl)) (by decide) (backOf (W := 2) (rm_al l Z a0 hw [] b642 ed h642 n0 (Nat.le_trans Z0 K644.1) A642 f645 f646 f647 g_b642 f643_10) hZ (own_w hw 25 rfl) (own_w hw 22 rfl) (by decide) (by decide)) (g := (mkF m 66 #[rv a1, iv (2 : Int32), iv (0 : Int32), rv dr, iv (0 : Int32)] [(.ref b642), (.ref b642), (.ref b567)])) rfl (by rw [hml]; rfl) (Steps.refl _) (a := b642) (argsL := []) (rest := [(.ref b642), (.ref b567)]) (lenOf pd___V_167 rfl) rfl (by show 2 * 0 + _ ≤ _; exact Nat.le_of_eq rfl) (hb hby d2_66) (fun _ _ => ⟨rfl, e642, (by decide : 4 + 0 ≤ _), (by decide : 11 + 0 ≤ _)⟩)
  clear X642 e642 f645 f646 f647
  dsimp only [Pt.U, Pt.locs, Pt.cells, Pt.slots] at X648 l648 y648 z648 st648 hQ648
  subst l648 y648 z648
  obtain ⟨rfl, N648q, Kc648, gL648_0, gL648_1, gL648_2⟩ := hQ648
  have N648 := Fr.app N638 N648q
  clear N638 N648q
  have f649_0 := f643_0.keep Kc648
  clear f643_0
  have f649_1 := f643_1.keep Kc648 (ninS ne_a1_b642 nin0)
  clear f643_1
  have f649_2 := f643_2.keep Kc648 (ninS ne_a1_b642 nin0)
  clear f643_2
  have f649_3 := f643_3.keep Kc648 (ninS ne_a1_b642 nin0)
  clear f643_3
  have f649_4 := f643_4.keep Kc648 (ninS ne_a1_b642 nin0)
  clear f643_4
  have f649_5 := f643_5.keep Kc648 (ninS ne_a1_b642 nin0)
  clear f643_5
  have f649_6 := f643_6.keep Kc648 (ninS ne_a1_b642 nin0)
  clear f643_6
  have f649_7 := f643_7.keep Kc648 (ninS ne_a1_b642 nin0)
  clear f643_7
  have f649_8 := f643_8.keep Kc648 (ninS ne_a1_b642 nin0)
  clear f643_8
  have f649_9 := f643_9.keep Kc648 (ninS ne_a1_b642 nin0)
  clear f643_9
  have f649_10 := own_Sta_keep f643_10 Kc648 (allS A642.cell all0)
  clear f643_10
  have f649_11 := f643_11.keep Kc648 (ninS ne_ed_b642 nin0)
  clear f643_11
  have f649_12 := f643_12.keep Kc648
  clear f643_12
  have f649_13 := f643_13.keep Kc648 (ninS ne_b567_b642 nin0)
  clear f643_13
  have f649_14 := f643_14.keep Kc648 (ninS ne_b567_b642 nin0)
  clear f643_14
  have f649_15 := f643_15.keep Kc648 (ninS ne_b567_b642 nin0)
  clear f643_15
  have f649_16 := A642.keep Kc648
  clear A642
  have K650 : Keep h0 T648.heap [a1] := K644.trans Kc648 (allS (Or.inr sz_b642) all0)
  clear K644 Kc648
  refine own_tr st648 ?_
  clear st648
  show own_Fin p e below G (T648.setTop (mkF m 69 #[rv a1, iv (2 : Int32), iv (0 : Int32), rv dr, iv (0 : Int32)] [(.ref b642), (.ref b567)]))
  obtain ⟨cq651, kq651, q651a, q651b, q651c⟩ := isOf hZ rfl f649_12
  obtain ⟨_, _, ⟨T651, L651, k651, n651⟩, -, X651, ⟨Lc651, hQ651, l651, y651, z651⟩, st651⟩ := X648.interfaceBack hx (xi := own_y10) (y := own_y9) hown (mvT hZ (own_w hw 62 rfl)) (mvT hZ (own_w hw 63 rfl)) (mvT hZ (own_w hw 64 rfl)) (mvT hZ (own_w hw 65 rfl)) (mvT hZ (own_w hw 66 rfl)) (mvT hZ (own_w hw 67 rfl)) (mvT hZ (own_w hw 68 rfl)) (mvT hZ (own_w hw 69 rfl)) (by decide) (backOf (W := 0) (rm_aq0 l Z a0 hw [] b567 b642 ed ke T648.heap n0 (Nat.le_trans Z0 K650.1) f649_12 f649_13 f649_14 f649_15 g_b567 f649_16 f649_10 f649_11 ne_ed_b567) hZ (own_w hw 70 rfl) (own_w hw 22 rfl) (by decide) (by decide)) q651a q651b q651c (g := (mkF m 69 #[rv a1, iv (2 : Int32), iv (0 : Int32), rv dr, iv (0 : Int32)] [(.ref b642), (.ref b567)])) rfl (by rw [hml]; rfl) (Steps.refl _) (argsL := [(.ref b642)]) (rest := []) (lenOf pd__Ljava_lang_Object__Z_838 rfl) rfl (by show 2 * 0 + _ ≤ _; exact Nat.le_of_eq rfl) (hb hby d2_69) (fun _ _ => ⟨rfl, rfl, (by decide : 4 + 1 ≤ _), (by decide : 11 + 10 ≤ _)⟩)
  clear X648 f649_13 f649_14 f649_15 q651a q651b q651c
  dsimp only [Pt.U, Pt.locs, Pt.cells, Pt.slots] at X651 l651 y651 z651 st651 hQ651
  subst l651 y651 z651
  obtain ⟨gb651, gk651, hQ651⟩ := hQ651
  have lt651 := f649_12.lt
  obtain ⟨rfl, N651q, Kc651, gz651, gL651_0, gL651_1, gL651_2, gB651, gO651⟩ := hQ651
  have N651 := Fr.app N648 N651q
  clear N648 N651q
  have f652_0 := f649_0.keep Kc651
  have f652_1 := f649_1.keep Kc651 (ninS ne_a1_b567 nin0)
  clear f649_1
  have f652_2 := f649_2.keep Kc651 (ninS ne_a1_b567 nin0)
  clear f649_2
  have f652_3 := f649_3.keep Kc651 (ninS ne_a1_b567 nin0)
  clear f649_3
  have f652_4 := f649_4.keep Kc651 (ninS ne_a1_b567 nin0)
  clear f649_4
  have f652_5 := f649_5.keep Kc651 (ninS ne_a1_b567 nin0)
  clear f649_5
  have f652_6 := f649_6.keep Kc651 (ninS ne_a1_b567 nin0)
  clear f649_6
  have f652_7 := f649_7.keep Kc651 (ninS ne_a1_b567 nin0)
  clear f649_7
  have f652_8 := f649_8.keep Kc651 (ninS ne_a1_b567 nin0)
  clear f649_8
  have f652_9 := f649_9.keep Kc651 (ninS ne_a1_b567 nin0)
  clear f649_9
  have f652_10 := own_Sta_keep f649_10 Kc651 (allS f649_12.cell all0)
  clear f649_10
  have f652_11 := f649_11.keep Kc651 (ninS ne_ed_b567 nin0)
  have f652_12 := f649_12.keep Kc651
  have f652_16 := f649_16.keep Kc651
  clear f652_16
  have f652_17 := gL648_0.keep Kc651 (ninS (Ne.symm ne_b567_b642) nin0)
  clear f652_17
  have f652_18 := gL648_1.keep Kc651 (ninS (Ne.symm ne_b567_b642) nin0)
  clear f652_18
  have f652_19 := gL648_2.keep Kc651 (ninS (Ne.symm ne_b567_b642) nin0)
  clear f652_19
  have K653 : Keep h0 T651.heap [a1] := K650.trans Kc651 (allS (Or.inr sz_b567) all0)
  clear Kc651
  have ne_a1_gb651 : a1 ≠ gb651 := Nat.ne_of_lt (Nat.lt_of_lt_of_le f649_0.lt gz651)
  clear f649_0
  have ne_b567_gb651 : b567 ≠ gb651 := Nat.ne_of_lt (Nat.lt_of_lt_of_le f649_12.lt gz651)
  clear f649_12
  have ne_b642_gb651 : b642 ≠ gb651 := Nat.ne_of_lt (Nat.lt_of_lt_of_le f649_16.lt gz651)
  clear f649_16
  have ne_ed_gb651 : ed ≠ gb651 := Nat.ne_of_lt (Nat.lt_of_lt_of_le f649_11.lt gz651)
  clear f649_11
  have sz_gb651 : h0.size ≤ gb651 := Nat.le_trans K650.1 gz651
  clear K650
  have g_gb651 : n0 ≤ gb651 := Nat.le_trans Z0 sz_gb651
  refine own_tr st651 ?_
  clear st651
  show own_Fin p e below G (T651.setTop (mkF m 74 #[rv a1, iv (2 : Int32), iv (0 : Int32), rv dr, iv (0 : Int32)] [(.int (1 : Int32))]))
  refine own_st (fun _ k => XS.pop X651.here hx rfl (hb hby d2_74) rfl rfl k) ?_
  show own_Fin p e below G (T651.setTop (mkF m 75 #[rv a1, iv (2 : Int32), iv (0 : Int32), rv dr, iv (0 : Int32)] []))
  refine own_st (fun _ k => XS.iinc X651.here hx rfl (hb hby d2_75) rfl (l' := #[rv a1, iv (2 : Int32), iv (0 : Int32), rv dr, iv (1 : Int32)]) rfl k) ?_
  show own_Fin p e below G (T651.setTop (mkF m 78 #[rv a1, iv (2 : Int32), iv (0 : Int32), rv dr, iv (1 : Int32)] []))
  refine own_st (fun _ k => XS.goto X651.here hx rfl (pc0 := 78) (pc' := 52) rfl (hb hby d2_78) (by decide) (by decide) k) ?_
  show own_Fin p e below G (T651.setTop (mkF m 52 #[rv a1, iv (2 : Int32), iv (0 : Int32), rv dr, iv (1 : Int32)] []))
  refine own_st (fun _ k => XS.iload X651.here hx rfl (hb hby d2_52) rfl  k) ?_
  show own_Fin p e below G (T651.setTop (mkF m 54 #[rv a1, iv (2 : Int32), iv (0 : Int32), rv dr, iv (1 : Int32)] [(.int (1 : Int32))]))
  refine own_st (fun _ k => XS.iloadN X651.here hx rfl (hb hby d2_54) rfl  k) ?_
  show own_Fin p e below G (T651.setTop (mkF m 55 #[rv a1, iv (2 : Int32), iv (0 : Int32), rv dr, iv (1 : Int32)] [(.int (2 : Int32)), (.int (1 : Int32))]))
  refine own_st (fun _ k => XS.icmpNo X651.here hx rfl (hb hby d2_55) rfl (tlt (by decide : ((1 : Int32) < (2 : Int32)))).2.1 k) ?_
  show own_Fin p e below G (T651.setTop (mkF m 58 #[rv a1, iv (2 : Int32), iv (0 : Int32), rv dr, iv (1 : Int32)] []))
  refine own_st (fun _ k => XS.aloadN X651.here hx rfl (hb hby d2_58) rfl rfl k) ?_
  show own_Fin p e below G (T651.setTop (mkF m 59 #[rv a1, iv (2 : Int32), iv (0 : Int32), rv dr, iv (1 : Int32)] [(.ref a1)]))
  obtain ⟨T654, X654, e654, st654⟩ := getF X651 hx hZ hown (host := "") (Or.inl (own_w hw 44 rfl)) Via.refl rfl f652_1 (g := (mkF m 59 #[rv a1, iv (2 : Int32), iv (0 : Int32), rv dr, iv (1 : Int32)] [(.ref a1)])) rfl rfl (hb hby d2_59)
  clear X651
  refine own_st st654 ?_
  clear st654
  show own_Fin p e below G (T654.setTop (mkF m 62 #[rv a1, iv (2 : Int32), iv (0 : Int32), rv dr, iv (1 : Int32)] [(.ref b567)]))
  obtain ⟨T655, h655, X655, e655, E655, A655, D655, M655, st655⟩ := newO X654 hx hZ hown (own_w hw 20 rfl) (own_w hw 21 rfl) (own_w hw 22 rfl) e654 (g := (mkF m 62 #[rv a1, iv (2 : Int32), iv (0 : Int32), rv dr, iv (1 : Int32)] [(.ref b567)])) rfl (hb hby d2_62) (by decide) (by decide)
  clear X654 e654 M655
  obtain ⟨b655, g655⟩ : ∃ z, z = T651.heap.size := ⟨_, rfl⟩
  rw [← g655] at A655 D655 st655
  have ne_a1_b655 : a1 ≠ b655 := Nat.ne_of_lt (Nat.lt_of_lt_of_le f652_0.lt (Nat.le_of_eq g655.symm))
  have ne_b567_b655 : b567 ≠ b655 := Nat.ne_of_lt (Nat.lt_of_lt_of_le f652_12.lt (Nat.le_of_eq g655.symm))
  have ne_ed_b655 : ed ≠ b655 := Nat.ne_of_lt (Nat.lt_of_lt_of_le f652_11.lt (Nat.le_of_eq g655.symm))
  have ne_gb651_b655 : gb651 ≠ b655 := Nat.ne_of_lt (Nat.lt_of_lt_of_le gB651.lt (Nat.le_of_eq g655.symm))
  have sz_b655 : h0.size ≤ b655 := Nat.le_trans K653.1 (Nat.le_of_eq g655.symm)
  have g_b655 : n0 ≤ b655 := Nat.le_trans Z0 sz_b655
  have f656_0 := f652_0.ext E655
  clear f652_0
  have f656_1 := f652_1.ext E655
  clear f652_1
  have f656_2 := f652_2.ext E655
  clear f652_2
  have f656_3 := f652_3.ext E655
  clear f652_3
  have f656_4 := f652_4.ext E655
  clear f652_4
  have f656_5 := f652_5.ext E655
  clear f652_5
  have f656_6 := f652_6.ext E655
  clear f652_6
  have f656_7 := f652_7.ext E655
  clear f652_7
  have f656_8 := f652_8.ext E655
  clear f652_8
  have f656_9 := f652_9.ext E655
  clear f652_9
  have f656_10 := f652_10.ext E655
  clear f652_10
  have f656_11 := f652_11.ext E655
  clear f652_11
  have f656_12 := f652_12.ext E655
  clear f652_12
  have f656_13 := gL651_0.ext E655
  have f656_14 := gL651_1.ext E655
  have f656_15 := gL651_2.ext E655
  have f656_16 := gB651.ext E655
  have K657 : Keep h0 h655 [a1] := K653.ext E655
  clear K653 E655
  have f658 : Fld Z h655 b655 "java/util/AbstractList" "modCount" "I" (.int (0 : Int32)) := D655 (Or.inl (own_w hw 40 rfl)) (ty := .int) (by decide)
  have f659 : Fld Z h655 b655 "java/util/ArrayList" "elementData" "[Ljava/lang/Object;" .null := D655 (Or.inl (own_w hw 43 rfl)) (ty := (.array (.object "java/lang/Object"))) (by decide)
  have f660 : Fld Z h655 b655 "java/util/ArrayList" "size" "I" (.int (0 : Int32)) := D655 (Or.inl (own_w hw 74 rfl)) (ty := .int) (by decide)
  clear D655
  refine own_st st655 ?_
  clear st655
  show own_Fin p e below G (T655.setTop (mkF m 65 #[rv a1, iv (2 : Int32), iv (0 : Int32), rv dr, iv (1 : Int32)] [(.ref b655), (.ref b567)]))
  refine own_st (fun _ k => XS.dup X655.here hx rfl (hb hby d2_65) rfl rfl k) ?_
  show own_Fin p e below G (T655.setTop (mkF m 66 #[rv a1, iv (2 : Int32), iv (0 : Int32), rv dr, iv (1 : Int32)] [(.ref b655), (.ref b655), (.ref b567)]))
  obtain ⟨_, _, ⟨T661, L661, k661, n661⟩, -, X661, ⟨Lc661, hQ661, l661, y661, z661⟩, st661⟩ := X655.specialBack hx (y := own_y3) rfl hown (mvT hZ (own_w hw 23 rfl)) (mvT hZ (own_w hw 24 rfl)) (mvT hZ (own_w hw 25 rfl)) (by decide) (backOf (W := 2) (rm_al l Z a0 hw [] b655 ed h655 n0 (Nat.le_trans Z0 K657.1) A655 f658 f659 f660 g_b655 f656_10) hZ (own_w hw 25 rfl) (own_w hw 22 rfl) (by decide) (by decide)) (g := (mkF m 66 #[rv a1, iv (2 : Int32), iv (0 : Int32), rv dr, iv (1 : Int32)] [(.ref b655), (.ref b655), (.ref b567)])) rfl (by rw [hml]; rfl) (Steps.refl _) (a := b655) (argsL := []) (rest := [(.ref b655), (.ref b567)]) (lenOf pd___V_167 rfl) rfl (by show 2 * 0 + _ ≤ _; exact Nat.le_of_eq rfl) (hb hby d2_66) (fun _ _ => ⟨rfl, e655, (by decide : 6 + 0 ≤ _), (by decide : 24 + 0 ≤ _)⟩)
  clear X655 e655 f658 f659 f660
  dsimp only [Pt.U, Pt.locs, Pt.cells, Pt.slots] at X661 l661 y661 z661 st661 hQ661
  subst l661 y661 z661
  obtain ⟨rfl, N661q, Kc661, gL661_0, gL661_1, gL661_2⟩ := hQ661
  have N661 := Fr.app N651 N661q
  clear N651 N661q
  have f662_0 := f656_0.keep Kc661
  clear f656_0
  have f662_1 := f656_1.keep Kc661 (ninS ne_a1_b655 nin0)
  clear f656_1
  have f662_2 := f656_2.keep Kc661 (ninS ne_a1_b655 nin0)
  clear f656_2
  have f662_3 := f656_3.keep Kc661 (ninS ne_a1_b655 nin0)
  clear f656_3
  have f662_4 := f656_4.keep Kc661 (ninS ne_a1_b655 nin0)
  clear f656_4
  have f662_5 := f656_5.keep Kc661 (ninS ne_a1_b655 nin0)
  clear f656_5
  have f662_6 := f656_6.keep Kc661 (ninS ne_a1_b655 nin0)
  clear f656_6
  have f662_7 := f656_7.keep Kc661 (ninS ne_a1_b655 nin0)
  clear f656_7
  have f662_8 := f656_8.keep Kc661 (ninS ne_a1_b655 nin0)
  clear f656_8
  have f662_9 := f656_9.keep Kc661 (ninS ne_a1_b655 nin0)
  clear f656_9
  have f662_10 := own_Sta_keep f656_10 Kc661 (allS A655.cell all0)
  clear f656_10
  have f662_11 := f656_11.keep Kc661 (ninS ne_ed_b655 nin0)
  clear f656_11
  have f662_12 := f656_12.keep Kc661
  clear f656_12
  have f662_13 := f656_13.keep Kc661 (ninS ne_b567_b655 nin0)
  clear f656_13
  have f662_14 := f656_14.keep Kc661 (ninS ne_b567_b655 nin0)
  clear f656_14
  have f662_15 := f656_15.keep Kc661 (ninS ne_b567_b655 nin0)
  clear f656_15
  have f662_16 := f656_16.keep Kc661 (ninS ne_gb651_b655 nin0)
  clear f656_16
  have f662_17 := A655.keep Kc661
  clear A655
  have K663 : Keep h0 T661.heap [a1] := K657.trans Kc661 (allS (Or.inr sz_b655) all0)
  clear K657 Kc661
  refine own_tr st661 ?_
  clear st661
  show own_Fin p e below G (T661.setTop (mkF m 69 #[rv a1, iv (2 : Int32), iv (0 : Int32), rv dr, iv (1 : Int32)] [(.ref b655), (.ref b567)]))
  obtain ⟨cq664, kq664, q664a, q664b, q664c⟩ := isOf hZ rfl f662_12
  obtain ⟨_, _, ⟨T664, L664, k664, n664⟩, -, X664, ⟨Lc664, hQ664, l664, y664, z664⟩, st664⟩ := X661.interfaceBack hx (xi := own_y10) (y := own_y9) hown (mvT hZ (own_w hw 62 rfl)) (mvT hZ (own_w hw 63 rfl)) (mvT hZ (own_w hw 64 rfl)) (mvT hZ (own_w hw 65 rfl)) (mvT hZ (own_w hw 66 rfl)) (mvT hZ (own_w hw 67 rfl)) (mvT hZ (own_w hw 68 rfl)) (mvT hZ (own_w hw 69 rfl)) (by decide) (backOf (W := 0) (rm_aq1 l Z a0 hw [] b567 b655 gb651 gk651 (.ref b642) (.null) (.null) (.null) (.null) (.null) (.null) (.null) (.null) (.null) T661.heap n0 (Nat.le_trans Z0 K663.1) f662_12 f662_13 f662_14 f662_15 g_b567 f662_17 f662_16 gO651 ne_b567_gb651 g_gb651) hZ (own_w hw 70 rfl) (own_w hw 22 rfl) (by decide) (by decide)) q664a q664b q664c (g := (mkF m 69 #[rv a1, iv (2 : Int32), iv (0 : Int32), rv dr, iv (1 : Int32)] [(.ref b655), (.ref b567)])) rfl (by rw [hml]; rfl) (Steps.refl _) (argsL := [(.ref b655)]) (rest := []) (lenOf pd__Ljava_lang_Object__Z_838 rfl) rfl (by show 2 * 0 + _ ≤ _; exact Nat.le_of_eq rfl) (hb hby d2_69) (fun _ _ => ⟨rfl, rfl, (by decide : 6 + 0 ≤ _), (by decide : 24 + 0 ≤ _)⟩)
  clear X661 f662_13 f662_14 f662_15 q664a q664b q664c
  dsimp only [Pt.U, Pt.locs, Pt.cells, Pt.slots] at X664 l664 y664 z664 st664 hQ664
  subst l664 y664 z664
  obtain ⟨rfl, N664q, Kc664, gL664_0, gL664_1, gL664_2, gB664⟩ := hQ664
  have N664 := Fr.app N661 N664q
  clear N661 N664q
  have f665_0 := f662_0.keep Kc664
  clear f662_0
  have f665_1 := f662_1.keep Kc664 (ninS ne_a1_b567 (ninS ne_a1_gb651 nin0))
  clear f662_1
  have f665_2 := f662_2.keep Kc664 (ninS ne_a1_b567 (ninS ne_a1_gb651 nin0))
  clear f662_2
  have f665_3 := f662_3.keep Kc664 (ninS ne_a1_b567 (ninS ne_a1_gb651 nin0))
  clear f662_3
  have f665_4 := f662_4.keep Kc664 (ninS ne_a1_b567 (ninS ne_a1_gb651 nin0))
  clear f662_4
  have f665_5 := f662_5.keep Kc664 (ninS ne_a1_b567 (ninS ne_a1_gb651 nin0))
  clear f662_5
  have f665_6 := f662_6.keep Kc664 (ninS ne_a1_b567 (ninS ne_a1_gb651 nin0))
  clear f662_6
  have f665_7 := f662_7.keep Kc664 (ninS ne_a1_b567 (ninS ne_a1_gb651 nin0))
  clear f662_7
  have f665_8 := f662_8.keep Kc664 (ninS ne_a1_b567 (ninS ne_a1_gb651 nin0))
  clear f662_8
  have f665_9 := f662_9.keep Kc664 (ninS ne_a1_b567 (ninS ne_a1_gb651 nin0))
  clear f662_9
  have f665_10 := own_Sta_keep f662_10 Kc664 (allS f662_12.cell (allS f662_16.cell all0))
  clear f662_10 f662_16 f665_10
  have f665_11 := f662_11.keep Kc664 (ninS ne_ed_b567 (ninS ne_ed_gb651 nin0))
  clear f662_11 f665_11
  have f665_12 := f662_12.keep Kc664
  clear f662_12 f665_12
  have f665_17 := f662_17.keep Kc664
  clear f662_17 f665_17
  have f665_18 := gL661_0.keep Kc664 (ninS (Ne.symm ne_b567_b655) (ninS (Ne.symm ne_gb651_b655) nin0))
  clear f665_18
  have f665_19 := gL661_1.keep Kc664 (ninS (Ne.symm ne_b567_b655) (ninS (Ne.symm ne_gb651_b655) nin0))
  clear f665_19
  have f665_20 := gL661_2.keep Kc664 (ninS (Ne.symm ne_b567_b655) (ninS (Ne.symm ne_gb651_b655) nin0))
  clear f665_20
  have K666 : Keep h0 T664.heap [a1] := K663.trans Kc664 (allS (Or.inr sz_b567) (allS (Or.inr sz_gb651) all0))
  clear K663 Kc664
  refine own_tr st664 ?_
  clear st664
  show own_Fin p e below G (T664.setTop (mkF m 74 #[rv a1, iv (2 : Int32), iv (0 : Int32), rv dr, iv (1 : Int32)] [(.int (1 : Int32))]))
  refine own_st (fun _ k => XS.pop X664.here hx rfl (hb hby d2_74) rfl rfl k) ?_
  show own_Fin p e below G (T664.setTop (mkF m 75 #[rv a1, iv (2 : Int32), iv (0 : Int32), rv dr, iv (1 : Int32)] []))
  refine own_st (fun _ k => XS.iinc X664.here hx rfl (hb hby d2_75) rfl (l' := #[rv a1, iv (2 : Int32), iv (0 : Int32), rv dr, iv (2 : Int32)]) rfl k) ?_
  show own_Fin p e below G (T664.setTop (mkF m 78 #[rv a1, iv (2 : Int32), iv (0 : Int32), rv dr, iv (2 : Int32)] []))
  refine own_st (fun _ k => XS.goto X664.here hx rfl (pc0 := 78) (pc' := 52) rfl (hb hby d2_78) (by decide) (by decide) k) ?_
  show own_Fin p e below G (T664.setTop (mkF m 52 #[rv a1, iv (2 : Int32), iv (0 : Int32), rv dr, iv (2 : Int32)] []))
  refine own_st (fun _ k => XS.iload X664.here hx rfl (hb hby d2_52) rfl  k) ?_
  show own_Fin p e below G (T664.setTop (mkF m 54 #[rv a1, iv (2 : Int32), iv (0 : Int32), rv dr, iv (2 : Int32)] [(.int (2 : Int32))]))
  refine own_st (fun _ k => XS.iloadN X664.here hx rfl (hb hby d2_54) rfl  k) ?_
  show own_Fin p e below G (T664.setTop (mkF m 55 #[rv a1, iv (2 : Int32), iv (0 : Int32), rv dr, iv (2 : Int32)] [(.int (2 : Int32)), (.int (2 : Int32))]))
  refine own_st (fun _ k => XS.icmpYes X664.here hx rfl (pc0 := 55) (pc' := 81) rfl (hb hby d2_55) rfl (flt (by decide : ¬ ((2 : Int32) < (2 : Int32)))).2.1 (by decide) (by decide) k) ?_
  show own_Fin p e below G (T664.setTop (mkF m 81 #[rv a1, iv (2 : Int32), iv (0 : Int32), rv dr, iv (2 : Int32)] []))
  refine own_st (fun _ k => XS.aloadN X664.here hx rfl (hb hby d2_81) rfl rfl k) ?_
  show own_Fin p e below G (T664.setTop (mkF m 82 #[rv a1, iv (2 : Int32), iv (0 : Int32), rv dr, iv (2 : Int32)] [(.ref a1)]))
  refine own_st (fun _ k => XS.iloadN X664.here hx rfl (hb hby d2_82) rfl  k) ?_
  show own_Fin p e below G (T664.setTop (mkF m 83 #[rv a1, iv (2 : Int32), iv (0 : Int32), rv dr, iv (2 : Int32)] [(.int (2 : Int32)), (.ref a1)]))
  obtain ⟨T667, h667, k667, X667, e667, E667, A667, B667, O667, st667⟩ := newRE X664 hx hZ hown (own_w hw 97 rfl) (own_w hw 98 rfl) rfl (g := (mkF m 83 #[rv a1, iv (2 : Int32), iv (0 : Int32), rv dr, iv (2 : Int32)] [(.int (2 : Int32)), (.ref a1)])) rfl (hb hby d2_83) rfl (by decide) (cap := 2) (by decide) (by decide) (by decide) (by decide) (ad := "[Lcom/example/urania/urania/layered/FlowSide;") (by decide +kernel)
  clear X664
  obtain ⟨b667, g667⟩ : ∃ z, z = T664.heap.size := ⟨_, rfl⟩
  rw [← g667] at A667 B667 st667
  have ne_a1_b667 : a1 ≠ b667 := Nat.ne_of_lt (Nat.lt_of_lt_of_le f665_0.lt (Nat.le_of_eq g667.symm))
  have sz_b667 : h0.size ≤ b667 := Nat.le_trans K666.1 (Nat.le_of_eq g667.symm)
  have g_b667 : n0 ≤ b667 := Nat.le_trans Z0 sz_b667
  have f668_0 := f665_0.ext E667
  clear f665_0
  have f668_1 := f665_1.ext E667
  clear f665_1
  have f668_2 := f665_2.ext E667
  clear f665_2
  have f668_3 := f665_3.ext E667
  clear f665_3
  have f668_4 := f665_4.ext E667
  clear f665_4
  have f668_5 := f665_5.ext E667
  clear f665_5
  have f668_6 := f665_6.ext E667
  clear f665_6
  have f668_7 := f665_7.ext E667
  clear f665_7
  have f668_8 := f665_8.ext E667
  clear f665_8
  have f668_9 := f665_9.ext E667
  clear f665_9
  have K669 : Keep h0 h667 [a1] := K666.ext E667
  clear K666 E667
  have V667 : own_AVk Z h667 b667 k667 (.object "com/example/urania/urania/layered/FlowSide") [.null, .null] := own_AVk_new A667
  clear A667
  refine own_st st667 ?_
  clear st667
  show own_Fin p e below G (T667.setTop (mkF m 86 #[rv a1, iv (2 : Int32), iv (0 : Int32), rv dr, iv (2 : Int32)] [(.ref b667), (.ref a1)]))
  obtain ⟨T670, h670, X670, e670, W670, st670⟩ := putF X667 hx hZ hown (host := "") (Or.inl (own_w hw 99 rfl)) Via.refl e667 f668_5 f668_0 (Or.inr ⟨(own_w hw 100 rfl), rfl, hnm⟩) (own_w hw 9 rfl) (ty := (.array (.object "com/example/urania/urania/layered/FlowSide"))) (by decide) rfl rfl (g := (mkF m 86 #[rv a1, iv (2 : Int32), iv (0 : Int32), rv dr, iv (2 : Int32)] [(.ref b667), (.ref a1)])) rfl rfl (hb hby d2_86)
  clear X667 e667
  have f671_0 := f668_0.wr W670
  clear f668_0
  have sl672 := slot_ne (Z := Z) (a0 := a0) (Or.inr (own_w hw 45 rfl)) (Or.inr (own_w hw 100 rfl)) (by decide) (t := (.object "java/util/List")) (t' := (.array (.object "com/example/urania/urania/layered/FlowSide"))) (by decide) (by decide)
  have f671_1 := f668_1.other W670 (Or.inr sl672)
  clear f668_1
  have sl673 := slot_ne (Z := Z) (a0 := a0) (Or.inr (own_w hw 47 rfl)) (Or.inr (own_w hw 100 rfl)) (by decide) (t := (.object "java/util/List")) (t' := (.array (.object "com/example/urania/urania/layered/FlowSide"))) (by decide) (by decide)
  have f671_2 := f668_2.other W670 (Or.inr sl673)
  clear f668_2
  have sl674 := slot_ne (Z := Z) (a0 := a0) (Or.inr (own_w hw 49 rfl)) (Or.inr (own_w hw 100 rfl)) (by decide) (t := (.object "com/example/urania/urania/Direction")) (t' := (.array (.object "com/example/urania/urania/layered/FlowSide"))) (by decide) (by decide)
  have f671_3 := f668_3.other W670 (Or.inr sl674)
  clear f668_3
  have sl675 := slot_ne (Z := Z) (a0 := a0) (Or.inr (own_w hw 53 rfl)) (Or.inr (own_w hw 100 rfl)) (by decide) (t := (.array (.object "com/example/urania/urania/layered/Ports$Freedom"))) (t' := (.array (.object "com/example/urania/urania/layered/FlowSide"))) (by decide) (by decide)
  have f671_4 := f668_4.other W670 (Or.inr sl675)
  clear f668_4
  have sl676 := slot_ne (Z := Z) (a0 := a0) (Or.inr (own_w hw 104 rfl)) (Or.inr (own_w hw 100 rfl)) (by decide) (t := (.array (.array .double))) (t' := (.array (.object "com/example/urania/urania/layered/FlowSide"))) (by decide) (by decide)
  have f671_6 := f668_6.other W670 (Or.inr sl676)
  clear f668_6
  have sl677 := slot_ne (Z := Z) (a0 := a0) (Or.inr (own_w hw 107 rfl)) (Or.inr (own_w hw 100 rfl)) (by decide) (t := (.array .int)) (t' := (.array (.object "com/example/urania/urania/layered/FlowSide"))) (by decide) (by decide)
  have f671_7 := f668_7.other W670 (Or.inr sl677)
  clear f668_7
  have sl678 := slot_ne (Z := Z) (a0 := a0) (Or.inr (own_w hw 109 rfl)) (Or.inr (own_w hw 100 rfl)) (by decide) (t := (.array .int)) (t' := (.array (.object "com/example/urania/urania/layered/FlowSide"))) (by decide) (by decide)
  have f671_8 := f668_8.other W670 (Or.inr sl678)
  clear f668_8
  have sl679 := slot_ne (Z := Z) (a0 := a0) (Or.inr (own_w hw 111 rfl)) (Or.inr (own_w hw 100 rfl)) (by decide) (t := (.array .int)) (t' := (.array (.object "com/example/urania/urania/layered/FlowSide"))) (by decide) (by decide)
  have f671_9 := f668_9.other W670 (Or.inr sl679)
  clear f668_9
  have f671_10 := B667.wr W670
  clear B667
  have f671_11 := V667.other W670 (Ne.symm ne_a1_b667)
  clear V667
  have K680 : Keep h0 h670 [a1] := K669.wr W670 (Or.inl (List.mem_of_getElem? (i := 0) rfl))
  clear K669
  have N681 := Fr.snoc X670 N664 g1
  clear N664
  have Fw670 : Fld Z h670 a1 "com/example/urania/urania/layered/Ports" "border" "[Lcom/example/urania/urania/layered/FlowSide;" (.ref b667) := f668_5.same W670
  clear f668_5 W670
  refine own_st st670 ?_
  clear st670
  show own_Fin p e below G (T670.setTop (mkF m 89 #[rv a1, iv (2 : Int32), iv (0 : Int32), rv dr, iv (2 : Int32)] []))
  refine own_st (fun _ k => XS.aloadN X670.here hx rfl (hb hby d2_89) rfl rfl k) ?_
  show own_Fin p e below G (T670.setTop (mkF m 90 #[rv a1, iv (2 : Int32), iv (0 : Int32), rv dr, iv (2 : Int32)] [(.ref a1)]))
  refine own_st (fun _ k => XS.iloadN X670.here hx rfl (hb hby d2_90) rfl  k) ?_
  show own_Fin p e below G (T670.setTop (mkF m 91 #[rv a1, iv (2 : Int32), iv (0 : Int32), rv dr, iv (2 : Int32)] [(.int (2 : Int32)), (.ref a1)]))
  obtain ⟨T682, h682, k682, X682, e682, E682, A682, B682, O682, st682⟩ := newRA X670 hx hZ hown (ty := .double) (C := "[D") (by decide +kernel) (own_w hw 101 rfl) (own_w hw 102 rfl) e670 (g := (mkF m 91 #[rv a1, iv (2 : Int32), iv (0 : Int32), rv dr, iv (2 : Int32)] [(.int (2 : Int32)), (.ref a1)])) rfl (hb hby d2_91) rfl (by decide) (cap := 2) (by decide) (by decide) (by decide) (by decide) (ad := "[[D") (by decide +kernel)
  clear X670 e670
  obtain ⟨b682, g682⟩ : ∃ z, z = h670.size := ⟨_, rfl⟩
  rw [← g682] at A682 B682 st682
  have ne_a1_b682 : a1 ≠ b682 := Nat.ne_of_lt (Nat.lt_of_lt_of_le f671_0.lt (Nat.le_of_eq g682.symm))
  have ne_b667_b682 : b667 ≠ b682 := Nat.ne_of_lt (Nat.lt_of_lt_of_le f671_10.lt (Nat.le_of_eq g682.symm))
  have sz_b682 : h0.size ≤ b682 := Nat.le_trans K680.1 (Nat.le_of_eq g682.symm)
  have g_b682 : n0 ≤ b682 := Nat.le_trans Z0 sz_b682
  have f683_0 := f671_0.ext E682
  clear f671_0
  have f683_1 := f671_1.ext E682
  clear f671_1
  have f683_2 := f671_2.ext E682
  clear f671_2
  have f683_3 := f671_3.ext E682
  clear f671_3
  have f683_4 := f671_4.ext E682
  clear f671_4
  have f683_5 := Fw670.ext E682
  clear Fw670
  have f683_6 := f671_6.ext E682
  clear f671_6
  have f683_7 := f671_7.ext E682
  clear f671_7
  have f683_8 := f671_8.ext E682
  clear f671_8
  have f683_9 := f671_9.ext E682
  clear f671_9
  have f683_10 := f671_10.ext E682
  clear f671_10
  have f683_11 := f671_11.ext E682
  clear f671_11
  have K684 : Keep h0 h682 [a1] := K680.ext E682
  clear K680 E682
  have V682 : own_AVk Z h682 b682 k682 (.array .double) [.null, .null] := own_AVk_new A682
  clear A682
  refine own_st st682 ?_
  clear st682
  show own_Fin p e below G (T682.setTop (mkF m 94 #[rv a1, iv (2 : Int32), iv (0 : Int32), rv dr, iv (2 : Int32)] [(.ref b682), (.ref a1)]))
  obtain ⟨T685, h685, X685, e685, W685, st685⟩ := putF X682 hx hZ hown (host := "") (Or.inl (own_w hw 103 rfl)) Via.refl e682 f683_6 f683_0 (Or.inr ⟨(own_w hw 104 rfl), rfl, hnm⟩) (own_w hw 9 rfl) (ty := (.array (.array .double))) (by decide) rfl rfl (g := (mkF m 94 #[rv a1, iv (2 : Int32), iv (0 : Int32), rv dr, iv (2 : Int32)] [(.ref b682), (.ref a1)])) rfl rfl (hb hby d2_94)
  clear X682 e682
  have f686_0 := f683_0.wr W685
  clear f683_0
  have sl687 := slot_ne (Z := Z) (a0 := a0) (Or.inr (own_w hw 45 rfl)) (Or.inr (own_w hw 104 rfl)) (by decide) (t := (.object "java/util/List")) (t' := (.array (.array .double))) (by decide) (by decide)
  have f686_1 := f683_1.other W685 (Or.inr sl687)
  clear f683_1
  have sl688 := slot_ne (Z := Z) (a0 := a0) (Or.inr (own_w hw 47 rfl)) (Or.inr (own_w hw 104 rfl)) (by decide) (t := (.object "java/util/List")) (t' := (.array (.array .double))) (by decide) (by decide)
  have f686_2 := f683_2.other W685 (Or.inr sl688)
  clear f683_2
  have sl689 := slot_ne (Z := Z) (a0 := a0) (Or.inr (own_w hw 49 rfl)) (Or.inr (own_w hw 104 rfl)) (by decide) (t := (.object "com/example/urania/urania/Direction")) (t' := (.array (.array .double))) (by decide) (by decide)
  have f686_3 := f683_3.other W685 (Or.inr sl689)
  clear f683_3
  have sl690 := slot_ne (Z := Z) (a0 := a0) (Or.inr (own_w hw 53 rfl)) (Or.inr (own_w hw 104 rfl)) (by decide) (t := (.array (.object "com/example/urania/urania/layered/Ports$Freedom"))) (t' := (.array (.array .double))) (by decide) (by decide)
  have f686_4 := f683_4.other W685 (Or.inr sl690)
  clear f683_4
  have sl691 := slot_ne (Z := Z) (a0 := a0) (Or.inr (own_w hw 100 rfl)) (Or.inr (own_w hw 104 rfl)) (by decide) (t := (.array (.object "com/example/urania/urania/layered/FlowSide"))) (t' := (.array (.array .double))) (by decide) (by decide)
  have f686_5 := f683_5.other W685 (Or.inr sl691)
  clear f683_5
  have sl692 := slot_ne (Z := Z) (a0 := a0) (Or.inr (own_w hw 107 rfl)) (Or.inr (own_w hw 104 rfl)) (by decide) (t := (.array .int)) (t' := (.array (.array .double))) (by decide) (by decide)
  have f686_7 := f683_7.other W685 (Or.inr sl692)
  clear f683_7
  have sl693 := slot_ne (Z := Z) (a0 := a0) (Or.inr (own_w hw 109 rfl)) (Or.inr (own_w hw 104 rfl)) (by decide) (t := (.array .int)) (t' := (.array (.array .double))) (by decide) (by decide)
  have f686_8 := f683_8.other W685 (Or.inr sl693)
  clear f683_8
  have sl694 := slot_ne (Z := Z) (a0 := a0) (Or.inr (own_w hw 111 rfl)) (Or.inr (own_w hw 104 rfl)) (by decide) (t := (.array .int)) (t' := (.array (.array .double))) (by decide) (by decide)
  have f686_9 := f683_9.other W685 (Or.inr sl694)
  clear f683_9
  have f686_10 := f683_10.wr W685
  clear f683_10
  have f686_11 := f683_11.other W685 (Ne.symm ne_a1_b667)
  clear f683_11
  have f686_12 := B682.wr W685
  clear B682
  have f686_13 := V682.other W685 (Ne.symm ne_a1_b682)
  clear V682
  have K695 : Keep h0 h685 [a1] := K684.wr W685 (Or.inl (List.mem_of_getElem? (i := 0) rfl))
  clear K684
  have N696 := Fr.snoc X685 N681 g1
  clear N681
  have Fw685 : Fld Z h685 a1 "com/example/urania/urania/layered/Ports" "borderPort" "[[D" (.ref b682) := f683_6.same W685
  clear f683_6 W685
  refine own_st st685 ?_
  clear st685
  show own_Fin p e below G (T685.setTop (mkF m 97 #[rv a1, iv (2 : Int32), iv (0 : Int32), rv dr, iv (2 : Int32)] []))
  refine own_st (fun _ k => XS.aloadN X685.here hx rfl (hb hby d2_97) rfl rfl k) ?_
  show own_Fin p e below G (T685.setTop (mkF m 98 #[rv a1, iv (2 : Int32), iv (0 : Int32), rv dr, iv (2 : Int32)] [(.ref a1)]))
  refine own_st (fun _ k => XS.iloadN X685.here hx rfl (hb hby d2_98) rfl  k) ?_
  show own_Fin p e below G (T685.setTop (mkF m 99 #[rv a1, iv (2 : Int32), iv (0 : Int32), rv dr, iv (2 : Int32)] [(.int (0 : Int32)), (.ref a1)]))
  obtain ⟨T697, h697, k697, X697, e697, E697, A697, st697⟩ := newP X685 hx hZ (own_w hw 105 rfl) e685 (g := (mkF m 99 #[rv a1, iv (2 : Int32), iv (0 : Int32), rv dr, iv (2 : Int32)] [(.int (0 : Int32)), (.ref a1)])) rfl (hb hby d2_99) rfl (by decide) (cap := 0) (by decide) (by decide) (by decide) (by decide)
  clear X685 e685
  obtain ⟨b697, g697⟩ : ∃ z, z = h685.size := ⟨_, rfl⟩
  rw [← g697] at A697 st697
  have ne_a1_b697 : a1 ≠ b697 := Nat.ne_of_lt (Nat.lt_of_lt_of_le f686_0.lt (Nat.le_of_eq g697.symm))
  have ne_b667_b697 : b667 ≠ b697 := Nat.ne_of_lt (Nat.lt_of_lt_of_le f686_10.lt (Nat.le_of_eq g697.symm))
  have ne_b682_b697 : b682 ≠ b697 := Nat.ne_of_lt (Nat.lt_of_lt_of_le f686_12.lt (Nat.le_of_eq g697.symm))
  have sz_b697 : h0.size ≤ b697 := Nat.le_trans K695.1 (Nat.le_of_eq g697.symm)
  have g_b697 : n0 ≤ b697 := Nat.le_trans Z0 sz_b697
  have f698_0 := f686_0.ext E697
  clear f686_0
  have f698_1 := f686_1.ext E697
  clear f686_1
  have f698_2 := f686_2.ext E697
  clear f686_2
  have f698_3 := f686_3.ext E697
  clear f686_3
  have f698_4 := f686_4.ext E697
  clear f686_4
  have f698_5 := f686_5.ext E697
  clear f686_5
  have f698_6 := Fw685.ext E697
  clear Fw685
  have f698_7 := f686_7.ext E697
  clear f686_7
  have f698_8 := f686_8.ext E697
  clear f686_8
  have f698_9 := f686_9.ext E697
  clear f686_9
  have f698_10 := f686_10.ext E697
  clear f686_10
  have f698_11 := f686_11.ext E697
  clear f686_11
  have f698_12 := f686_12.ext E697
  clear f686_12
  have f698_13 := f686_13.ext E697
  clear f686_13
  have K699 : Keep h0 h697 [a1] := K695.ext E697
  clear K695 E697
  have V697 : own_AV Z h697 b697 .int (own_is []) := own_AV_newI A697
  clear A697
  refine own_st st697 ?_
  clear st697
  show own_Fin p e below G (T697.setTop (mkF m 101 #[rv a1, iv (2 : Int32), iv (0 : Int32), rv dr, iv (2 : Int32)] [(.ref b697), (.ref a1)]))
  obtain ⟨T700, h700, X700, e700, W700, st700⟩ := putF X697 hx hZ hown (host := "") (Or.inl (own_w hw 106 rfl)) Via.refl e697 f698_7 f698_0 (Or.inr ⟨(own_w hw 107 rfl), rfl, hnm⟩) (own_w hw 9 rfl) (ty := (.array .int)) (by decide) rfl rfl (g := (mkF m 101 #[rv a1, iv (2 : Int32), iv (0 : Int32), rv dr, iv (2 : Int32)] [(.ref b697), (.ref a1)])) rfl rfl (hb hby d2_101)
  clear X697 e697
  have f701_0 := f698_0.wr W700
  clear f698_0
  have sl702 := slot_ne (Z := Z) (a0 := a0) (Or.inr (own_w hw 45 rfl)) (Or.inr (own_w hw 107 rfl)) (by decide) (t := (.object "java/util/List")) (t' := (.array .int)) (by decide) (by decide)
  have f701_1 := f698_1.other W700 (Or.inr sl702)
  clear f698_1
  have sl703 := slot_ne (Z := Z) (a0 := a0) (Or.inr (own_w hw 47 rfl)) (Or.inr (own_w hw 107 rfl)) (by decide) (t := (.object "java/util/List")) (t' := (.array .int)) (by decide) (by decide)
  have f701_2 := f698_2.other W700 (Or.inr sl703)
  clear f698_2
  have sl704 := slot_ne (Z := Z) (a0 := a0) (Or.inr (own_w hw 49 rfl)) (Or.inr (own_w hw 107 rfl)) (by decide) (t := (.object "com/example/urania/urania/Direction")) (t' := (.array .int)) (by decide) (by decide)
  have f701_3 := f698_3.other W700 (Or.inr sl704)
  clear f698_3
  have sl705 := slot_ne (Z := Z) (a0 := a0) (Or.inr (own_w hw 53 rfl)) (Or.inr (own_w hw 107 rfl)) (by decide) (t := (.array (.object "com/example/urania/urania/layered/Ports$Freedom"))) (t' := (.array .int)) (by decide) (by decide)
  have f701_4 := f698_4.other W700 (Or.inr sl705)
  clear f698_4
  have sl706 := slot_ne (Z := Z) (a0 := a0) (Or.inr (own_w hw 100 rfl)) (Or.inr (own_w hw 107 rfl)) (by decide) (t := (.array (.object "com/example/urania/urania/layered/FlowSide"))) (t' := (.array .int)) (by decide) (by decide)
  have f701_5 := f698_5.other W700 (Or.inr sl706)
  clear f698_5
  have sl707 := slot_ne (Z := Z) (a0 := a0) (Or.inr (own_w hw 104 rfl)) (Or.inr (own_w hw 107 rfl)) (by decide) (t := (.array (.array .double))) (t' := (.array .int)) (by decide) (by decide)
  have f701_6 := f698_6.other W700 (Or.inr sl707)
  clear f698_6
  have sl708 := slot_ne (Z := Z) (a0 := a0) (Or.inr (own_w hw 109 rfl)) (Or.inr (own_w hw 107 rfl)) (by decide) (t := (.array .int)) (t' := (.array .int)) (by decide) (by decide)
  have f701_8 := f698_8.other W700 (Or.inr sl708)
  clear f698_8
  have sl709 := slot_ne (Z := Z) (a0 := a0) (Or.inr (own_w hw 111 rfl)) (Or.inr (own_w hw 107 rfl)) (by decide) (t := (.array .int)) (t' := (.array .int)) (by decide) (by decide)
  have f701_9 := f698_9.other W700 (Or.inr sl709)
  clear f698_9
  have f701_10 := f698_10.wr W700
  clear f698_10
  have f701_11 := f698_11.other W700 (Ne.symm ne_a1_b667)
  clear f698_11
  have f701_12 := f698_12.wr W700
  clear f698_12
  have f701_13 := f698_13.other W700 (Ne.symm ne_a1_b682)
  clear f698_13
  have f701_14 := V697.other W700 (Ne.symm ne_a1_b697)
  clear V697
  have K710 : Keep h0 h700 [a1] := K699.wr W700 (Or.inl (List.mem_of_getElem? (i := 0) rfl))
  clear K699
  have N711 := Fr.snoc X700 N696 g1
  clear N696
  have Fw700 : Fld Z h700 a1 "com/example/urania/urania/layered/Ports" "sourcePort" "[I" (.ref b697) := f698_7.same W700
  clear f698_7 W700
  refine own_st st700 ?_
  clear st700
  show own_Fin p e below G (T700.setTop (mkF m 104 #[rv a1, iv (2 : Int32), iv (0 : Int32), rv dr, iv (2 : Int32)] []))
  refine own_st (fun _ k => XS.aloadN X700.here hx rfl (hb hby d2_104) rfl rfl k) ?_
  show own_Fin p e below G (T700.setTop (mkF m 105 #[rv a1, iv (2 : Int32), iv (0 : Int32), rv dr, iv (2 : Int32)] [(.ref a1)]))
  refine own_st (fun _ k => XS.iloadN X700.here hx rfl (hb hby d2_105) rfl  k) ?_
  show own_Fin p e below G (T700.setTop (mkF m 106 #[rv a1, iv (2 : Int32), iv (0 : Int32), rv dr, iv (2 : Int32)] [(.int (0 : Int32)), (.ref a1)]))
  obtain ⟨T712, h712, k712, X712, e712, E712, A712, st712⟩ := newP X700 hx hZ (own_w hw 105 rfl) e700 (g := (mkF m 106 #[rv a1, iv (2 : Int32), iv (0 : Int32), rv dr, iv (2 : Int32)] [(.int (0 : Int32)), (.ref a1)])) rfl (hb hby d2_106) rfl (by decide) (cap := 0) (by decide) (by decide) (by decide) (by decide)
  clear X700 e700
  obtain ⟨b712, g712⟩ : ∃ z, z = h700.size := ⟨_, rfl⟩
  rw [← g712] at A712 st712
  have ne_a1_b712 : a1 ≠ b712 := Nat.ne_of_lt (Nat.lt_of_lt_of_le f701_0.lt (Nat.le_of_eq g712.symm))
  have ne_b667_b712 : b667 ≠ b712 := Nat.ne_of_lt (Nat.lt_of_lt_of_le f701_10.lt (Nat.le_of_eq g712.symm))
  have ne_b682_b712 : b682 ≠ b712 := Nat.ne_of_lt (Nat.lt_of_lt_of_le f701_12.lt (Nat.le_of_eq g712.symm))
  have ne_b697_b712 : b697 ≠ b712 := Nat.ne_of_lt (Nat.lt_of_lt_of_le f701_14.lt (Nat.le_of_eq g712.symm))
  have sz_b712 : h0.size ≤ b712 := Nat.le_trans K710.1 (Nat.le_of_eq g712.symm)
  have g_b712 : n0 ≤ b712 := Nat.le_trans Z0 sz_b712
  have f713_0 := f701_0.ext E712
  clear f701_0
  have f713_1 := f701_1.ext E712
  clear f701_1
  have f713_2 := f701_2.ext E712
  clear f701_2
  have f713_3 := f701_3.ext E712
  clear f701_3
  have f713_4 := f701_4.ext E712
  clear f701_4
  have f713_5 := f701_5.ext E712
  clear f701_5
  have f713_6 := f701_6.ext E712
  clear f701_6
  have f713_7 := Fw700.ext E712
  clear Fw700
  have f713_8 := f701_8.ext E712
  clear f701_8
  have f713_9 := f701_9.ext E712
  clear f701_9
  have f713_10 := f701_10.ext E712
  clear f701_10
  have f713_11 := f701_11.ext E712
  clear f701_11
  have f713_12 := f701_12.ext E712
  clear f701_12
  have f713_13 := f701_13.ext E712
  clear f701_13
  have f713_14 := f701_14.ext E712
  clear f701_14
  have K714 : Keep h0 h712 [a1] := K710.ext E712
  clear K710 E712
  have V712 : own_AV Z h712 b712 .int (own_is []) := own_AV_newI A712
  clear A712
  refine own_st st712 ?_
  clear st712
  show own_Fin p e below G (T712.setTop (mkF m 108 #[rv a1, iv (2 : Int32), iv (0 : Int32), rv dr, iv (2 : Int32)] [(.ref b712), (.ref a1)]))
  obtain ⟨T715, h715, X715, e715, W715, st715⟩ := putF X712 hx hZ hown (host := "") (Or.inl (own_w hw 108 rfl)) Via.refl e712 f713_8 f713_0 (Or.inr ⟨(own_w hw 109 rfl), rfl, hnm⟩) (own_w hw 9 rfl) (ty := (.array .int)) (by decide) rfl rfl (g := (mkF m 108 #[rv a1, iv (2 : Int32), iv (0 : Int32), rv dr, iv (2 : Int32)] [(.ref b712), (.ref a1)])) rfl rfl (hb hby d2_108)
  clear X712 e712
  have f716_0 := f713_0.wr W715
  clear f713_0
  have sl717 := slot_ne (Z := Z) (a0 := a0) (Or.inr (own_w hw 45 rfl)) (Or.inr (own_w hw 109 rfl)) (by decide) (t := (.object "java/util/List")) (t' := (.array .int)) (by decide) (by decide)
  have f716_1 := f713_1.other W715 (Or.inr sl717)
  clear f713_1
  have sl718 := slot_ne (Z := Z) (a0 := a0) (Or.inr (own_w hw 47 rfl)) (Or.inr (own_w hw 109 rfl)) (by decide) (t := (.object "java/util/List")) (t' := (.array .int)) (by decide) (by decide)
  have f716_2 := f713_2.other W715 (Or.inr sl718)
  clear f713_2
  have sl719 := slot_ne (Z := Z) (a0 := a0) (Or.inr (own_w hw 49 rfl)) (Or.inr (own_w hw 109 rfl)) (by decide) (t := (.object "com/example/urania/urania/Direction")) (t' := (.array .int)) (by decide) (by decide)
  have f716_3 := f713_3.other W715 (Or.inr sl719)
  clear f713_3
  have sl720 := slot_ne (Z := Z) (a0 := a0) (Or.inr (own_w hw 53 rfl)) (Or.inr (own_w hw 109 rfl)) (by decide) (t := (.array (.object "com/example/urania/urania/layered/Ports$Freedom"))) (t' := (.array .int)) (by decide) (by decide)
  have f716_4 := f713_4.other W715 (Or.inr sl720)
  clear f713_4
  have sl721 := slot_ne (Z := Z) (a0 := a0) (Or.inr (own_w hw 100 rfl)) (Or.inr (own_w hw 109 rfl)) (by decide) (t := (.array (.object "com/example/urania/urania/layered/FlowSide"))) (t' := (.array .int)) (by decide) (by decide)
  have f716_5 := f713_5.other W715 (Or.inr sl721)
  clear f713_5
  have sl722 := slot_ne (Z := Z) (a0 := a0) (Or.inr (own_w hw 104 rfl)) (Or.inr (own_w hw 109 rfl)) (by decide) (t := (.array (.array .double))) (t' := (.array .int)) (by decide) (by decide)
  have f716_6 := f713_6.other W715 (Or.inr sl722)
  clear f713_6
  have sl723 := slot_ne (Z := Z) (a0 := a0) (Or.inr (own_w hw 107 rfl)) (Or.inr (own_w hw 109 rfl)) (by decide) (t := (.array .int)) (t' := (.array .int)) (by decide) (by decide)
  have f716_7 := f713_7.other W715 (Or.inr sl723)
  clear f713_7
  have sl724 := slot_ne (Z := Z) (a0 := a0) (Or.inr (own_w hw 111 rfl)) (Or.inr (own_w hw 109 rfl)) (by decide) (t := (.array .int)) (t' := (.array .int)) (by decide) (by decide)
  have f716_9 := f713_9.other W715 (Or.inr sl724)
  clear f713_9
  have f716_10 := f713_10.wr W715
  clear f713_10
  have f716_11 := f713_11.other W715 (Ne.symm ne_a1_b667)
  clear f713_11
  have f716_12 := f713_12.wr W715
  clear f713_12
  have f716_13 := f713_13.other W715 (Ne.symm ne_a1_b682)
  clear f713_13
  have f716_14 := f713_14.other W715 (Ne.symm ne_a1_b697)
  clear f713_14
  have f716_15 := V712.other W715 (Ne.symm ne_a1_b712)
  clear V712
  have K725 : Keep h0 h715 [a1] := K714.wr W715 (Or.inl (List.mem_of_getElem? (i := 0) rfl))
  clear K714
  have N726 := Fr.snoc X715 N711 g1
  clear N711
  have Fw715 : Fld Z h715 a1 "com/example/urania/urania/layered/Ports" "targetPort" "[I" (.ref b712) := f713_8.same W715
  clear f713_8 W715
  refine own_st st715 ?_
  clear st715
  show own_Fin p e below G (T715.setTop (mkF m 111 #[rv a1, iv (2 : Int32), iv (0 : Int32), rv dr, iv (2 : Int32)] []))
  refine own_st (fun _ k => XS.aloadN X715.here hx rfl (hb hby d2_111) rfl rfl k) ?_
  show own_Fin p e below G (T715.setTop (mkF m 112 #[rv a1, iv (2 : Int32), iv (0 : Int32), rv dr, iv (2 : Int32)] [(.ref a1)]))
  refine own_st (fun _ k => XS.iloadN X715.here hx rfl (hb hby d2_112) rfl  k) ?_
  show own_Fin p e below G (T715.setTop (mkF m 113 #[rv a1, iv (2 : Int32), iv (0 : Int32), rv dr, iv (2 : Int32)] [(.int (0 : Int32)), (.ref a1)]))
  obtain ⟨T727, h727, k727, X727, e727, E727, A727, st727⟩ := newP X715 hx hZ (own_w hw 105 rfl) e715 (g := (mkF m 113 #[rv a1, iv (2 : Int32), iv (0 : Int32), rv dr, iv (2 : Int32)] [(.int (0 : Int32)), (.ref a1)])) rfl (hb hby d2_113) rfl (by decide) (cap := 0) (by decide) (by decide) (by decide) (by decide)
  clear X715 e715
  obtain ⟨b727, g727⟩ : ∃ z, z = h715.size := ⟨_, rfl⟩
  rw [← g727] at A727 st727
  have ne_a1_b727 : a1 ≠ b727 := Nat.ne_of_lt (Nat.lt_of_lt_of_le f716_0.lt (Nat.le_of_eq g727.symm))
  have ne_b667_b727 : b667 ≠ b727 := Nat.ne_of_lt (Nat.lt_of_lt_of_le f716_10.lt (Nat.le_of_eq g727.symm))
  have ne_b682_b727 : b682 ≠ b727 := Nat.ne_of_lt (Nat.lt_of_lt_of_le f716_12.lt (Nat.le_of_eq g727.symm))
  have ne_b697_b727 : b697 ≠ b727 := Nat.ne_of_lt (Nat.lt_of_lt_of_le f716_14.lt (Nat.le_of_eq g727.symm))
  have ne_b712_b727 : b712 ≠ b727 := Nat.ne_of_lt (Nat.lt_of_lt_of_le f716_15.lt (Nat.le_of_eq g727.symm))
  have sz_b727 : h0.size ≤ b727 := Nat.le_trans K725.1 (Nat.le_of_eq g727.symm)
  have g_b727 : n0 ≤ b727 := Nat.le_trans Z0 sz_b727
  have f728_0 := f716_0.ext E727
  clear f716_0
  have f728_1 := f716_1.ext E727
  clear f716_1
  have f728_2 := f716_2.ext E727
  clear f716_2
  have f728_3 := f716_3.ext E727
  clear f716_3
  have f728_4 := f716_4.ext E727
  clear f716_4
  have f728_5 := f716_5.ext E727
  clear f716_5
  have f728_6 := f716_6.ext E727
  clear f716_6
  have f728_7 := f716_7.ext E727
  clear f716_7
  have f728_8 := Fw715.ext E727
  clear Fw715
  have f728_9 := f716_9.ext E727
  clear f716_9
  have f728_10 := f716_10.ext E727
  clear f716_10
  have f728_11 := f716_11.ext E727
  clear f716_11
  have f728_12 := f716_12.ext E727
  clear f716_12
  have f728_13 := f716_13.ext E727
  clear f716_13
  have f728_14 := f716_14.ext E727
  clear f716_14
  have f728_15 := f716_15.ext E727
  clear f716_15
  have K729 : Keep h0 h727 [a1] := K725.ext E727
  clear K725 E727
  have V727 : own_AV Z h727 b727 .int (own_is []) := own_AV_newI A727
  clear A727
  refine own_st st727 ?_
  clear st727
  show own_Fin p e below G (T727.setTop (mkF m 115 #[rv a1, iv (2 : Int32), iv (0 : Int32), rv dr, iv (2 : Int32)] [(.ref b727), (.ref a1)]))
  obtain ⟨T730, h730, X730, e730, W730, st730⟩ := putF X727 hx hZ hown (host := "") (Or.inl (own_w hw 110 rfl)) Via.refl e727 f728_9 f728_0 (Or.inr ⟨(own_w hw 111 rfl), rfl, hnm⟩) (own_w hw 9 rfl) (ty := (.array .int)) (by decide) rfl rfl (g := (mkF m 115 #[rv a1, iv (2 : Int32), iv (0 : Int32), rv dr, iv (2 : Int32)] [(.ref b727), (.ref a1)])) rfl rfl (hb hby d2_115)
  clear X727 e727
  have f731_0 := f728_0.wr W730
  clear f728_0 f731_0
  have sl732 := slot_ne (Z := Z) (a0 := a0) (Or.inr (own_w hw 45 rfl)) (Or.inr (own_w hw 111 rfl)) (by decide) (t := (.object "java/util/List")) (t' := (.array .int)) (by decide) (by decide)
  have f731_1 := f728_1.other W730 (Or.inr sl732)
  clear f728_1 f731_1
  have sl733 := slot_ne (Z := Z) (a0 := a0) (Or.inr (own_w hw 47 rfl)) (Or.inr (own_w hw 111 rfl)) (by decide) (t := (.object "java/util/List")) (t' := (.array .int)) (by decide) (by decide)
  have f731_2 := f728_2.other W730 (Or.inr sl733)
  clear f728_2 f731_2
  have sl734 := slot_ne (Z := Z) (a0 := a0) (Or.inr (own_w hw 49 rfl)) (Or.inr (own_w hw 111 rfl)) (by decide) (t := (.object "com/example/urania/urania/Direction")) (t' := (.array .int)) (by decide) (by decide)
  have f731_3 := f728_3.other W730 (Or.inr sl734)
  clear f728_3 f731_3
  have sl735 := slot_ne (Z := Z) (a0 := a0) (Or.inr (own_w hw 53 rfl)) (Or.inr (own_w hw 111 rfl)) (by decide) (t := (.array (.object "com/example/urania/urania/layered/Ports$Freedom"))) (t' := (.array .int)) (by decide) (by decide)
  have f731_4 := f728_4.other W730 (Or.inr sl735)
  clear f728_4 f731_4
  have sl736 := slot_ne (Z := Z) (a0 := a0) (Or.inr (own_w hw 100 rfl)) (Or.inr (own_w hw 111 rfl)) (by decide) (t := (.array (.object "com/example/urania/urania/layered/FlowSide"))) (t' := (.array .int)) (by decide) (by decide)
  have f731_5 := f728_5.other W730 (Or.inr sl736)
  clear f728_5
  have sl737 := slot_ne (Z := Z) (a0 := a0) (Or.inr (own_w hw 104 rfl)) (Or.inr (own_w hw 111 rfl)) (by decide) (t := (.array (.array .double))) (t' := (.array .int)) (by decide) (by decide)
  have f731_6 := f728_6.other W730 (Or.inr sl737)
  clear f728_6
  have sl738 := slot_ne (Z := Z) (a0 := a0) (Or.inr (own_w hw 107 rfl)) (Or.inr (own_w hw 111 rfl)) (by decide) (t := (.array .int)) (t' := (.array .int)) (by decide) (by decide)
  have f731_7 := f728_7.other W730 (Or.inr sl738)
  clear f728_7
  have sl739 := slot_ne (Z := Z) (a0 := a0) (Or.inr (own_w hw 109 rfl)) (Or.inr (own_w hw 111 rfl)) (by decide) (t := (.array .int)) (t' := (.array .int)) (by decide) (by decide)
  have f731_8 := f728_8.other W730 (Or.inr sl739)
  clear f728_8
  have f731_10 := f728_10.wr W730
  clear f728_10
  have f731_11 := f728_11.other W730 (Ne.symm ne_a1_b667)
  clear f728_11
  have f731_12 := f728_12.wr W730
  clear f728_12 f731_12
  have f731_13 := f728_13.other W730 (Ne.symm ne_a1_b682)
  clear f728_13
  have f731_14 := f728_14.other W730 (Ne.symm ne_a1_b697)
  clear f728_14
  have f731_15 := f728_15.other W730 (Ne.symm ne_a1_b712)
  clear f728_15
  have f731_16 := V727.other W730 (Ne.symm ne_a1_b727)
  clear V727 f731_16
  have K740 : Keep h0 h730 [a1] := K729.wr W730 (Or.inl (List.mem_of_getElem? (i := 0) rfl))
  clear K729
  have N741 := Fr.snoc X730 N726 g1
  clear N726
  have Fw730 : Fld Z h730 a1 "com/example/urania/urania/layered/Ports" "group" "[I" (.ref b727) := f728_9.same W730
  clear f728_9 W730 Fw730
  refine own_st st730 ?_
  clear st730
  show own_Fin p e below G (T730.setTop (mkF m 118 #[rv a1, iv (2 : Int32), iv (0 : Int32), rv dr, iv (2 : Int32)] []))
  refine own_st (fun _ k => XS.aloadN X730.here hx rfl (hb hby d2_118) rfl rfl k) ?_
  show own_Fin p e below G (T730.setTop (mkF m 119 #[rv a1, iv (2 : Int32), iv (0 : Int32), rv dr, iv (2 : Int32)] [(.ref a1)]))
  obtain ⟨T742, X742, e742, st742⟩ := getF X730 hx hZ hown (host := "") (Or.inl (own_w hw 106 rfl)) Via.refl e730 f731_7 (g := (mkF m 119 #[rv a1, iv (2 : Int32), iv (0 : Int32), rv dr, iv (2 : Int32)] [(.ref a1)])) rfl rfl (hb hby d2_119)
  clear X730 e730 f731_7
  refine own_st st742 ?_
  clear st742
  show own_Fin p e below G (T742.setTop (mkF m 122 #[rv a1, iv (2 : Int32), iv (0 : Int32), rv dr, iv (2 : Int32)] [(.ref b697)]))
  refine own_st (fun _ k => XS.iconst X742.here hx rfl (hb hby d2_122) k) ?_
  show own_Fin p e below G (T742.setTop (mkF m 123 #[rv a1, iv (2 : Int32), iv (0 : Int32), rv dr, iv (2 : Int32)] [(.int (-1 : Int32)), (.ref b697)]))
  obtain ⟨_, _, ⟨T743, L743, k743, n743⟩, -, X743, ⟨Lc743, hQ743, l743, y743, z743⟩, st743⟩ := Jvm.LawKit.callS X742 hx (y := own_y5) hown (mvT hZ (own_w hw 112 rfl)) (mvT hZ (own_w hw 113 rfl)) (mvT hZ (own_w hw 59 rfl)) (mvT hZ (own_w hw 114 rfl)) (by decide) (backOf (W := 0) (rm_fi l Z a0 hw [] b697 h730 n0 (Nat.le_trans Z0 K740.1) f731_14) hZ (own_w hw 114 rfl) (own_w hw 59 rfl) (by decide) (by decide)) (g := (mkF m 123 #[rv a1, iv (2 : Int32), iv (0 : Int32), rv dr, iv (2 : Int32)] [(.int (-1 : Int32)), (.ref b697)])) rfl (by rw [hml]; rfl) (argsL := [(.ref b697), (.int (-1 : Int32))]) (rest := []) (lenOf pd___II_V_404 rfl) rfl (by show 2 * 0 + _ ≤ _; exact Nat.le_of_eq rfl) (hb hby d2_123) (fun _ _ => ⟨rfl, e742, (by decide : 11 + 0 ≤ _), (by decide : 28 + 0 ≤ _)⟩)
  clear f731_14 X742 e742
  dsimp only [Pt.U, Pt.locs, Pt.cells, Pt.slots] at X743 l743 y743 z743 st743 hQ743
  subst l743 y743 z743
  obtain ⟨rfl, N743q, e743⟩ := hQ743
  skip
  have N743 := Fr.app N741 N743q
  clear N741 N743q
  refine own_st st743 ?_
  clear st743
  show own_Fin p e below G (T743.setTop (mkF m 126 #[rv a1, iv (2 : Int32), iv (0 : Int32), rv dr, iv (2 : Int32)] []))
  refine own_st (fun _ k => XS.aloadN X743.here hx rfl (hb hby d2_126) rfl rfl k) ?_
  show own_Fin p e below G (T743.setTop (mkF m 127 #[rv a1, iv (2 : Int32), iv (0 : Int32), rv dr, iv (2 : Int32)] [(.ref a1)]))
  obtain ⟨T744, X744, e744, st744⟩ := getF X743 hx hZ hown (host := "") (Or.inl (own_w hw 108 rfl)) Via.refl e743 f731_8 (g := (mkF m 127 #[rv a1, iv (2 : Int32), iv (0 : Int32), rv dr, iv (2 : Int32)] [(.ref a1)])) rfl rfl (hb hby d2_127)
  clear f731_8 X743 e743
  refine own_st st744 ?_
  clear st744
  show own_Fin p e below G (T744.setTop (mkF m 130 #[rv a1, iv (2 : Int32), iv (0 : Int32), rv dr, iv (2 : Int32)] [(.ref b712)]))
  refine own_st (fun _ k => XS.iconst X744.here hx rfl (hb hby d2_130) k) ?_
  show own_Fin p e below G (T744.setTop (mkF m 131 #[rv a1, iv (2 : Int32), iv (0 : Int32), rv dr, iv (2 : Int32)] [(.int (-1 : Int32)), (.ref b712)]))
  obtain ⟨_, _, ⟨T745, L745, k745, n745⟩, -, X745, ⟨Lc745, hQ745, l745, y745, z745⟩, st745⟩ := Jvm.LawKit.callS X744 hx (y := own_y5) hown (mvT hZ (own_w hw 112 rfl)) (mvT hZ (own_w hw 113 rfl)) (mvT hZ (own_w hw 59 rfl)) (mvT hZ (own_w hw 114 rfl)) (by decide) (backOf (W := 0) (rm_fi l Z a0 hw [] b712 h730 n0 (Nat.le_trans Z0 K740.1) f731_15) hZ (own_w hw 114 rfl) (own_w hw 59 rfl) (by decide) (by decide)) (g := (mkF m 131 #[rv a1, iv (2 : Int32), iv (0 : Int32), rv dr, iv (2 : Int32)] [(.int (-1 : Int32)), (.ref b712)])) rfl (by rw [hml]; rfl) (argsL := [(.ref b712), (.int (-1 : Int32))]) (rest := []) (lenOf pd___II_V_404 rfl) rfl (by show 2 * 0 + _ ≤ _; exact Nat.le_of_eq rfl) (hb hby d2_131) (fun _ _ => ⟨rfl, e744, (by decide : 11 + 0 ≤ _), (by decide : 28 + 0 ≤ _)⟩)
  clear f731_15 X744 e744
  dsimp only [Pt.U, Pt.locs, Pt.cells, Pt.slots] at X745 l745 y745 z745 st745 hQ745
  subst l745 y745 z745
  obtain ⟨rfl, N745q, e745⟩ := hQ745
  skip
  have N745 := Fr.app N743 N745q
  clear N743 N745q
  refine own_st st745 ?_
  clear st745
  show own_Fin p e below G (T745.setTop (mkF m 134 #[rv a1, iv (2 : Int32), iv (0 : Int32), rv dr, iv (2 : Int32)] []))
  refine own_st (fun _ k => XS.iconst X745.here hx rfl (hb hby d2_134) k) ?_
  show own_Fin p e below G (T745.setTop (mkF m 135 #[rv a1, iv (2 : Int32), iv (0 : Int32), rv dr, iv (2 : Int32)] [(.int (0 : Int32))]))
  refine own_st (fun _ k => XS.istore X745.here hx rfl (hb hby d2_135) rfl (l' := #[rv a1, iv (2 : Int32), iv (0 : Int32), rv dr, iv (0 : Int32)]) rfl k) ?_
  show own_Fin p e below G (T745.setTop (mkF m 137 #[rv a1, iv (2 : Int32), iv (0 : Int32), rv dr, iv (0 : Int32)] []))
  refine own_st (fun _ k => XS.iload X745.here hx rfl (hb hby d2_137) rfl  k) ?_
  show own_Fin p e below G (T745.setTop (mkF m 139 #[rv a1, iv (2 : Int32), iv (0 : Int32), rv dr, iv (0 : Int32)] [(.int (0 : Int32))]))
  refine own_st (fun _ k => XS.iloadN X745.here hx rfl (hb hby d2_139) rfl  k) ?_
  show own_Fin p e below G (T745.setTop (mkF m 140 #[rv a1, iv (2 : Int32), iv (0 : Int32), rv dr, iv (0 : Int32)] [(.int (0 : Int32)), (.int (0 : Int32))]))
  refine own_st (fun _ k => XS.icmpYes X745.here hx rfl (pc0 := 140) (pc' := 158) rfl (hb hby d2_140) rfl (flt (by decide : ¬ ((0 : Int32) < (0 : Int32)))).2.1 (by decide) (by decide) k) ?_
  show own_Fin p e below G (T745.setTop (mkF m 158 #[rv a1, iv (2 : Int32), iv (0 : Int32), rv dr, iv (0 : Int32)] []))
  refine own_out X745 Bd.notSynchronized (v := none) (fun _ => rfl) hG (fun fs hr => X745.returnOut hx Bd.returns (hb hby d2_158) hr) (by decide) (by decide) ?_
  exact ⟨b667, k667, b682, k682, rfl, N745, e745.symm ▸ K740, sz_b667, sz_b682, ne_b667_b682, e745.symm ▸ f731_5, e745.symm ▸ f731_6, e745.symm ▸ f731_11, e745.symm ▸ f731_10, O667, e745.symm ▸ f731_13, O682⟩

set_option maxRecDepth 65536 in
set_option maxHeartbeats 40000000 in
theorem rm_po1 (l : Launch) (Z : State) (a0 : Array Value) (hw : ∀ d ∈ tables_1, d.before a0 Z = true) (ws : List Jvm.Cond) (a1 : Addr) (dr : Addr) (ed : Addr) (ke : ClassId) (fr : Addr) (h0 : Heap) (n0 : Nat) (Z0 : n0 ≤ h0.size) (E1 : Exa Z h0 a1 "com/example/urania/urania/layered/Ports") (F_ofNode : Fld Z h0 a1 "com/example/urania/urania/layered/Ports" "ofNode" "Ljava/util/List;" .null) (F_specs : Fld Z h0 a1 "com/example/urania/urania/layered/Ports" "specs" "Ljava/util/List;" .null) (F_direction : Fld Z h0 a1 "com/example/urania/urania/layered/Ports" "direction" "Lcom/example/urania/urania/Direction;" .null) (F_freedom : Fld Z h0 a1 "com/example/urania/urania/layered/Ports" "freedom" "[Lcom/example/urania/urania/layered/Ports$Freedom;" .null) (F_border : Fld Z h0 a1 "com/example/urania/urania/layered/Ports" "border" "[Lcom/example/urania/urania/layered/FlowSide;" .null) (F_borderPort : Fld Z h0 a1 "com/example/urania/urania/layered/Ports" "borderPort" "[[D" .null) (F_sourcePort : Fld Z h0 a1 "com/example/urania/urania/layered/Ports" "sourcePort" "[I" .null) (F_targetPort : Fld Z h0 a1 "com/example/urania/urania/layered/Ports" "targetPort" "[I" .null) (F_group : Fld Z h0 a1 "com/example/urania/urania/layered/Ports" "group" "[I" .null) (g1 : n0 ≤ a1) (Sed : Sta Z h0 "java/util/ArrayList" "DEFAULTCAPACITY_EMPTY_ELEMENTDATA" "[Ljava/lang/Object;" (.ref ed)) (Bed : own_AVk Z h0 ed ke (.object "java/lang/Object") []) (ned : ed ≠ a1) (Sfr : Sta Z h0 "com/example/urania/urania/layered/Ports$Freedom" "FREE" "Lcom/example/urania/urania/layered/Ports$Freedom;" (.ref fr)) (Efr : Exa Z h0 fr "com/example/urania/urania/layered/Ports$Freedom") :
    MetFree l own_y11 (head1 (Jvm.Cond.code own_y11 prog_81_method_1_code 5 none :: ws) ({ frames := 5, cells := 13, slots := 40, locals := 69 } : Room)) (fun a U => a = #[(.ref a1), (.int (1 : Int32)), (.int (0 : Int32)), (.ref dr)] ∧ Z.Warmed39 U.vm ∧ U.heap = h0) (fun _ _ _ _ _ => True) (fun _ U o U' => ∃ v L, o = .returned v ∧ Qrm_po Z a1 (1 : Int32) dr ed ke fr h0 n0 v U'.heap L ∧ FrameEnd U o U' L ({ frames := 5, cells := 13, slots := 40, locals := 69 } : Room).cells ({ frames := 5, cells := 13, slots := 40, locals := 69 } : Room).slots) := by
  refine MetFree.of_bodySF (plainFor_of_name pn_com_example_urania_urania_layered_Ports) hisR ?_
  intro p e s m args below meth c s₁ Bd hml0 hP hK
  obtain ⟨rfl, hZ, hh⟩ := hP
  have hx := Bd.exec
  have hby := Bd.bytes
  have hml : c.maxLocals = 5 := hml0
  have hown : s.vm.findClass "com/example/urania/urania/layered/Ports" = some m.cls := findClass_of_methodNamed Bd.named
  have hnm := (name_of_methodNamed Bd.named Bd.method).1
  have X0 : Stand p l e ({ frames := 5, cells := 13, slots := 40, locals := 69 } : Room) s m #[(.ref a1), (.int (1 : Int32)), (.int (0 : Int32)), (.ref dr)] below meth c s₁ [] 0 0 := Stand.of_body Bd
  have e0 : s₁.heap = h0 := by rw [← hh, Bd.state]; rfl
  have N0 := Fr.nil n0
  have K0 : Keep h0 h0 [a1] := Keep.refl _ _
  refine own_start (Qk := Qrm_po Z a1 (1 : Int32) dr ed ke fr h0 n0) (fun G hG => ?_)
  refine own_st (fun _ k => castTop (ef_2_RIIR m a1 (1 : Int32) (0 : Int32) dr) k) ?_
  show own_Fin p e below G (s₁.setTop (mkF m 0 #[rv a1, iv (1 : Int32), iv (0 : Int32), rv dr, .unset] []))
  refine own_st (fun _ k => XS.aloadN X0.here hx rfl (hb hby d2_0) rfl rfl k) ?_
  show own_Fin p e below G (s₁.setTop (mkF m 1 #[rv a1, iv (1 : Int32), iv (0 : Int32), rv dr, .unset] [(.ref a1)]))
  obtain ⟨T746, X746, e746, st746⟩ := initO X0 hx hZ hown (own_w hw 17 rfl) (own_w hw 18 rfl) (own_w hw 19 rfl) e0 (g := (mkF m 1 #[rv a1, iv (1 : Int32), iv (0 : Int32), rv dr, .unset] [(.ref a1)])) rfl (by rw [hml]; rfl) rfl (hb hby d2_1) (by decide) (W := 0) (by show 2 * 0 + _ ≤ _; exact Nat.le_of_eq rfl) (by decide)
  clear X0 e0
  refine own_st st746 ?_
  clear st746
  show own_Fin p e below G (T746.setTop (mkF m 4 #[rv a1, iv (1 : Int32), iv (0 : Int32), rv dr, .unset] []))
  refine own_st (fun _ k => XS.aloadN X746.here hx rfl (hb hby d2_4) rfl rfl k) ?_
  show own_Fin p e below G (T746.setTop (mkF m 5 #[rv a1, iv (1 : Int32), iv (0 : Int32), rv dr, .unset] [(.ref a1)]))
  obtain ⟨T747, h747, X747, e747, E747, A747, D747, M747, st747⟩ := newO X746 hx hZ hown (own_w hw 20 rfl) (own_w hw 21 rfl) (own_w hw 22 rfl) e746 (g := (mkF m 5 #[rv a1, iv (1 : Int32), iv (0 : Int32), rv dr, .unset] [(.ref a1)])) rfl (hb hby d2_5) (by decide) (by decide)
  clear X746 e746 M747
  obtain ⟨b747, g747⟩ : ∃ z, z = h0.size := ⟨_, rfl⟩
  rw [← g747] at A747 D747 st747
  have ne_a1_b747 : a1 ≠ b747 := Nat.ne_of_lt (Nat.lt_of_lt_of_le E1.lt (Nat.le_of_eq g747.symm))
  have ne_ed_b747 : ed ≠ b747 := Nat.ne_of_lt (Nat.lt_of_lt_of_le Bed.lt (Nat.le_of_eq g747.symm))
  have ne_fr_b747 : fr ≠ b747 := Nat.ne_of_lt (Nat.lt_of_lt_of_le Efr.lt (Nat.le_of_eq g747.symm))
  have sz_b747 : h0.size ≤ b747 := Nat.le_trans K0.1 (Nat.le_of_eq g747.symm)
  have g_b747 : n0 ≤ b747 := Nat.le_trans Z0 sz_b747
  have f748_0 := E1.ext E747
  clear E1
  have f748_1 := F_ofNode.ext E747
  have f748_2 := F_specs.ext E747
  have f748_3 := F_direction.ext E747
  have f748_4 := F_freedom.ext E747
  have f748_5 := F_border.ext E747
  have f748_6 := F_borderPort.ext E747
  have f748_7 := F_sourcePort.ext E747
  have f748_8 := F_targetPort.ext E747
  have f748_9 := F_group.ext E747
  have f748_10 := Sed.ext E747
  have f748_11 := Bed.ext E747
  have f748_12 := Sfr.ext E747
  have f748_13 := Efr.ext E747
  have K749 : Keep h0 h747 [a1] := K0.ext E747
  clear K0 E747
  have f750 : Fld Z h747 b747 "java/util/AbstractList" "modCount" "I" (.int (0 : Int32)) := D747 (Or.inl (own_w hw 40 rfl)) (ty := .int) (by decide)
  have f751 : Fld Z h747 b747 "java/util/ArrayList" "elementData" "[Ljava/lang/Object;" .null := D747 (Or.inl (own_w hw 43 rfl)) (ty := (.array (.object "java/lang/Object"))) (by decide)
  have f752 : Fld Z h747 b747 "java/util/ArrayList" "size" "I" (.int (0 : Int32)) := D747 (Or.inl (own_w hw 74 rfl)) (ty := .int) (by decide)
  clear D747
  refine own_st st747 ?_
  clear st747
  show own_Fin p e below G (T747.setTop (mkF m 8 #[rv a1, iv (1 : Int32), iv (0 : Int32), rv dr, .unset] [(.ref b747), (.ref a1)]))
  refine own_st (fun _ k => XS.dup X747.here hx rfl (hb hby d2_8) rfl rfl k) ?_
  show own_Fin p e below G (T747.setTop (mkF m 9 #[rv a1, iv (1 : Int32), iv (0 : Int32), rv dr, .unset] [(.ref b747), (.ref b747), (.ref a1)]))
  obtain ⟨_, _, ⟨T753, L753, k753, n753⟩, -, X753, ⟨Lc753, hQ753, l753, y753, z753⟩, st753⟩ := X747.specialBack hx (y := own_y3) rfl hown (mvT hZ (own_w hw 23 rfl)) (mvT hZ (own_w hw 24 rfl)) (mvT hZ (own_w hw 25 rfl)) (by decide) (backOf (W := 2) (rm_al l Z a0 hw [] b747 ed h747 n0 (Nat.le_trans Z0 K749.1) A747 f750 f751 f752 g_b747 f748_10) hZ (own_w hw 25 rfl) (own_w hw 22 rfl) (by decide) (by decide)) (g := (mkF m 9 #[rv a1, iv (1 : Int32), iv (0 : Int32), rv dr, .unset] [(.ref b747), (.ref b747), (.ref a1)])) rfl (by rw [hml]; rfl) (Steps.refl _) (a := b747) (argsL := []) (rest := [(.ref b747), (.ref a1)]) (lenOf pd___V_167 rfl) rfl (by show 2 * 0 + _ ≤ _; exact Nat.le_of_eq rfl) (hb hby d2_9) (fun _ _ => ⟨rfl, e747, (by decide : 1 + 0 ≤ _), (by decide : 3 + 0 ≤ _)⟩)
  clear X747 e747 f750 f751 f752
  dsimp only [Pt.U, Pt.locs, Pt.cells, Pt.slots] at X753 l753 y753 z753 st753 hQ753
  subst l753 y753 z753
  obtain ⟨rfl, N753q, Kc753, gL753_0, gL753_1, gL753_2⟩ := hQ753
  have N753 := Fr.app N0 N753q
  clear N0 N753q
  have f754_0 := f748_0.keep Kc753
  clear f748_0
  have f754_1 := f748_1.keep Kc753 (ninS ne_a1_b747 nin0)
  clear f748_1
  have f754_2 := f748_2.keep Kc753 (ninS ne_a1_b747 nin0)
  clear f748_2
  have f754_3 := f748_3.keep Kc753 (ninS ne_a1_b747 nin0)
  clear f748_3
  have f754_4 := f748_4.keep Kc753 (ninS ne_a1_b747 nin0)
  clear f748_4
  have f754_5 := f748_5.keep Kc753 (ninS ne_a1_b747 nin0)
  clear f748_5
  have f754_6 := f748_6.keep Kc753 (ninS ne_a1_b747 nin0)
  clear f748_6
  have f754_7 := f748_7.keep Kc753 (ninS ne_a1_b747 nin0)
  clear f748_7
  have f754_8 := f748_8.keep Kc753 (ninS ne_a1_b747 nin0)
  clear f748_8
  have f754_9 := f748_9.keep Kc753 (ninS ne_a1_b747 nin0)
  clear f748_9
  have f754_10 := own_Sta_keep f748_10 Kc753 (allS A747.cell all0)
  clear f748_10
  have f754_11 := f748_11.keep Kc753 (ninS ne_ed_b747 nin0)
  clear f748_11
  have f754_12 := own_Sta_keep f748_12 Kc753 (allS A747.cell all0)
  clear f748_12
  have f754_13 := f748_13.keep Kc753
  clear f748_13
  have f754_14 := A747.keep Kc753
  clear A747
  have K755 : Keep h0 T753.heap [a1] := K749.trans Kc753 (allS (Or.inr sz_b747) all0)
  clear K749 Kc753
  refine own_tr st753 ?_
  clear st753
  show own_Fin p e below G (T753.setTop (mkF m 12 #[rv a1, iv (1 : Int32), iv (0 : Int32), rv dr, .unset] [(.ref b747), (.ref a1)]))
  obtain ⟨T756, h756, X756, e756, W756, st756⟩ := putF X753 hx hZ hown (host := "") (Or.inl (own_w hw 44 rfl)) Via.refl rfl f754_1 f754_0 (Or.inr ⟨(own_w hw 45 rfl), rfl, hnm⟩) (own_w hw 9 rfl) (ty := (.object "java/util/List")) (by decide) rfl rfl (g := (mkF m 12 #[rv a1, iv (1 : Int32), iv (0 : Int32), rv dr, .unset] [(.ref b747), (.ref a1)])) rfl rfl (hb hby d2_12)
  clear X753
  have f757_0 := f754_0.wr W756
  clear f754_0
  have sl758 := slot_ne (Z := Z) (a0 := a0) (Or.inr (own_w hw 47 rfl)) (Or.inr (own_w hw 45 rfl)) (by decide) (t := (.object "java/util/List")) (t' := (.object "java/util/List")) (by decide) (by decide)
  have f757_2 := f754_2.other W756 (Or.inr sl758)
  clear f754_2
  have sl759 := slot_ne (Z := Z) (a0 := a0) (Or.inr (own_w hw 49 rfl)) (Or.inr (own_w hw 45 rfl)) (by decide) (t := (.object "com/example/urania/urania/Direction")) (t' := (.object "java/util/List")) (by decide) (by decide)
  have f757_3 := f754_3.other W756 (Or.inr sl759)
  clear f754_3
  have sl760 := slot_ne (Z := Z) (a0 := a0) (Or.inr (own_w hw 53 rfl)) (Or.inr (own_w hw 45 rfl)) (by decide) (t := (.array (.object "com/example/urania/urania/layered/Ports$Freedom"))) (t' := (.object "java/util/List")) (by decide) (by decide)
  have f757_4 := f754_4.other W756 (Or.inr sl760)
  clear f754_4
  have sl761 := slot_ne (Z := Z) (a0 := a0) (Or.inr (own_w hw 100 rfl)) (Or.inr (own_w hw 45 rfl)) (by decide) (t := (.array (.object "com/example/urania/urania/layered/FlowSide"))) (t' := (.object "java/util/List")) (by decide) (by decide)
  have f757_5 := f754_5.other W756 (Or.inr sl761)
  clear f754_5
  have sl762 := slot_ne (Z := Z) (a0 := a0) (Or.inr (own_w hw 104 rfl)) (Or.inr (own_w hw 45 rfl)) (by decide) (t := (.array (.array .double))) (t' := (.object "java/util/List")) (by decide) (by decide)
  have f757_6 := f754_6.other W756 (Or.inr sl762)
  clear f754_6
  have sl763 := slot_ne (Z := Z) (a0 := a0) (Or.inr (own_w hw 107 rfl)) (Or.inr (own_w hw 45 rfl)) (by decide) (t := (.array .int)) (t' := (.object "java/util/List")) (by decide) (by decide)
  have f757_7 := f754_7.other W756 (Or.inr sl763)
  clear f754_7
  have sl764 := slot_ne (Z := Z) (a0 := a0) (Or.inr (own_w hw 109 rfl)) (Or.inr (own_w hw 45 rfl)) (by decide) (t := (.array .int)) (t' := (.object "java/util/List")) (by decide) (by decide)
  have f757_8 := f754_8.other W756 (Or.inr sl764)
  clear f754_8
  have sl765 := slot_ne (Z := Z) (a0 := a0) (Or.inr (own_w hw 111 rfl)) (Or.inr (own_w hw 45 rfl)) (by decide) (t := (.array .int)) (t' := (.object "java/util/List")) (by decide) (by decide)
  have f757_9 := f754_9.other W756 (Or.inr sl765)
  clear f754_9
  have f757_10 := f754_10.wr W756
  clear f754_10
  have f757_11 := f754_11.other W756 ned
  clear f754_11
  have f757_12 := f754_12.wr W756
  clear f754_12
  have f757_13 := f754_13.wr W756
  clear f754_13
  have f757_14 := f754_14.wr W756
  clear f754_14
  have f757_15 := gL753_0.other W756 (Or.inl (Ne.symm ne_a1_b747))
  have f757_16 := gL753_1.other W756 (Or.inl (Ne.symm ne_a1_b747))
  have f757_17 := gL753_2.other W756 (Or.inl (Ne.symm ne_a1_b747))
  have K766 : Keep h0 h756 [a1] := K755.wr W756 (Or.inl (List.mem_of_getElem? (i := 0) rfl))
  clear K755
  have N767 := Fr.snoc X756 N753 g1
  clear N753
  have Fw756 : Fld Z h756 a1 "com/example/urania/urania/layered/Ports" "ofNode" "Ljava/util/List;" (.ref b747) := f754_1.same W756
  clear f754_1 W756
  refine own_st st756 ?_
  clear st756
  show own_Fin p e below G (T756.setTop (mkF m 15 #[rv a1, iv (1 : Int32), iv (0 : Int32), rv dr, .unset] []))
  refine own_st (fun _ k => XS.aloadN X756.here hx rfl (hb hby d2_15) rfl rfl k) ?_
  show own_Fin p e below G (T756.setTop (mkF m 16 #[rv a1, iv (1 : Int32), iv (0 : Int32), rv dr, .unset] [(.ref a1)]))
  obtain ⟨T768, h768, X768, e768, E768, A768, D768, M768, st768⟩ := newO X756 hx hZ hown (own_w hw 20 rfl) (own_w hw 21 rfl) (own_w hw 22 rfl) e756 (g := (mkF m 16 #[rv a1, iv (1 : Int32), iv (0 : Int32), rv dr, .unset] [(.ref a1)])) rfl (hb hby d2_16) (by decide) (by decide)
  clear X756 e756 M768
  obtain ⟨b768, g768⟩ : ∃ z, z = h756.size := ⟨_, rfl⟩
  rw [← g768] at A768 D768 st768
  have ne_a1_b768 : a1 ≠ b768 := Nat.ne_of_lt (Nat.lt_of_lt_of_le f757_0.lt (Nat.le_of_eq g768.symm))
  have ne_b747_b768 : b747 ≠ b768 := Nat.ne_of_lt (Nat.lt_of_lt_of_le f757_14.lt (Nat.le_of_eq g768.symm))
  have ne_ed_b768 : ed ≠ b768 := Nat.ne_of_lt (Nat.lt_of_lt_of_le f757_11.lt (Nat.le_of_eq g768.symm))
  have ne_fr_b768 : fr ≠ b768 := Nat.ne_of_lt (Nat.lt_of_lt_of_le f757_13.lt (Nat.le_of_eq g768.symm))
  have sz_b768 : h0.size ≤ b768 := Nat.le_trans K766.1 (Nat.le_of_eq g768.symm)
  have g_b768 : n0 ≤ b768 := Nat.le_trans Z0 sz_b768
  have f769_0 := f757_0.ext E768
  clear f757_0
  have f769_1 := Fw756.ext E768
  clear Fw756
  have f769_2 := f757_2.ext E768
  clear f757_2
  have f769_3 := f757_3.ext E768
  clear f757_3
  have f769_4 := f757_4.ext E768
  clear f757_4
  have f769_5 := f757_5.ext E768
  clear f757_5
  have f769_6 := f757_6.ext E768
  clear f757_6
  have f769_7 := f757_7.ext E768
  clear f757_7
  have f769_8 := f757_8.ext E768
  clear f757_8
  have f769_9 := f757_9.ext E768
  clear f757_9
  have f769_10 := f757_10.ext E768
  clear f757_10
  have f769_11 := f757_11.ext E768
  clear f757_11
  have f769_12 := f757_12.ext E768
  clear f757_12
  have f769_13 := f757_13.ext E768
  clear f757_13
  have f769_14 := f757_14.ext E768
  clear f757_14
  have f769_15 := f757_15.ext E768
  clear f757_15
  have f769_16 := f757_16.ext E768
  clear f757_16
  have f769_17 := f757_17.ext E768
  clear f757_17
  have K770 : Keep h0 h768 [a1] := K766.ext E768
  clear K766 E768
  have f771 : Fld Z h768 b768 "java/util/AbstractList" "modCount" "I" (.int (0 : Int32)) := D768 (Or.inl (own_w hw 40 rfl)) (ty := .int) (by decide)
  have f772 : Fld Z h768 b768 "java/util/ArrayList" "elementData" "[Ljava/lang/Object;" .null := D768 (Or.inl (own_w hw 43 rfl)) (ty := (.array (.object "java/lang/Object"))) (by decide)
  have f773 : Fld Z h768 b768 "java/util/ArrayList" "size" "I" (.int (0 : Int32)) := D768 (Or.inl (own_w hw 74 rfl)) (ty := .int) (by decide)
  clear D768
  refine own_st st768 ?_
  clear st768
  show own_Fin p e below G (T768.setTop (mkF m 19 #[rv a1, iv (1 : Int32), iv (0 : Int32), rv dr, .unset] [(.ref b768), (.ref a1)]))
  refine own_st (fun _ k => XS.dup X768.here hx rfl (hb hby d2_19) rfl rfl k) ?_
  show own_Fin p e below G (T768.setTop (mkF m 20 #[rv a1, iv (1 : Int32), iv (0 : Int32), rv dr, .unset] [(.ref b768), (.ref b768), (.ref a1)]))
  obtain ⟨_, _, ⟨T774, L774, k774, n774⟩, -, X774, ⟨Lc774, hQ774, l774, y774, z774⟩, st774⟩ := X768.specialBack hx (y := own_y3) rfl hown (mvT hZ (own_w hw 23 rfl)) (mvT hZ (own_w hw 24 rfl)) (mvT hZ (own_w hw 25 rfl)) (by decide) (backOf (W := 2) (rm_al l Z a0 hw [] b768 ed h768 n0 (Nat.le_trans Z0 K770.1) A768 f771 f772 f773 g_b768 f769_10) hZ (own_w hw 25 rfl) (own_w hw 22 rfl) (by decide) (by decide)) (g := (mkF m 20 #[rv a1, iv (1 : Int32), iv (0 : Int32), rv dr, .unset] [(.ref b768), (.ref b768), (.ref a1)])) rfl (by rw [hml]; rfl) (Steps.refl _) (a := b768) (argsL := []) (rest := [(.ref b768), (.ref a1)]) (lenOf pd___V_167 rfl) rfl (by show 2 * 0 + _ ≤ _; exact Nat.le_of_eq rfl) (hb hby d2_20) (fun _ _ => ⟨rfl, e768, (by decide : 2 + 0 ≤ _), (by decide : 6 + 0 ≤ _)⟩)
  clear X768 e768 f771 f772 f773
  dsimp only [Pt.U, Pt.locs, Pt.cells, Pt.slots] at X774 l774 y774 z774 st774 hQ774
  subst l774 y774 z774
  obtain ⟨rfl, N774q, Kc774, gL774_0, gL774_1, gL774_2⟩ := hQ774
  have N774 := Fr.app N767 N774q
  clear N767 N774q
  have f775_0 := f769_0.keep Kc774
  clear f769_0
  have f775_1 := f769_1.keep Kc774 (ninS ne_a1_b768 nin0)
  clear f769_1
  have f775_2 := f769_2.keep Kc774 (ninS ne_a1_b768 nin0)
  clear f769_2
  have f775_3 := f769_3.keep Kc774 (ninS ne_a1_b768 nin0)
  clear f769_3
  have f775_4 := f769_4.keep Kc774 (ninS ne_a1_b768 nin0)
  clear f769_4
  have f775_5 := f769_5.keep Kc774 (ninS ne_a1_b768 nin0)
  clear f769_5
  have f775_6 := f769_6.keep Kc774 (ninS ne_a1_b768 nin0)
  clear f769_6
  have f775_7 := f769_7.keep Kc774 (ninS ne_a1_b768 nin0)
  clear f769_7
  have f775_8 := f769_8.keep Kc774 (ninS ne_a1_b768 nin0)
  clear f769_8
  have f775_9 := f769_9.keep Kc774 (ninS ne_a1_b768 nin0)
  clear f769_9
  have f775_10 := own_Sta_keep f769_10 Kc774 (allS A768.cell all0)
  clear f769_10
  have f775_11 := f769_11.keep Kc774 (ninS ne_ed_b768 nin0)
  clear f769_11
  have f775_12 := own_Sta_keep f769_12 Kc774 (allS A768.cell all0)
  clear f769_12
  have f775_13 := f769_13.keep Kc774
  clear f769_13
  have f775_14 := f769_14.keep Kc774
  clear f769_14
  have f775_15 := f769_15.keep Kc774 (ninS ne_b747_b768 nin0)
  clear f769_15
  have f775_16 := f769_16.keep Kc774 (ninS ne_b747_b768 nin0)
  clear f769_16
  have f775_17 := f769_17.keep Kc774 (ninS ne_b747_b768 nin0)
  clear f769_17
  have f775_18 := A768.keep Kc774
  clear A768
  have K776 : Keep h0 T774.heap [a1] := K770.trans Kc774 (allS (Or.inr sz_b768) all0)
  clear K770 Kc774
  refine own_tr st774 ?_
  clear st774
  show own_Fin p e below G (T774.setTop (mkF m 23 #[rv a1, iv (1 : Int32), iv (0 : Int32), rv dr, .unset] [(.ref b768), (.ref a1)]))
  obtain ⟨T777, h777, X777, e777, W777, st777⟩ := putF X774 hx hZ hown (host := "") (Or.inl (own_w hw 46 rfl)) Via.refl rfl f775_2 f775_0 (Or.inr ⟨(own_w hw 47 rfl), rfl, hnm⟩) (own_w hw 9 rfl) (ty := (.object "java/util/List")) (by decide) rfl rfl (g := (mkF m 23 #[rv a1, iv (1 : Int32), iv (0 : Int32), rv dr, .unset] [(.ref b768), (.ref a1)])) rfl rfl (hb hby d2_23)
  clear X774
  have f778_0 := f775_0.wr W777
  clear f775_0
  have sl779 := slot_ne (Z := Z) (a0 := a0) (Or.inr (own_w hw 45 rfl)) (Or.inr (own_w hw 47 rfl)) (by decide) (t := (.object "java/util/List")) (t' := (.object "java/util/List")) (by decide) (by decide)
  have f778_1 := f775_1.other W777 (Or.inr sl779)
  clear f775_1
  have sl780 := slot_ne (Z := Z) (a0 := a0) (Or.inr (own_w hw 49 rfl)) (Or.inr (own_w hw 47 rfl)) (by decide) (t := (.object "com/example/urania/urania/Direction")) (t' := (.object "java/util/List")) (by decide) (by decide)
  have f778_3 := f775_3.other W777 (Or.inr sl780)
  clear f775_3
  have sl781 := slot_ne (Z := Z) (a0 := a0) (Or.inr (own_w hw 53 rfl)) (Or.inr (own_w hw 47 rfl)) (by decide) (t := (.array (.object "com/example/urania/urania/layered/Ports$Freedom"))) (t' := (.object "java/util/List")) (by decide) (by decide)
  have f778_4 := f775_4.other W777 (Or.inr sl781)
  clear f775_4
  have sl782 := slot_ne (Z := Z) (a0 := a0) (Or.inr (own_w hw 100 rfl)) (Or.inr (own_w hw 47 rfl)) (by decide) (t := (.array (.object "com/example/urania/urania/layered/FlowSide"))) (t' := (.object "java/util/List")) (by decide) (by decide)
  have f778_5 := f775_5.other W777 (Or.inr sl782)
  clear f775_5
  have sl783 := slot_ne (Z := Z) (a0 := a0) (Or.inr (own_w hw 104 rfl)) (Or.inr (own_w hw 47 rfl)) (by decide) (t := (.array (.array .double))) (t' := (.object "java/util/List")) (by decide) (by decide)
  have f778_6 := f775_6.other W777 (Or.inr sl783)
  clear f775_6
  have sl784 := slot_ne (Z := Z) (a0 := a0) (Or.inr (own_w hw 107 rfl)) (Or.inr (own_w hw 47 rfl)) (by decide) (t := (.array .int)) (t' := (.object "java/util/List")) (by decide) (by decide)
  have f778_7 := f775_7.other W777 (Or.inr sl784)
  clear f775_7
  have sl785 := slot_ne (Z := Z) (a0 := a0) (Or.inr (own_w hw 109 rfl)) (Or.inr (own_w hw 47 rfl)) (by decide) (t := (.array .int)) (t' := (.object "java/util/List")) (by decide) (by decide)
  have f778_8 := f775_8.other W777 (Or.inr sl785)
  clear f775_8
  have sl786 := slot_ne (Z := Z) (a0 := a0) (Or.inr (own_w hw 111 rfl)) (Or.inr (own_w hw 47 rfl)) (by decide) (t := (.array .int)) (t' := (.object "java/util/List")) (by decide) (by decide)
  have f778_9 := f775_9.other W777 (Or.inr sl786)
  clear f775_9
  have f778_10 := f775_10.wr W777
  clear f775_10
  have f778_11 := f775_11.other W777 ned
  clear f775_11
  have f778_12 := f775_12.wr W777
  clear f775_12
  have f778_13 := f775_13.wr W777
  clear f775_13
  have f778_14 := f775_14.wr W777
  clear f775_14
  have f778_15 := f775_15.other W777 (Or.inl (Ne.symm ne_a1_b747))
  clear f775_15
  have f778_16 := f775_16.other W777 (Or.inl (Ne.symm ne_a1_b747))
  clear f775_16
  have f778_17 := f775_17.other W777 (Or.inl (Ne.symm ne_a1_b747))
  clear f775_17
  have f778_18 := f775_18.wr W777
  clear f775_18 f778_18
  have f778_19 := gL774_0.other W777 (Or.inl (Ne.symm ne_a1_b768))
  clear f778_19
  have f778_20 := gL774_1.other W777 (Or.inl (Ne.symm ne_a1_b768))
  clear f778_20
  have f778_21 := gL774_2.other W777 (Or.inl (Ne.symm ne_a1_b768))
  clear f778_21
  have K787 : Keep h0 h777 [a1] := K776.wr W777 (Or.inl (List.mem_of_getElem? (i := 0) rfl))
  clear K776
  have N788 := Fr.snoc X777 N774 g1
  clear N774
  have Fw777 : Fld Z h777 a1 "com/example/urania/urania/layered/Ports" "specs" "Ljava/util/List;" (.ref b768) := f775_2.same W777
  clear f775_2 W777
  refine own_st st777 ?_
  clear st777
  show own_Fin p e below G (T777.setTop (mkF m 26 #[rv a1, iv (1 : Int32), iv (0 : Int32), rv dr, .unset] []))
  refine own_st (fun _ k => XS.aloadN X777.here hx rfl (hb hby d2_26) rfl rfl k) ?_
  show own_Fin p e below G (T777.setTop (mkF m 27 #[rv a1, iv (1 : Int32), iv (0 : Int32), rv dr, .unset] [(.ref a1)]))
  refine own_st (fun _ k => XS.aloadN X777.here hx rfl (hb hby d2_27) rfl rfl k) ?_
  show own_Fin p e below G (T777.setTop (mkF m 28 #[rv a1, iv (1 : Int32), iv (0 : Int32), rv dr, .unset] [(.ref dr), (.ref a1)]))
  obtain ⟨T789, h789, X789, e789, W789, st789⟩ := putF X777 hx hZ hown (host := "") (Or.inl (own_w hw 48 rfl)) Via.refl e777 f778_3 f778_0 (Or.inr ⟨(own_w hw 49 rfl), rfl, hnm⟩) (own_w hw 9 rfl) (ty := (.object "com/example/urania/urania/Direction")) (by decide) rfl rfl (g := (mkF m 28 #[rv a1, iv (1 : Int32), iv (0 : Int32), rv dr, .unset] [(.ref dr), (.ref a1)])) rfl rfl (hb hby d2_28)
  clear X777 e777
  have f790_0 := f778_0.wr W789
  clear f778_0
  have sl791 := slot_ne (Z := Z) (a0 := a0) (Or.inr (own_w hw 45 rfl)) (Or.inr (own_w hw 49 rfl)) (by decide) (t := (.object "java/util/List")) (t' := (.object "com/example/urania/urania/Direction")) (by decide) (by decide)
  have f790_1 := f778_1.other W789 (Or.inr sl791)
  clear f778_1
  have sl792 := slot_ne (Z := Z) (a0 := a0) (Or.inr (own_w hw 47 rfl)) (Or.inr (own_w hw 49 rfl)) (by decide) (t := (.object "java/util/List")) (t' := (.object "com/example/urania/urania/Direction")) (by decide) (by decide)
  have f790_2 := Fw777.other W789 (Or.inr sl792)
  clear Fw777
  have sl793 := slot_ne (Z := Z) (a0 := a0) (Or.inr (own_w hw 53 rfl)) (Or.inr (own_w hw 49 rfl)) (by decide) (t := (.array (.object "com/example/urania/urania/layered/Ports$Freedom"))) (t' := (.object "com/example/urania/urania/Direction")) (by decide) (by decide)
  have f790_4 := f778_4.other W789 (Or.inr sl793)
  clear f778_4
  have sl794 := slot_ne (Z := Z) (a0 := a0) (Or.inr (own_w hw 100 rfl)) (Or.inr (own_w hw 49 rfl)) (by decide) (t := (.array (.object "com/example/urania/urania/layered/FlowSide"))) (t' := (.object "com/example/urania/urania/Direction")) (by decide) (by decide)
  have f790_5 := f778_5.other W789 (Or.inr sl794)
  clear f778_5
  have sl795 := slot_ne (Z := Z) (a0 := a0) (Or.inr (own_w hw 104 rfl)) (Or.inr (own_w hw 49 rfl)) (by decide) (t := (.array (.array .double))) (t' := (.object "com/example/urania/urania/Direction")) (by decide) (by decide)
  have f790_6 := f778_6.other W789 (Or.inr sl795)
  clear f778_6
  have sl796 := slot_ne (Z := Z) (a0 := a0) (Or.inr (own_w hw 107 rfl)) (Or.inr (own_w hw 49 rfl)) (by decide) (t := (.array .int)) (t' := (.object "com/example/urania/urania/Direction")) (by decide) (by decide)
  have f790_7 := f778_7.other W789 (Or.inr sl796)
  clear f778_7
  have sl797 := slot_ne (Z := Z) (a0 := a0) (Or.inr (own_w hw 109 rfl)) (Or.inr (own_w hw 49 rfl)) (by decide) (t := (.array .int)) (t' := (.object "com/example/urania/urania/Direction")) (by decide) (by decide)
  have f790_8 := f778_8.other W789 (Or.inr sl797)
  clear f778_8
  have sl798 := slot_ne (Z := Z) (a0 := a0) (Or.inr (own_w hw 111 rfl)) (Or.inr (own_w hw 49 rfl)) (by decide) (t := (.array .int)) (t' := (.object "com/example/urania/urania/Direction")) (by decide) (by decide)
  have f790_9 := f778_9.other W789 (Or.inr sl798)
  clear f778_9
  have f790_10 := f778_10.wr W789
  clear f778_10
  have f790_11 := f778_11.other W789 ned
  clear f778_11
  have f790_12 := f778_12.wr W789
  clear f778_12
  have f790_13 := f778_13.wr W789
  clear f778_13
  have f790_14 := f778_14.wr W789
  clear f778_14
  have f790_15 := f778_15.other W789 (Or.inl (Ne.symm ne_a1_b747))
  clear f778_15
  have f790_16 := f778_16.other W789 (Or.inl (Ne.symm ne_a1_b747))
  clear f778_16
  have f790_17 := f778_17.other W789 (Or.inl (Ne.symm ne_a1_b747))
  clear f778_17
  have K799 : Keep h0 h789 [a1] := K787.wr W789 (Or.inl (List.mem_of_getElem? (i := 0) rfl))
  clear K787
  have N800 := Fr.snoc X789 N788 g1
  clear N788
  have Fw789 : Fld Z h789 a1 "com/example/urania/urania/layered/Ports" "direction" "Lcom/example/urania/urania/Direction;" (.ref dr) := f778_3.same W789
  clear f778_3 W789
  refine own_st st789 ?_
  clear st789
  show own_Fin p e below G (T789.setTop (mkF m 31 #[rv a1, iv (1 : Int32), iv (0 : Int32), rv dr, .unset] []))
  refine own_st (fun _ k => XS.aloadN X789.here hx rfl (hb hby d2_31) rfl rfl k) ?_
  show own_Fin p e below G (T789.setTop (mkF m 32 #[rv a1, iv (1 : Int32), iv (0 : Int32), rv dr, .unset] [(.ref a1)]))
  refine own_st (fun _ k => XS.iloadN X789.here hx rfl (hb hby d2_32) rfl  k) ?_
  show own_Fin p e below G (T789.setTop (mkF m 33 #[rv a1, iv (1 : Int32), iv (0 : Int32), rv dr, .unset] [(.int (1 : Int32)), (.ref a1)]))
  obtain ⟨T801, h801, k801, X801, e801, E801, A801, B801, O801, st801⟩ := newRE X789 hx hZ hown (own_w hw 50 rfl) (own_w hw 51 rfl) e789 (g := (mkF m 33 #[rv a1, iv (1 : Int32), iv (0 : Int32), rv dr, .unset] [(.int (1 : Int32)), (.ref a1)])) rfl (hb hby d2_33) rfl (by decide) (cap := 1) (by decide) (by decide) (by decide) (by decide) (ad := "[Lcom/example/urania/urania/layered/Ports$Freedom;") (by decide +kernel)
  clear X789 e789
  obtain ⟨b801, g801⟩ : ∃ z, z = h789.size := ⟨_, rfl⟩
  rw [← g801] at A801 B801 st801
  have ne_a1_b801 : a1 ≠ b801 := Nat.ne_of_lt (Nat.lt_of_lt_of_le f790_0.lt (Nat.le_of_eq g801.symm))
  have ne_b747_b801 : b747 ≠ b801 := Nat.ne_of_lt (Nat.lt_of_lt_of_le f790_14.lt (Nat.le_of_eq g801.symm))
  have ne_ed_b801 : ed ≠ b801 := Nat.ne_of_lt (Nat.lt_of_lt_of_le f790_11.lt (Nat.le_of_eq g801.symm))
  have ne_fr_b801 : fr ≠ b801 := Nat.ne_of_lt (Nat.lt_of_lt_of_le f790_13.lt (Nat.le_of_eq g801.symm))
  have sz_b801 : h0.size ≤ b801 := Nat.le_trans K799.1 (Nat.le_of_eq g801.symm)
  have g_b801 : n0 ≤ b801 := Nat.le_trans Z0 sz_b801
  have f802_0 := f790_0.ext E801
  clear f790_0
  have f802_1 := f790_1.ext E801
  clear f790_1
  have f802_2 := f790_2.ext E801
  clear f790_2
  have f802_3 := Fw789.ext E801
  clear Fw789
  have f802_4 := f790_4.ext E801
  clear f790_4
  have f802_5 := f790_5.ext E801
  clear f790_5
  have f802_6 := f790_6.ext E801
  clear f790_6
  have f802_7 := f790_7.ext E801
  clear f790_7
  have f802_8 := f790_8.ext E801
  clear f790_8
  have f802_9 := f790_9.ext E801
  clear f790_9
  have f802_10 := f790_10.ext E801
  clear f790_10
  have f802_11 := f790_11.ext E801
  clear f790_11
  have f802_12 := f790_12.ext E801
  clear f790_12
  have f802_13 := f790_13.ext E801
  clear f790_13
  have f802_14 := f790_14.ext E801
  clear f790_14
  have f802_15 := f790_15.ext E801
  clear f790_15
  have f802_16 := f790_16.ext E801
  clear f790_16
  have f802_17 := f790_17.ext E801
  clear f790_17
  have K803 : Keep h0 h801 [a1] := K799.ext E801
  clear K799 E801
  have V801 : own_AVk Z h801 b801 k801 (.object "com/example/urania/urania/layered/Ports$Freedom") [.null] := own_AVk_new A801
  clear A801
  refine own_st st801 ?_
  clear st801
  show own_Fin p e below G (T801.setTop (mkF m 36 #[rv a1, iv (1 : Int32), iv (0 : Int32), rv dr, .unset] [(.ref b801), (.ref a1)]))
  obtain ⟨T804, h804, X804, e804, W804, st804⟩ := putF X801 hx hZ hown (host := "") (Or.inl (own_w hw 52 rfl)) Via.refl e801 f802_4 f802_0 (Or.inr ⟨(own_w hw 53 rfl), rfl, hnm⟩) (own_w hw 9 rfl) (ty := (.array (.object "com/example/urania/urania/layered/Ports$Freedom"))) (by decide) rfl rfl (g := (mkF m 36 #[rv a1, iv (1 : Int32), iv (0 : Int32), rv dr, .unset] [(.ref b801), (.ref a1)])) rfl rfl (hb hby d2_36)
  clear X801 e801
  have f805_0 := f802_0.wr W804
  clear f802_0
  have sl806 := slot_ne (Z := Z) (a0 := a0) (Or.inr (own_w hw 45 rfl)) (Or.inr (own_w hw 53 rfl)) (by decide) (t := (.object "java/util/List")) (t' := (.array (.object "com/example/urania/urania/layered/Ports$Freedom"))) (by decide) (by decide)
  have f805_1 := f802_1.other W804 (Or.inr sl806)
  clear f802_1
  have sl807 := slot_ne (Z := Z) (a0 := a0) (Or.inr (own_w hw 47 rfl)) (Or.inr (own_w hw 53 rfl)) (by decide) (t := (.object "java/util/List")) (t' := (.array (.object "com/example/urania/urania/layered/Ports$Freedom"))) (by decide) (by decide)
  have f805_2 := f802_2.other W804 (Or.inr sl807)
  clear f802_2
  have sl808 := slot_ne (Z := Z) (a0 := a0) (Or.inr (own_w hw 49 rfl)) (Or.inr (own_w hw 53 rfl)) (by decide) (t := (.object "com/example/urania/urania/Direction")) (t' := (.array (.object "com/example/urania/urania/layered/Ports$Freedom"))) (by decide) (by decide)
  have f805_3 := f802_3.other W804 (Or.inr sl808)
  clear f802_3
  have sl809 := slot_ne (Z := Z) (a0 := a0) (Or.inr (own_w hw 100 rfl)) (Or.inr (own_w hw 53 rfl)) (by decide) (t := (.array (.object "com/example/urania/urania/layered/FlowSide"))) (t' := (.array (.object "com/example/urania/urania/layered/Ports$Freedom"))) (by decide) (by decide)
  have f805_5 := f802_5.other W804 (Or.inr sl809)
  clear f802_5
  have sl810 := slot_ne (Z := Z) (a0 := a0) (Or.inr (own_w hw 104 rfl)) (Or.inr (own_w hw 53 rfl)) (by decide) (t := (.array (.array .double))) (t' := (.array (.object "com/example/urania/urania/layered/Ports$Freedom"))) (by decide) (by decide)
  have f805_6 := f802_6.other W804 (Or.inr sl810)
  clear f802_6
  have sl811 := slot_ne (Z := Z) (a0 := a0) (Or.inr (own_w hw 107 rfl)) (Or.inr (own_w hw 53 rfl)) (by decide) (t := (.array .int)) (t' := (.array (.object "com/example/urania/urania/layered/Ports$Freedom"))) (by decide) (by decide)
  have f805_7 := f802_7.other W804 (Or.inr sl811)
  clear f802_7
  have sl812 := slot_ne (Z := Z) (a0 := a0) (Or.inr (own_w hw 109 rfl)) (Or.inr (own_w hw 53 rfl)) (by decide) (t := (.array .int)) (t' := (.array (.object "com/example/urania/urania/layered/Ports$Freedom"))) (by decide) (by decide)
  have f805_8 := f802_8.other W804 (Or.inr sl812)
  clear f802_8
  have sl813 := slot_ne (Z := Z) (a0 := a0) (Or.inr (own_w hw 111 rfl)) (Or.inr (own_w hw 53 rfl)) (by decide) (t := (.array .int)) (t' := (.array (.object "com/example/urania/urania/layered/Ports$Freedom"))) (by decide) (by decide)
  have f805_9 := f802_9.other W804 (Or.inr sl813)
  clear f802_9
  have f805_10 := f802_10.wr W804
  clear f802_10
  have f805_11 := f802_11.other W804 ned
  clear f802_11
  have f805_12 := f802_12.wr W804
  clear f802_12
  have f805_13 := f802_13.wr W804
  clear f802_13
  have f805_14 := f802_14.wr W804
  clear f802_14
  have f805_15 := f802_15.other W804 (Or.inl (Ne.symm ne_a1_b747))
  clear f802_15
  have f805_16 := f802_16.other W804 (Or.inl (Ne.symm ne_a1_b747))
  clear f802_16
  have f805_17 := f802_17.other W804 (Or.inl (Ne.symm ne_a1_b747))
  clear f802_17
  have f805_18 := B801.wr W804
  clear B801
  have f805_19 := V801.other W804 (Ne.symm ne_a1_b801)
  clear V801
  have K814 : Keep h0 h804 [a1] := K803.wr W804 (Or.inl (List.mem_of_getElem? (i := 0) rfl))
  clear K803
  have N815 := Fr.snoc X804 N800 g1
  clear N800
  have Fw804 : Fld Z h804 a1 "com/example/urania/urania/layered/Ports" "freedom" "[Lcom/example/urania/urania/layered/Ports$Freedom;" (.ref b801) := f802_4.same W804
  clear f802_4 W804
  refine own_st st804 ?_
  clear st804
  show own_Fin p e below G (T804.setTop (mkF m 39 #[rv a1, iv (1 : Int32), iv (0 : Int32), rv dr, .unset] []))
  refine own_st (fun _ k => XS.aloadN X804.here hx rfl (hb hby d2_39) rfl rfl k) ?_
  show own_Fin p e below G (T804.setTop (mkF m 40 #[rv a1, iv (1 : Int32), iv (0 : Int32), rv dr, .unset] [(.ref a1)]))
  obtain ⟨T816, X816, e816, st816⟩ := getF X804 hx hZ hown (host := "") (Or.inl (own_w hw 52 rfl)) Via.refl e804 Fw804 (g := (mkF m 40 #[rv a1, iv (1 : Int32), iv (0 : Int32), rv dr, .unset] [(.ref a1)])) rfl rfl (hb hby d2_40)
  clear X804 e804
  refine own_st st816 ?_
  clear st816
  show own_Fin p e below G (T816.setTop (mkF m 43 #[rv a1, iv (1 : Int32), iv (0 : Int32), rv dr, .unset] [(.ref b801)]))
  obtain ⟨T817, X817, e817, st817⟩ := getS2 X816 hx hZ hown (host := "") (Or.inl (own_w hw 54 rfl)) Via.refl e816 f805_12 (g := (mkF m 43 #[rv a1, iv (1 : Int32), iv (0 : Int32), rv dr, .unset] [(.ref b801)])) rfl (hb hby d2_43)
  clear X816 e816
  refine own_st st817 ?_
  clear st817
  show own_Fin p e below G (T817.setTop (mkF m 46 #[rv a1, iv (1 : Int32), iv (0 : Int32), rv dr, .unset] [(.ref fr), (.ref b801)]))
  obtain ⟨_, _, ⟨T818, L818, k818, n818⟩, -, X818, ⟨Lc818, hQ818, l818, y818, z818⟩, st818⟩ := Jvm.LawKit.callS X817 hx (y := own_y4) hown (mvT hZ (own_w hw 57 rfl)) (mvT hZ (own_w hw 58 rfl)) (mvT hZ (own_w hw 59 rfl)) (mvT hZ (own_w hw 60 rfl)) (by decide) (backOf (W := 0) (rm_fo1 l Z a0 hw [] b801 fr k801 h804 n0 (Nat.le_trans Z0 K814.1) f805_19 O801 f805_13 g_b801) hZ (own_w hw 60 rfl) (own_w hw 59 rfl) (by decide) (by decide)) (g := (mkF m 46 #[rv a1, iv (1 : Int32), iv (0 : Int32), rv dr, .unset] [(.ref fr), (.ref b801)])) rfl (by rw [hml]; rfl) (argsL := [(.ref b801), (.ref fr)]) (rest := []) (lenOf pd___Ljava_lang_Object_Ljava_lang_Object__V_595 rfl) rfl (by show 2 * 0 + _ ≤ _; exact Nat.le_of_eq rfl) (hb hby d2_46) (fun _ _ => ⟨rfl, e817, (by decide : 3 + 0 ≤ _), (by decide : 7 + 0 ≤ _)⟩)
  clear O801 f805_19 X817 e817
  dsimp only [Pt.U, Pt.locs, Pt.cells, Pt.slots] at X818 l818 y818 z818 st818 hQ818
  subst l818 y818 z818
  obtain ⟨rfl, N818q, Kc818⟩ := hQ818
  have N818 := Fr.app N815 N818q
  clear N815 N818q
  have f819_0 := f805_0.keep Kc818
  clear f805_0
  have f819_1 := f805_1.keep Kc818 (ninS ne_a1_b801 nin0)
  clear f805_1
  have f819_2 := f805_2.keep Kc818 (ninS ne_a1_b801 nin0)
  clear f805_2
  have f819_3 := f805_3.keep Kc818 (ninS ne_a1_b801 nin0)
  clear f805_3
  have f819_4 := Fw804.keep Kc818 (ninS ne_a1_b801 nin0)
  clear Fw804
  have f819_5 := f805_5.keep Kc818 (ninS ne_a1_b801 nin0)
  clear f805_5
  have f819_6 := f805_6.keep Kc818 (ninS ne_a1_b801 nin0)
  clear f805_6
  have f819_7 := f805_7.keep Kc818 (ninS ne_a1_b801 nin0)
  clear f805_7
  have f819_8 := f805_8.keep Kc818 (ninS ne_a1_b801 nin0)
  clear f805_8
  have f819_9 := f805_9.keep Kc818 (ninS ne_a1_b801 nin0)
  clear f805_9
  have f819_10 := own_Sta_keep f805_10 Kc818 (allS f805_18.cell all0)
  clear f805_10
  have f819_11 := f805_11.keep Kc818 (ninS ne_ed_b801 nin0)
  clear f805_11
  have f819_12 := own_Sta_keep f805_12 Kc818 (allS f805_18.cell all0)
  clear f805_12 f819_12
  have f819_13 := f805_13.keep Kc818
  clear f805_13 f819_13
  have f819_14 := f805_14.keep Kc818
  clear f805_14
  have f819_15 := f805_15.keep Kc818 (ninS ne_b747_b801 nin0)
  clear f805_15
  have f819_16 := f805_16.keep Kc818 (ninS ne_b747_b801 nin0)
  clear f805_16
  have f819_17 := f805_17.keep Kc818 (ninS ne_b747_b801 nin0)
  clear f805_17
  have f819_18 := f805_18.keep Kc818
  clear f805_18 f819_18
  have K820 : Keep h0 T818.heap [a1] := K814.trans Kc818 (allS (Or.inr sz_b801) all0)
  clear K814 Kc818
  refine own_st st818 ?_
  clear st818
  show own_Fin p e below G (T818.setTop (mkF m 49 #[rv a1, iv (1 : Int32), iv (0 : Int32), rv dr, .unset] []))
  refine own_st (fun _ k => XS.iconst X818.here hx rfl (hb hby d2_49) k) ?_
  show own_Fin p e below G (T818.setTop (mkF m 50 #[rv a1, iv (1 : Int32), iv (0 : Int32), rv dr, .unset] [(.int (0 : Int32))]))
  refine own_st (fun _ k => XS.istore X818.here hx rfl (hb hby d2_50) rfl (l' := #[rv a1, iv (1 : Int32), iv (0 : Int32), rv dr, iv (0 : Int32)]) rfl k) ?_
  show own_Fin p e below G (T818.setTop (mkF m 52 #[rv a1, iv (1 : Int32), iv (0 : Int32), rv dr, iv (0 : Int32)] []))
  refine own_st (fun _ k => XS.iload X818.here hx rfl (hb hby d2_52) rfl  k) ?_
  show own_Fin p e below G (T818.setTop (mkF m 54 #[rv a1, iv (1 : Int32), iv (0 : Int32), rv dr, iv (0 : Int32)] [(.int (0 : Int32))]))
  refine own_st (fun _ k => XS.iloadN X818.here hx rfl (hb hby d2_54) rfl  k) ?_
  show own_Fin p e below G (T818.setTop (mkF m 55 #[rv a1, iv (1 : Int32), iv (0 : Int32), rv dr, iv (0 : Int32)] [(.int (1 : Int32)), (.int (0 : Int32))]))
  refine own_st (fun _ k => XS.icmpNo X818.here hx rfl (hb hby d2_55) rfl (tlt (by decide : ((0 : Int32) < (1 : Int32)))).2.1 k) ?_
  show own_Fin p e below G (T818.setTop (mkF m 58 #[rv a1, iv (1 : Int32), iv (0 : Int32), rv dr, iv (0 : Int32)] []))
  refine own_st (fun _ k => XS.aloadN X818.here hx rfl (hb hby d2_58) rfl rfl k) ?_
  show own_Fin p e below G (T818.setTop (mkF m 59 #[rv a1, iv (1 : Int32), iv (0 : Int32), rv dr, iv (0 : Int32)] [(.ref a1)]))
  obtain ⟨T821, X821, e821, st821⟩ := getF X818 hx hZ hown (host := "") (Or.inl (own_w hw 44 rfl)) Via.refl rfl f819_1 (g := (mkF m 59 #[rv a1, iv (1 : Int32), iv (0 : Int32), rv dr, iv (0 : Int32)] [(.ref a1)])) rfl rfl (hb hby d2_59)
  clear X818
  refine own_st st821 ?_
  clear st821
  show own_Fin p e below G (T821.setTop (mkF m 62 #[rv a1, iv (1 : Int32), iv (0 : Int32), rv dr, iv (0 : Int32)] [(.ref b747)]))
  obtain ⟨T822, h822, X822, e822, E822, A822, D822, M822, st822⟩ := newO X821 hx hZ hown (own_w hw 20 rfl) (own_w hw 21 rfl) (own_w hw 22 rfl) e821 (g := (mkF m 62 #[rv a1, iv (1 : Int32), iv (0 : Int32), rv dr, iv (0 : Int32)] [(.ref b747)])) rfl (hb hby d2_62) (by decide) (by decide)
  clear X821 e821 M822
  obtain ⟨b822, g822⟩ : ∃ z, z = T818.heap.size := ⟨_, rfl⟩
  rw [← g822] at A822 D822 st822
  have ne_a1_b822 : a1 ≠ b822 := Nat.ne_of_lt (Nat.lt_of_lt_of_le f819_0.lt (Nat.le_of_eq g822.symm))
  have ne_b747_b822 : b747 ≠ b822 := Nat.ne_of_lt (Nat.lt_of_lt_of_le f819_14.lt (Nat.le_of_eq g822.symm))
  have ne_ed_b822 : ed ≠ b822 := Nat.ne_of_lt (Nat.lt_of_lt_of_le f819_11.lt (Nat.le_of_eq g822.symm))
  have sz_b822 : h0.size ≤ b822 := Nat.le_trans K820.1 (Nat.le_of_eq g822.symm)
  have g_b822 : n0 ≤ b822 := Nat.le_trans Z0 sz_b822
  have f823_0 := f819_0.ext E822
  clear f819_0
  have f823_1 := f819_1.ext E822
  clear f819_1
  have f823_2 := f819_2.ext E822
  clear f819_2
  have f823_3 := f819_3.ext E822
  clear f819_3
  have f823_4 := f819_4.ext E822
  clear f819_4
  have f823_5 := f819_5.ext E822
  clear f819_5
  have f823_6 := f819_6.ext E822
  clear f819_6
  have f823_7 := f819_7.ext E822
  clear f819_7
  have f823_8 := f819_8.ext E822
  clear f819_8
  have f823_9 := f819_9.ext E822
  clear f819_9
  have f823_10 := f819_10.ext E822
  clear f819_10
  have f823_11 := f819_11.ext E822
  clear f819_11
  have f823_12 := f819_14.ext E822
  clear f819_14
  have f823_13 := f819_15.ext E822
  clear f819_15
  have f823_14 := f819_16.ext E822
  clear f819_16
  have f823_15 := f819_17.ext E822
  clear f819_17
  have K824 : Keep h0 h822 [a1] := K820.ext E822
  clear K820 E822
  have f825 : Fld Z h822 b822 "java/util/AbstractList" "modCount" "I" (.int (0 : Int32)) := D822 (Or.inl (own_w hw 40 rfl)) (ty := .int) (by decide)
  have f826 : Fld Z h822 b822 "java/util/ArrayList" "elementData" "[Ljava/lang/Object;" .null := D822 (Or.inl (own_w hw 43 rfl)) (ty := (.array (.object "java/lang/Object"))) (by decide)
  have f827 : Fld Z h822 b822 "java/util/ArrayList" "size" "I" (.int (0 : Int32)) := D822 (Or.inl (own_w hw 74 rfl)) (ty := .int) (by decide)
  clear D822
  refine own_st st822 ?_
  clear st822
  show own_Fin p e below G (T822.setTop (mkF m 65 #[rv a1, iv (1 : Int32), iv (0 : Int32), rv dr, iv (0 : Int32)] [(.ref b822), (.ref b747)]))
  refine own_st (fun _ k => XS.dup X822.here hx rfl (hb hby d2_65) rfl rfl k) ?_
  show own_Fin p e below G (T822.setTop (mkF m 66 #[rv a1, iv (1 : Int32), iv (0 : Int32), rv dr, iv (0 : Int32)] [(.ref b822), (.ref b822), (.ref b747)]))
  obtain ⟨_, _, ⟨T828, L828, k828, n828⟩, -, X828, ⟨Lc828, hQ828, l828, y828, z828⟩, st828⟩ := X822.specialBack hx (y := own_y3) rfl hown (mvT hZ (own_w hw 23 rfl)) (mvT hZ (own_w hw 24 rfl)) (mvT hZ (own_w hw 25 rfl)) (by decide) (backOf (W := 2) (rm_al l Z a0 hw [] b822 ed h822 n0 (Nat.le_trans Z0 K824.1) A822 f825 f826 f827 g_b822 f823_10) hZ (own_w hw 25 rfl) (own_w hw 22 rfl) (by decide) (by decide)) (g := (mkF m 66 #[rv a1, iv (1 : Int32), iv (0 : Int32), rv dr, iv (0 : Int32)] [(.ref b822), (.ref b822), (.ref b747)])) rfl (by rw [hml]; rfl) (Steps.refl _) (a := b822) (argsL := []) (rest := [(.ref b822), (.ref b747)]) (lenOf pd___V_167 rfl) rfl (by show 2 * 0 + _ ≤ _; exact Nat.le_of_eq rfl) (hb hby d2_66) (fun _ _ => ⟨rfl, e822, (by decide : 4 + 0 ≤ _), (by decide : 10 + 0 ≤ _)⟩)
  clear X822 e822 f825 f826 f827
  dsimp only [Pt.U, Pt.locs, Pt.cells, Pt.slots] at X828 l828 y828 z828 st828 hQ828
  subst l828 y828 z828
  obtain ⟨rfl, N828q, Kc828, gL828_0, gL828_1, gL828_2⟩ := hQ828
  have N828 := Fr.app N818 N828q
  clear N818 N828q
  have f829_0 := f823_0.keep Kc828
  clear f823_0
  have f829_1 := f823_1.keep Kc828 (ninS ne_a1_b822 nin0)
  clear f823_1
  have f829_2 := f823_2.keep Kc828 (ninS ne_a1_b822 nin0)
  clear f823_2
  have f829_3 := f823_3.keep Kc828 (ninS ne_a1_b822 nin0)
  clear f823_3
  have f829_4 := f823_4.keep Kc828 (ninS ne_a1_b822 nin0)
  clear f823_4
  have f829_5 := f823_5.keep Kc828 (ninS ne_a1_b822 nin0)
  clear f823_5
  have f829_6 := f823_6.keep Kc828 (ninS ne_a1_b822 nin0)
  clear f823_6
  have f829_7 := f823_7.keep Kc828 (ninS ne_a1_b822 nin0)
  clear f823_7
  have f829_8 := f823_8.keep Kc828 (ninS ne_a1_b822 nin0)
  clear f823_8
  have f829_9 := f823_9.keep Kc828 (ninS ne_a1_b822 nin0)
  clear f823_9
  have f829_10 := own_Sta_keep f823_10 Kc828 (allS A822.cell all0)
  clear f823_10
  have f829_11 := f823_11.keep Kc828 (ninS ne_ed_b822 nin0)
  clear f823_11
  have f829_12 := f823_12.keep Kc828
  clear f823_12
  have f829_13 := f823_13.keep Kc828 (ninS ne_b747_b822 nin0)
  clear f823_13
  have f829_14 := f823_14.keep Kc828 (ninS ne_b747_b822 nin0)
  clear f823_14
  have f829_15 := f823_15.keep Kc828 (ninS ne_b747_b822 nin0)
  clear f823_15
  have f829_16 := A822.keep Kc828
  clear A822
  have K830 : Keep h0 T828.heap [a1] := K824.trans Kc828 (allS (Or.inr sz_b822) all0)
  clear K824 Kc828
  refine own_tr st828 ?_
  clear st828
  show own_Fin p e below G (T828.setTop (mkF m 69 #[rv a1, iv (1 : Int32), iv (0 : Int32), rv dr, iv (0 : Int32)] [(.ref b822), (.ref b747)]))
  obtain ⟨cq831, kq831, q831a, q831b, q831c⟩ := isOf hZ rfl f829_12
  obtain ⟨_, _, ⟨T831, L831, k831, n831⟩, -, X831, ⟨Lc831, hQ831, l831, y831, z831⟩, st831⟩ := X828.interfaceBack hx (xi := own_y10) (y := own_y9) hown (mvT hZ (own_w hw 62 rfl)) (mvT hZ (own_w hw 63 rfl)) (mvT hZ (own_w hw 64 rfl)) (mvT hZ (own_w hw 65 rfl)) (mvT hZ (own_w hw 66 rfl)) (mvT hZ (own_w hw 67 rfl)) (mvT hZ (own_w hw 68 rfl)) (mvT hZ (own_w hw 69 rfl)) (by decide) (backOf (W := 0) (rm_aq0 l Z a0 hw [] b747 b822 ed ke T828.heap n0 (Nat.le_trans Z0 K830.1) f829_12 f829_13 f829_14 f829_15 g_b747 f829_16 f829_10 f829_11 ne_ed_b747) hZ (own_w hw 70 rfl) (own_w hw 22 rfl) (by decide) (by decide)) q831a q831b q831c (g := (mkF m 69 #[rv a1, iv (1 : Int32), iv (0 : Int32), rv dr, iv (0 : Int32)] [(.ref b822), (.ref b747)])) rfl (by rw [hml]; rfl) (Steps.refl _) (argsL := [(.ref b822)]) (rest := []) (lenOf pd__Ljava_lang_Object__Z_838 rfl) rfl (by show 2 * 0 + _ ≤ _; exact Nat.le_of_eq rfl) (hb hby d2_69) (fun _ _ => ⟨rfl, rfl, (by decide : 4 + 1 ≤ _), (by decide : 10 + 10 ≤ _)⟩)
  clear X828 f829_13 f829_14 f829_15 q831a q831b q831c
  dsimp only [Pt.U, Pt.locs, Pt.cells, Pt.slots] at X831 l831 y831 z831 st831 hQ831
  subst l831 y831 z831
  obtain ⟨gb831, gk831, hQ831⟩ := hQ831
  have lt831 := f829_12.lt
  obtain ⟨rfl, N831q, Kc831, gz831, gL831_0, gL831_1, gL831_2, gB831, gO831⟩ := hQ831
  have N831 := Fr.app N828 N831q
  clear N828 N831q
  have f832_0 := f829_0.keep Kc831
  have f832_1 := f829_1.keep Kc831 (ninS ne_a1_b747 nin0)
  clear f829_1
  have f832_2 := f829_2.keep Kc831 (ninS ne_a1_b747 nin0)
  clear f829_2
  have f832_3 := f829_3.keep Kc831 (ninS ne_a1_b747 nin0)
  clear f829_3
  have f832_4 := f829_4.keep Kc831 (ninS ne_a1_b747 nin0)
  clear f829_4
  have f832_5 := f829_5.keep Kc831 (ninS ne_a1_b747 nin0)
  clear f829_5
  have f832_6 := f829_6.keep Kc831 (ninS ne_a1_b747 nin0)
  clear f829_6
  have f832_7 := f829_7.keep Kc831 (ninS ne_a1_b747 nin0)
  clear f829_7
  have f832_8 := f829_8.keep Kc831 (ninS ne_a1_b747 nin0)
  clear f829_8
  have f832_9 := f829_9.keep Kc831 (ninS ne_a1_b747 nin0)
  clear f829_9
  have f832_10 := own_Sta_keep f829_10 Kc831 (allS f829_12.cell all0)
  clear f829_10 f832_10
  have f832_11 := f829_11.keep Kc831 (ninS ne_ed_b747 nin0)
  clear f832_11
  have f832_12 := f829_12.keep Kc831
  clear f832_12
  have f832_16 := f829_16.keep Kc831
  clear f832_16
  have f832_17 := gL828_0.keep Kc831 (ninS (Ne.symm ne_b747_b822) nin0)
  clear f832_17
  have f832_18 := gL828_1.keep Kc831 (ninS (Ne.symm ne_b747_b822) nin0)
  clear f832_18
  have f832_19 := gL828_2.keep Kc831 (ninS (Ne.symm ne_b747_b822) nin0)
  clear f832_19
  have K833 : Keep h0 T831.heap [a1] := K830.trans Kc831 (allS (Or.inr sz_b747) all0)
  clear Kc831
  have ne_a1_gb831 : a1 ≠ gb831 := Nat.ne_of_lt (Nat.lt_of_lt_of_le f829_0.lt gz831)
  clear f829_0
  have ne_b747_gb831 : b747 ≠ gb831 := Nat.ne_of_lt (Nat.lt_of_lt_of_le f829_12.lt gz831)
  clear f829_12
  have ne_b822_gb831 : b822 ≠ gb831 := Nat.ne_of_lt (Nat.lt_of_lt_of_le f829_16.lt gz831)
  clear f829_16
  have ne_ed_gb831 : ed ≠ gb831 := Nat.ne_of_lt (Nat.lt_of_lt_of_le f829_11.lt gz831)
  clear f829_11
  have sz_gb831 : h0.size ≤ gb831 := Nat.le_trans K830.1 gz831
  clear K830
  have g_gb831 : n0 ≤ gb831 := Nat.le_trans Z0 sz_gb831
  refine own_tr st831 ?_
  clear st831
  show own_Fin p e below G (T831.setTop (mkF m 74 #[rv a1, iv (1 : Int32), iv (0 : Int32), rv dr, iv (0 : Int32)] [(.int (1 : Int32))]))
  refine own_st (fun _ k => XS.pop X831.here hx rfl (hb hby d2_74) rfl rfl k) ?_
  show own_Fin p e below G (T831.setTop (mkF m 75 #[rv a1, iv (1 : Int32), iv (0 : Int32), rv dr, iv (0 : Int32)] []))
  refine own_st (fun _ k => XS.iinc X831.here hx rfl (hb hby d2_75) rfl (l' := #[rv a1, iv (1 : Int32), iv (0 : Int32), rv dr, iv (1 : Int32)]) rfl k) ?_
  show own_Fin p e below G (T831.setTop (mkF m 78 #[rv a1, iv (1 : Int32), iv (0 : Int32), rv dr, iv (1 : Int32)] []))
  refine own_st (fun _ k => XS.goto X831.here hx rfl (pc0 := 78) (pc' := 52) rfl (hb hby d2_78) (by decide) (by decide) k) ?_
  show own_Fin p e below G (T831.setTop (mkF m 52 #[rv a1, iv (1 : Int32), iv (0 : Int32), rv dr, iv (1 : Int32)] []))
  refine own_st (fun _ k => XS.iload X831.here hx rfl (hb hby d2_52) rfl  k) ?_
  show own_Fin p e below G (T831.setTop (mkF m 54 #[rv a1, iv (1 : Int32), iv (0 : Int32), rv dr, iv (1 : Int32)] [(.int (1 : Int32))]))
  refine own_st (fun _ k => XS.iloadN X831.here hx rfl (hb hby d2_54) rfl  k) ?_
  show own_Fin p e below G (T831.setTop (mkF m 55 #[rv a1, iv (1 : Int32), iv (0 : Int32), rv dr, iv (1 : Int32)] [(.int (1 : Int32)), (.int (1 : Int32))]))
  refine own_st (fun _ k => XS.icmpYes X831.here hx rfl (pc0 := 55) (pc' := 81) rfl (hb hby d2_55) rfl (flt (by decide : ¬ ((1 : Int32) < (1 : Int32)))).2.1 (by decide) (by decide) k) ?_
  show own_Fin p e below G (T831.setTop (mkF m 81 #[rv a1, iv (1 : Int32), iv (0 : Int32), rv dr, iv (1 : Int32)] []))
  refine own_st (fun _ k => XS.aloadN X831.here hx rfl (hb hby d2_81) rfl rfl k) ?_
  show own_Fin p e below G (T831.setTop (mkF m 82 #[rv a1, iv (1 : Int32), iv (0 : Int32), rv dr, iv (1 : Int32)] [(.ref a1)]))
  refine own_st (fun _ k => XS.iloadN X831.here hx rfl (hb hby d2_82) rfl  k) ?_
  show own_Fin p e below G (T831.setTop (mkF m 83 #[rv a1, iv (1 : Int32), iv (0 : Int32), rv dr, iv (1 : Int32)] [(.int (1 : Int32)), (.ref a1)]))
  obtain ⟨T834, h834, k834, X834, e834, E834, A834, B834, O834, st834⟩ := newRE X831 hx hZ hown (own_w hw 97 rfl) (own_w hw 98 rfl) rfl (g := (mkF m 83 #[rv a1, iv (1 : Int32), iv (0 : Int32), rv dr, iv (1 : Int32)] [(.int (1 : Int32)), (.ref a1)])) rfl (hb hby d2_83) rfl (by decide) (cap := 1) (by decide) (by decide) (by decide) (by decide) (ad := "[Lcom/example/urania/urania/layered/FlowSide;") (by decide +kernel)
  clear X831
  obtain ⟨b834, g834⟩ : ∃ z, z = T831.heap.size := ⟨_, rfl⟩
  rw [← g834] at A834 B834 st834
  have ne_a1_b834 : a1 ≠ b834 := Nat.ne_of_lt (Nat.lt_of_lt_of_le f832_0.lt (Nat.le_of_eq g834.symm))
  have sz_b834 : h0.size ≤ b834 := Nat.le_trans K833.1 (Nat.le_of_eq g834.symm)
  have g_b834 : n0 ≤ b834 := Nat.le_trans Z0 sz_b834
  have f835_0 := f832_0.ext E834
  clear f832_0
  have f835_1 := f832_1.ext E834
  clear f832_1
  have f835_2 := f832_2.ext E834
  clear f832_2
  have f835_3 := f832_3.ext E834
  clear f832_3
  have f835_4 := f832_4.ext E834
  clear f832_4
  have f835_5 := f832_5.ext E834
  clear f832_5
  have f835_6 := f832_6.ext E834
  clear f832_6
  have f835_7 := f832_7.ext E834
  clear f832_7
  have f835_8 := f832_8.ext E834
  clear f832_8
  have f835_9 := f832_9.ext E834
  clear f832_9
  have K836 : Keep h0 h834 [a1] := K833.ext E834
  clear K833 E834
  have V834 : own_AVk Z h834 b834 k834 (.object "com/example/urania/urania/layered/FlowSide") [.null] := own_AVk_new A834
  clear A834
  refine own_st st834 ?_
  clear st834
  show own_Fin p e below G (T834.setTop (mkF m 86 #[rv a1, iv (1 : Int32), iv (0 : Int32), rv dr, iv (1 : Int32)] [(.ref b834), (.ref a1)]))
  obtain ⟨T837, h837, X837, e837, W837, st837⟩ := putF X834 hx hZ hown (host := "") (Or.inl (own_w hw 99 rfl)) Via.refl e834 f835_5 f835_0 (Or.inr ⟨(own_w hw 100 rfl), rfl, hnm⟩) (own_w hw 9 rfl) (ty := (.array (.object "com/example/urania/urania/layered/FlowSide"))) (by decide) rfl rfl (g := (mkF m 86 #[rv a1, iv (1 : Int32), iv (0 : Int32), rv dr, iv (1 : Int32)] [(.ref b834), (.ref a1)])) rfl rfl (hb hby d2_86)
  clear X834 e834
  have f838_0 := f835_0.wr W837
  clear f835_0
  have sl839 := slot_ne (Z := Z) (a0 := a0) (Or.inr (own_w hw 45 rfl)) (Or.inr (own_w hw 100 rfl)) (by decide) (t := (.object "java/util/List")) (t' := (.array (.object "com/example/urania/urania/layered/FlowSide"))) (by decide) (by decide)
  have f838_1 := f835_1.other W837 (Or.inr sl839)
  clear f835_1
  have sl840 := slot_ne (Z := Z) (a0 := a0) (Or.inr (own_w hw 47 rfl)) (Or.inr (own_w hw 100 rfl)) (by decide) (t := (.object "java/util/List")) (t' := (.array (.object "com/example/urania/urania/layered/FlowSide"))) (by decide) (by decide)
  have f838_2 := f835_2.other W837 (Or.inr sl840)
  clear f835_2
  have sl841 := slot_ne (Z := Z) (a0 := a0) (Or.inr (own_w hw 49 rfl)) (Or.inr (own_w hw 100 rfl)) (by decide) (t := (.object "com/example/urania/urania/Direction")) (t' := (.array (.object "com/example/urania/urania/layered/FlowSide"))) (by decide) (by decide)
  have f838_3 := f835_3.other W837 (Or.inr sl841)
  clear f835_3
  have sl842 := slot_ne (Z := Z) (a0 := a0) (Or.inr (own_w hw 53 rfl)) (Or.inr (own_w hw 100 rfl)) (by decide) (t := (.array (.object "com/example/urania/urania/layered/Ports$Freedom"))) (t' := (.array (.object "com/example/urania/urania/layered/FlowSide"))) (by decide) (by decide)
  have f838_4 := f835_4.other W837 (Or.inr sl842)
  clear f835_4
  have sl843 := slot_ne (Z := Z) (a0 := a0) (Or.inr (own_w hw 104 rfl)) (Or.inr (own_w hw 100 rfl)) (by decide) (t := (.array (.array .double))) (t' := (.array (.object "com/example/urania/urania/layered/FlowSide"))) (by decide) (by decide)
  have f838_6 := f835_6.other W837 (Or.inr sl843)
  clear f835_6
  have sl844 := slot_ne (Z := Z) (a0 := a0) (Or.inr (own_w hw 107 rfl)) (Or.inr (own_w hw 100 rfl)) (by decide) (t := (.array .int)) (t' := (.array (.object "com/example/urania/urania/layered/FlowSide"))) (by decide) (by decide)
  have f838_7 := f835_7.other W837 (Or.inr sl844)
  clear f835_7
  have sl845 := slot_ne (Z := Z) (a0 := a0) (Or.inr (own_w hw 109 rfl)) (Or.inr (own_w hw 100 rfl)) (by decide) (t := (.array .int)) (t' := (.array (.object "com/example/urania/urania/layered/FlowSide"))) (by decide) (by decide)
  have f838_8 := f835_8.other W837 (Or.inr sl845)
  clear f835_8
  have sl846 := slot_ne (Z := Z) (a0 := a0) (Or.inr (own_w hw 111 rfl)) (Or.inr (own_w hw 100 rfl)) (by decide) (t := (.array .int)) (t' := (.array (.object "com/example/urania/urania/layered/FlowSide"))) (by decide) (by decide)
  have f838_9 := f835_9.other W837 (Or.inr sl846)
  clear f835_9
  have f838_10 := B834.wr W837
  clear B834
  have f838_11 := V834.other W837 (Ne.symm ne_a1_b834)
  clear V834
  have K847 : Keep h0 h837 [a1] := K836.wr W837 (Or.inl (List.mem_of_getElem? (i := 0) rfl))
  clear K836
  have N848 := Fr.snoc X837 N831 g1
  clear N831
  have Fw837 : Fld Z h837 a1 "com/example/urania/urania/layered/Ports" "border" "[Lcom/example/urania/urania/layered/FlowSide;" (.ref b834) := f835_5.same W837
  clear f835_5 W837
  refine own_st st837 ?_
  clear st837
  show own_Fin p e below G (T837.setTop (mkF m 89 #[rv a1, iv (1 : Int32), iv (0 : Int32), rv dr, iv (1 : Int32)] []))
  refine own_st (fun _ k => XS.aloadN X837.here hx rfl (hb hby d2_89) rfl rfl k) ?_
  show own_Fin p e below G (T837.setTop (mkF m 90 #[rv a1, iv (1 : Int32), iv (0 : Int32), rv dr, iv (1 : Int32)] [(.ref a1)]))
  refine own_st (fun _ k => XS.iloadN X837.here hx rfl (hb hby d2_90) rfl  k) ?_
  show own_Fin p e below G (T837.setTop (mkF m 91 #[rv a1, iv (1 : Int32), iv (0 : Int32), rv dr, iv (1 : Int32)] [(.int (1 : Int32)), (.ref a1)]))
  obtain ⟨T849, h849, k849, X849, e849, E849, A849, B849, O849, st849⟩ := newRA X837 hx hZ hown (ty := .double) (C := "[D") (by decide +kernel) (own_w hw 101 rfl) (own_w hw 102 rfl) e837 (g := (mkF m 91 #[rv a1, iv (1 : Int32), iv (0 : Int32), rv dr, iv (1 : Int32)] [(.int (1 : Int32)), (.ref a1)])) rfl (hb hby d2_91) rfl (by decide) (cap := 1) (by decide) (by decide) (by decide) (by decide) (ad := "[[D") (by decide +kernel)
  clear X837 e837
  obtain ⟨b849, g849⟩ : ∃ z, z = h837.size := ⟨_, rfl⟩
  rw [← g849] at A849 B849 st849
  have ne_a1_b849 : a1 ≠ b849 := Nat.ne_of_lt (Nat.lt_of_lt_of_le f838_0.lt (Nat.le_of_eq g849.symm))
  have ne_b834_b849 : b834 ≠ b849 := Nat.ne_of_lt (Nat.lt_of_lt_of_le f838_10.lt (Nat.le_of_eq g849.symm))
  have sz_b849 : h0.size ≤ b849 := Nat.le_trans K847.1 (Nat.le_of_eq g849.symm)
  have g_b849 : n0 ≤ b849 := Nat.le_trans Z0 sz_b849
  have f850_0 := f838_0.ext E849
  clear f838_0
  have f850_1 := f838_1.ext E849
  clear f838_1
  have f850_2 := f838_2.ext E849
  clear f838_2
  have f850_3 := f838_3.ext E849
  clear f838_3
  have f850_4 := f838_4.ext E849
  clear f838_4
  have f850_5 := Fw837.ext E849
  clear Fw837
  have f850_6 := f838_6.ext E849
  clear f838_6
  have f850_7 := f838_7.ext E849
  clear f838_7
  have f850_8 := f838_8.ext E849
  clear f838_8
  have f850_9 := f838_9.ext E849
  clear f838_9
  have f850_10 := f838_10.ext E849
  clear f838_10
  have f850_11 := f838_11.ext E849
  clear f838_11
  have K851 : Keep h0 h849 [a1] := K847.ext E849
  clear K847 E849
  have V849 : own_AVk Z h849 b849 k849 (.array .double) [.null] := own_AVk_new A849
  clear A849
  refine own_st st849 ?_
  clear st849
  show own_Fin p e below G (T849.setTop (mkF m 94 #[rv a1, iv (1 : Int32), iv (0 : Int32), rv dr, iv (1 : Int32)] [(.ref b849), (.ref a1)]))
  obtain ⟨T852, h852, X852, e852, W852, st852⟩ := putF X849 hx hZ hown (host := "") (Or.inl (own_w hw 103 rfl)) Via.refl e849 f850_6 f850_0 (Or.inr ⟨(own_w hw 104 rfl), rfl, hnm⟩) (own_w hw 9 rfl) (ty := (.array (.array .double))) (by decide) rfl rfl (g := (mkF m 94 #[rv a1, iv (1 : Int32), iv (0 : Int32), rv dr, iv (1 : Int32)] [(.ref b849), (.ref a1)])) rfl rfl (hb hby d2_94)
  clear X849 e849
  have f853_0 := f850_0.wr W852
  clear f850_0
  have sl854 := slot_ne (Z := Z) (a0 := a0) (Or.inr (own_w hw 45 rfl)) (Or.inr (own_w hw 104 rfl)) (by decide) (t := (.object "java/util/List")) (t' := (.array (.array .double))) (by decide) (by decide)
  have f853_1 := f850_1.other W852 (Or.inr sl854)
  clear f850_1
  have sl855 := slot_ne (Z := Z) (a0 := a0) (Or.inr (own_w hw 47 rfl)) (Or.inr (own_w hw 104 rfl)) (by decide) (t := (.object "java/util/List")) (t' := (.array (.array .double))) (by decide) (by decide)
  have f853_2 := f850_2.other W852 (Or.inr sl855)
  clear f850_2
  have sl856 := slot_ne (Z := Z) (a0 := a0) (Or.inr (own_w hw 49 rfl)) (Or.inr (own_w hw 104 rfl)) (by decide) (t := (.object "com/example/urania/urania/Direction")) (t' := (.array (.array .double))) (by decide) (by decide)
  have f853_3 := f850_3.other W852 (Or.inr sl856)
  clear f850_3
  have sl857 := slot_ne (Z := Z) (a0 := a0) (Or.inr (own_w hw 53 rfl)) (Or.inr (own_w hw 104 rfl)) (by decide) (t := (.array (.object "com/example/urania/urania/layered/Ports$Freedom"))) (t' := (.array (.array .double))) (by decide) (by decide)
  have f853_4 := f850_4.other W852 (Or.inr sl857)
  clear f850_4
  have sl858 := slot_ne (Z := Z) (a0 := a0) (Or.inr (own_w hw 100 rfl)) (Or.inr (own_w hw 104 rfl)) (by decide) (t := (.array (.object "com/example/urania/urania/layered/FlowSide"))) (t' := (.array (.array .double))) (by decide) (by decide)
  have f853_5 := f850_5.other W852 (Or.inr sl858)
  clear f850_5
  have sl859 := slot_ne (Z := Z) (a0 := a0) (Or.inr (own_w hw 107 rfl)) (Or.inr (own_w hw 104 rfl)) (by decide) (t := (.array .int)) (t' := (.array (.array .double))) (by decide) (by decide)
  have f853_7 := f850_7.other W852 (Or.inr sl859)
  clear f850_7
  have sl860 := slot_ne (Z := Z) (a0 := a0) (Or.inr (own_w hw 109 rfl)) (Or.inr (own_w hw 104 rfl)) (by decide) (t := (.array .int)) (t' := (.array (.array .double))) (by decide) (by decide)
  have f853_8 := f850_8.other W852 (Or.inr sl860)
  clear f850_8
  have sl861 := slot_ne (Z := Z) (a0 := a0) (Or.inr (own_w hw 111 rfl)) (Or.inr (own_w hw 104 rfl)) (by decide) (t := (.array .int)) (t' := (.array (.array .double))) (by decide) (by decide)
  have f853_9 := f850_9.other W852 (Or.inr sl861)
  clear f850_9
  have f853_10 := f850_10.wr W852
  clear f850_10
  have f853_11 := f850_11.other W852 (Ne.symm ne_a1_b834)
  clear f850_11
  have f853_12 := B849.wr W852
  clear B849
  have f853_13 := V849.other W852 (Ne.symm ne_a1_b849)
  clear V849
  have K862 : Keep h0 h852 [a1] := K851.wr W852 (Or.inl (List.mem_of_getElem? (i := 0) rfl))
  clear K851
  have N863 := Fr.snoc X852 N848 g1
  clear N848
  have Fw852 : Fld Z h852 a1 "com/example/urania/urania/layered/Ports" "borderPort" "[[D" (.ref b849) := f850_6.same W852
  clear f850_6 W852
  refine own_st st852 ?_
  clear st852
  show own_Fin p e below G (T852.setTop (mkF m 97 #[rv a1, iv (1 : Int32), iv (0 : Int32), rv dr, iv (1 : Int32)] []))
  refine own_st (fun _ k => XS.aloadN X852.here hx rfl (hb hby d2_97) rfl rfl k) ?_
  show own_Fin p e below G (T852.setTop (mkF m 98 #[rv a1, iv (1 : Int32), iv (0 : Int32), rv dr, iv (1 : Int32)] [(.ref a1)]))
  refine own_st (fun _ k => XS.iloadN X852.here hx rfl (hb hby d2_98) rfl  k) ?_
  show own_Fin p e below G (T852.setTop (mkF m 99 #[rv a1, iv (1 : Int32), iv (0 : Int32), rv dr, iv (1 : Int32)] [(.int (0 : Int32)), (.ref a1)]))
  obtain ⟨T864, h864, k864, X864, e864, E864, A864, st864⟩ := newP X852 hx hZ (own_w hw 105 rfl) e852 (g := (mkF m 99 #[rv a1, iv (1 : Int32), iv (0 : Int32), rv dr, iv (1 : Int32)] [(.int (0 : Int32)), (.ref a1)])) rfl (hb hby d2_99) rfl (by decide) (cap := 0) (by decide) (by decide) (by decide) (by decide)
  clear X852 e852
  obtain ⟨b864, g864⟩ : ∃ z, z = h852.size := ⟨_, rfl⟩
  rw [← g864] at A864 st864
  have ne_a1_b864 : a1 ≠ b864 := Nat.ne_of_lt (Nat.lt_of_lt_of_le f853_0.lt (Nat.le_of_eq g864.symm))
  have ne_b834_b864 : b834 ≠ b864 := Nat.ne_of_lt (Nat.lt_of_lt_of_le f853_10.lt (Nat.le_of_eq g864.symm))
  have ne_b849_b864 : b849 ≠ b864 := Nat.ne_of_lt (Nat.lt_of_lt_of_le f853_12.lt (Nat.le_of_eq g864.symm))
  have sz_b864 : h0.size ≤ b864 := Nat.le_trans K862.1 (Nat.le_of_eq g864.symm)
  have g_b864 : n0 ≤ b864 := Nat.le_trans Z0 sz_b864
  have f865_0 := f853_0.ext E864
  clear f853_0
  have f865_1 := f853_1.ext E864
  clear f853_1
  have f865_2 := f853_2.ext E864
  clear f853_2
  have f865_3 := f853_3.ext E864
  clear f853_3
  have f865_4 := f853_4.ext E864
  clear f853_4
  have f865_5 := f853_5.ext E864
  clear f853_5
  have f865_6 := Fw852.ext E864
  clear Fw852
  have f865_7 := f853_7.ext E864
  clear f853_7
  have f865_8 := f853_8.ext E864
  clear f853_8
  have f865_9 := f853_9.ext E864
  clear f853_9
  have f865_10 := f853_10.ext E864
  clear f853_10
  have f865_11 := f853_11.ext E864
  clear f853_11
  have f865_12 := f853_12.ext E864
  clear f853_12
  have f865_13 := f853_13.ext E864
  clear f853_13
  have K866 : Keep h0 h864 [a1] := K862.ext E864
  clear K862 E864
  have V864 : own_AV Z h864 b864 .int (own_is []) := own_AV_newI A864
  clear A864
  refine own_st st864 ?_
  clear st864
  show own_Fin p e below G (T864.setTop (mkF m 101 #[rv a1, iv (1 : Int32), iv (0 : Int32), rv dr, iv (1 : Int32)] [(.ref b864), (.ref a1)]))
  obtain ⟨T867, h867, X867, e867, W867, st867⟩ := putF X864 hx hZ hown (host := "") (Or.inl (own_w hw 106 rfl)) Via.refl e864 f865_7 f865_0 (Or.inr ⟨(own_w hw 107 rfl), rfl, hnm⟩) (own_w hw 9 rfl) (ty := (.array .int)) (by decide) rfl rfl (g := (mkF m 101 #[rv a1, iv (1 : Int32), iv (0 : Int32), rv dr, iv (1 : Int32)] [(.ref b864), (.ref a1)])) rfl rfl (hb hby d2_101)
  clear X864 e864
  have f868_0 := f865_0.wr W867
  clear f865_0
  have sl869 := slot_ne (Z := Z) (a0 := a0) (Or.inr (own_w hw 45 rfl)) (Or.inr (own_w hw 107 rfl)) (by decide) (t := (.object "java/util/List")) (t' := (.array .int)) (by decide) (by decide)
  have f868_1 := f865_1.other W867 (Or.inr sl869)
  clear f865_1
  have sl870 := slot_ne (Z := Z) (a0 := a0) (Or.inr (own_w hw 47 rfl)) (Or.inr (own_w hw 107 rfl)) (by decide) (t := (.object "java/util/List")) (t' := (.array .int)) (by decide) (by decide)
  have f868_2 := f865_2.other W867 (Or.inr sl870)
  clear f865_2
  have sl871 := slot_ne (Z := Z) (a0 := a0) (Or.inr (own_w hw 49 rfl)) (Or.inr (own_w hw 107 rfl)) (by decide) (t := (.object "com/example/urania/urania/Direction")) (t' := (.array .int)) (by decide) (by decide)
  have f868_3 := f865_3.other W867 (Or.inr sl871)
  clear f865_3
  have sl872 := slot_ne (Z := Z) (a0 := a0) (Or.inr (own_w hw 53 rfl)) (Or.inr (own_w hw 107 rfl)) (by decide) (t := (.array (.object "com/example/urania/urania/layered/Ports$Freedom"))) (t' := (.array .int)) (by decide) (by decide)
  have f868_4 := f865_4.other W867 (Or.inr sl872)
  clear f865_4
  have sl873 := slot_ne (Z := Z) (a0 := a0) (Or.inr (own_w hw 100 rfl)) (Or.inr (own_w hw 107 rfl)) (by decide) (t := (.array (.object "com/example/urania/urania/layered/FlowSide"))) (t' := (.array .int)) (by decide) (by decide)
  have f868_5 := f865_5.other W867 (Or.inr sl873)
  clear f865_5
  have sl874 := slot_ne (Z := Z) (a0 := a0) (Or.inr (own_w hw 104 rfl)) (Or.inr (own_w hw 107 rfl)) (by decide) (t := (.array (.array .double))) (t' := (.array .int)) (by decide) (by decide)
  have f868_6 := f865_6.other W867 (Or.inr sl874)
  clear f865_6
  have sl875 := slot_ne (Z := Z) (a0 := a0) (Or.inr (own_w hw 109 rfl)) (Or.inr (own_w hw 107 rfl)) (by decide) (t := (.array .int)) (t' := (.array .int)) (by decide) (by decide)
  have f868_8 := f865_8.other W867 (Or.inr sl875)
  clear f865_8
  have sl876 := slot_ne (Z := Z) (a0 := a0) (Or.inr (own_w hw 111 rfl)) (Or.inr (own_w hw 107 rfl)) (by decide) (t := (.array .int)) (t' := (.array .int)) (by decide) (by decide)
  have f868_9 := f865_9.other W867 (Or.inr sl876)
  clear f865_9
  have f868_10 := f865_10.wr W867
  clear f865_10
  have f868_11 := f865_11.other W867 (Ne.symm ne_a1_b834)
  clear f865_11
  have f868_12 := f865_12.wr W867
  clear f865_12
  have f868_13 := f865_13.other W867 (Ne.symm ne_a1_b849)
  clear f865_13
  have f868_14 := V864.other W867 (Ne.symm ne_a1_b864)
  clear V864
  have K877 : Keep h0 h867 [a1] := K866.wr W867 (Or.inl (List.mem_of_getElem? (i := 0) rfl))
  clear K866
  have N878 := Fr.snoc X867 N863 g1
  clear N863
  have Fw867 : Fld Z h867 a1 "com/example/urania/urania/layered/Ports" "sourcePort" "[I" (.ref b864) := f865_7.same W867
  clear f865_7 W867
  refine own_st st867 ?_
  clear st867
  show own_Fin p e below G (T867.setTop (mkF m 104 #[rv a1, iv (1 : Int32), iv (0 : Int32), rv dr, iv (1 : Int32)] []))
  refine own_st (fun _ k => XS.aloadN X867.here hx rfl (hb hby d2_104) rfl rfl k) ?_
  show own_Fin p e below G (T867.setTop (mkF m 105 #[rv a1, iv (1 : Int32), iv (0 : Int32), rv dr, iv (1 : Int32)] [(.ref a1)]))
  refine own_st (fun _ k => XS.iloadN X867.here hx rfl (hb hby d2_105) rfl  k) ?_
  show own_Fin p e below G (T867.setTop (mkF m 106 #[rv a1, iv (1 : Int32), iv (0 : Int32), rv dr, iv (1 : Int32)] [(.int (0 : Int32)), (.ref a1)]))
  obtain ⟨T879, h879, k879, X879, e879, E879, A879, st879⟩ := newP X867 hx hZ (own_w hw 105 rfl) e867 (g := (mkF m 106 #[rv a1, iv (1 : Int32), iv (0 : Int32), rv dr, iv (1 : Int32)] [(.int (0 : Int32)), (.ref a1)])) rfl (hb hby d2_106) rfl (by decide) (cap := 0) (by decide) (by decide) (by decide) (by decide)
  clear X867 e867
  obtain ⟨b879, g879⟩ : ∃ z, z = h867.size := ⟨_, rfl⟩
  rw [← g879] at A879 st879
  have ne_a1_b879 : a1 ≠ b879 := Nat.ne_of_lt (Nat.lt_of_lt_of_le f868_0.lt (Nat.le_of_eq g879.symm))
  have ne_b834_b879 : b834 ≠ b879 := Nat.ne_of_lt (Nat.lt_of_lt_of_le f868_10.lt (Nat.le_of_eq g879.symm))
  have ne_b849_b879 : b849 ≠ b879 := Nat.ne_of_lt (Nat.lt_of_lt_of_le f868_12.lt (Nat.le_of_eq g879.symm))
  have ne_b864_b879 : b864 ≠ b879 := Nat.ne_of_lt (Nat.lt_of_lt_of_le f868_14.lt (Nat.le_of_eq g879.symm))
  have sz_b879 : h0.size ≤ b879 := Nat.le_trans K877.1 (Nat.le_of_eq g879.symm)
  have g_b879 : n0 ≤ b879 := Nat.le_trans Z0 sz_b879
  have f880_0 := f868_0.ext E879
  clear f868_0
  have f880_1 := f868_1.ext E879
  clear f868_1
  have f880_2 := f868_2.ext E879
  clear f868_2
  have f880_3 := f868_3.ext E879
  clear f868_3
  have f880_4 := f868_4.ext E879
  clear f868_4
  have f880_5 := f868_5.ext E879
  clear f868_5
  have f880_6 := f868_6.ext E879
  clear f868_6
  have f880_7 := Fw867.ext E879
  clear Fw867
  have f880_8 := f868_8.ext E879
  clear f868_8
  have f880_9 := f868_9.ext E879
  clear f868_9
  have f880_10 := f868_10.ext E879
  clear f868_10
  have f880_11 := f868_11.ext E879
  clear f868_11
  have f880_12 := f868_12.ext E879
  clear f868_12
  have f880_13 := f868_13.ext E879
  clear f868_13
  have f880_14 := f868_14.ext E879
  clear f868_14
  have K881 : Keep h0 h879 [a1] := K877.ext E879
  clear K877 E879
  have V879 : own_AV Z h879 b879 .int (own_is []) := own_AV_newI A879
  clear A879
  refine own_st st879 ?_
  clear st879
  show own_Fin p e below G (T879.setTop (mkF m 108 #[rv a1, iv (1 : Int32), iv (0 : Int32), rv dr, iv (1 : Int32)] [(.ref b879), (.ref a1)]))
  obtain ⟨T882, h882, X882, e882, W882, st882⟩ := putF X879 hx hZ hown (host := "") (Or.inl (own_w hw 108 rfl)) Via.refl e879 f880_8 f880_0 (Or.inr ⟨(own_w hw 109 rfl), rfl, hnm⟩) (own_w hw 9 rfl) (ty := (.array .int)) (by decide) rfl rfl (g := (mkF m 108 #[rv a1, iv (1 : Int32), iv (0 : Int32), rv dr, iv (1 : Int32)] [(.ref b879), (.ref a1)])) rfl rfl (hb hby d2_108)
  clear X879 e879
  have f883_0 := f880_0.wr W882
  clear f880_0
  have sl884 := slot_ne (Z := Z) (a0 := a0) (Or.inr (own_w hw 45 rfl)) (Or.inr (own_w hw 109 rfl)) (by decide) (t := (.object "java/util/List")) (t' := (.array .int)) (by decide) (by decide)
  have f883_1 := f880_1.other W882 (Or.inr sl884)
  clear f880_1
  have sl885 := slot_ne (Z := Z) (a0 := a0) (Or.inr (own_w hw 47 rfl)) (Or.inr (own_w hw 109 rfl)) (by decide) (t := (.object "java/util/List")) (t' := (.array .int)) (by decide) (by decide)
  have f883_2 := f880_2.other W882 (Or.inr sl885)
  clear f880_2
  have sl886 := slot_ne (Z := Z) (a0 := a0) (Or.inr (own_w hw 49 rfl)) (Or.inr (own_w hw 109 rfl)) (by decide) (t := (.object "com/example/urania/urania/Direction")) (t' := (.array .int)) (by decide) (by decide)
  have f883_3 := f880_3.other W882 (Or.inr sl886)
  clear f880_3
  have sl887 := slot_ne (Z := Z) (a0 := a0) (Or.inr (own_w hw 53 rfl)) (Or.inr (own_w hw 109 rfl)) (by decide) (t := (.array (.object "com/example/urania/urania/layered/Ports$Freedom"))) (t' := (.array .int)) (by decide) (by decide)
  have f883_4 := f880_4.other W882 (Or.inr sl887)
  clear f880_4
  have sl888 := slot_ne (Z := Z) (a0 := a0) (Or.inr (own_w hw 100 rfl)) (Or.inr (own_w hw 109 rfl)) (by decide) (t := (.array (.object "com/example/urania/urania/layered/FlowSide"))) (t' := (.array .int)) (by decide) (by decide)
  have f883_5 := f880_5.other W882 (Or.inr sl888)
  clear f880_5
  have sl889 := slot_ne (Z := Z) (a0 := a0) (Or.inr (own_w hw 104 rfl)) (Or.inr (own_w hw 109 rfl)) (by decide) (t := (.array (.array .double))) (t' := (.array .int)) (by decide) (by decide)
  have f883_6 := f880_6.other W882 (Or.inr sl889)
  clear f880_6
  have sl890 := slot_ne (Z := Z) (a0 := a0) (Or.inr (own_w hw 107 rfl)) (Or.inr (own_w hw 109 rfl)) (by decide) (t := (.array .int)) (t' := (.array .int)) (by decide) (by decide)
  have f883_7 := f880_7.other W882 (Or.inr sl890)
  clear f880_7
  have sl891 := slot_ne (Z := Z) (a0 := a0) (Or.inr (own_w hw 111 rfl)) (Or.inr (own_w hw 109 rfl)) (by decide) (t := (.array .int)) (t' := (.array .int)) (by decide) (by decide)
  have f883_9 := f880_9.other W882 (Or.inr sl891)
  clear f880_9
  have f883_10 := f880_10.wr W882
  clear f880_10
  have f883_11 := f880_11.other W882 (Ne.symm ne_a1_b834)
  clear f880_11
  have f883_12 := f880_12.wr W882
  clear f880_12
  have f883_13 := f880_13.other W882 (Ne.symm ne_a1_b849)
  clear f880_13
  have f883_14 := f880_14.other W882 (Ne.symm ne_a1_b864)
  clear f880_14
  have f883_15 := V879.other W882 (Ne.symm ne_a1_b879)
  clear V879
  have K892 : Keep h0 h882 [a1] := K881.wr W882 (Or.inl (List.mem_of_getElem? (i := 0) rfl))
  clear K881
  have N893 := Fr.snoc X882 N878 g1
  clear N878
  have Fw882 : Fld Z h882 a1 "com/example/urania/urania/layered/Ports" "targetPort" "[I" (.ref b879) := f880_8.same W882
  clear f880_8 W882
  refine own_st st882 ?_
  clear st882
  show own_Fin p e below G (T882.setTop (mkF m 111 #[rv a1, iv (1 : Int32), iv (0 : Int32), rv dr, iv (1 : Int32)] []))
  refine own_st (fun _ k => XS.aloadN X882.here hx rfl (hb hby d2_111) rfl rfl k) ?_
  show own_Fin p e below G (T882.setTop (mkF m 112 #[rv a1, iv (1 : Int32), iv (0 : Int32), rv dr, iv (1 : Int32)] [(.ref a1)]))
  refine own_st (fun _ k => XS.iloadN X882.here hx rfl (hb hby d2_112) rfl  k) ?_
  show own_Fin p e below G (T882.setTop (mkF m 113 #[rv a1, iv (1 : Int32), iv (0 : Int32), rv dr, iv (1 : Int32)] [(.int (0 : Int32)), (.ref a1)]))
  obtain ⟨T894, h894, k894, X894, e894, E894, A894, st894⟩ := newP X882 hx hZ (own_w hw 105 rfl) e882 (g := (mkF m 113 #[rv a1, iv (1 : Int32), iv (0 : Int32), rv dr, iv (1 : Int32)] [(.int (0 : Int32)), (.ref a1)])) rfl (hb hby d2_113) rfl (by decide) (cap := 0) (by decide) (by decide) (by decide) (by decide)
  clear X882 e882
  obtain ⟨b894, g894⟩ : ∃ z, z = h882.size := ⟨_, rfl⟩
  rw [← g894] at A894 st894
  have ne_a1_b894 : a1 ≠ b894 := Nat.ne_of_lt (Nat.lt_of_lt_of_le f883_0.lt (Nat.le_of_eq g894.symm))
  have ne_b834_b894 : b834 ≠ b894 := Nat.ne_of_lt (Nat.lt_of_lt_of_le f883_10.lt (Nat.le_of_eq g894.symm))
  have ne_b849_b894 : b849 ≠ b894 := Nat.ne_of_lt (Nat.lt_of_lt_of_le f883_12.lt (Nat.le_of_eq g894.symm))
  have ne_b864_b894 : b864 ≠ b894 := Nat.ne_of_lt (Nat.lt_of_lt_of_le f883_14.lt (Nat.le_of_eq g894.symm))
  have ne_b879_b894 : b879 ≠ b894 := Nat.ne_of_lt (Nat.lt_of_lt_of_le f883_15.lt (Nat.le_of_eq g894.symm))
  have sz_b894 : h0.size ≤ b894 := Nat.le_trans K892.1 (Nat.le_of_eq g894.symm)
  have g_b894 : n0 ≤ b894 := Nat.le_trans Z0 sz_b894
  have f895_0 := f883_0.ext E894
  clear f883_0
  have f895_1 := f883_1.ext E894
  clear f883_1
  have f895_2 := f883_2.ext E894
  clear f883_2
  have f895_3 := f883_3.ext E894
  clear f883_3
  have f895_4 := f883_4.ext E894
  clear f883_4
  have f895_5 := f883_5.ext E894
  clear f883_5
  have f895_6 := f883_6.ext E894
  clear f883_6
  have f895_7 := f883_7.ext E894
  clear f883_7
  have f895_8 := Fw882.ext E894
  clear Fw882
  have f895_9 := f883_9.ext E894
  clear f883_9
  have f895_10 := f883_10.ext E894
  clear f883_10
  have f895_11 := f883_11.ext E894
  clear f883_11
  have f895_12 := f883_12.ext E894
  clear f883_12
  have f895_13 := f883_13.ext E894
  clear f883_13
  have f895_14 := f883_14.ext E894
  clear f883_14
  have f895_15 := f883_15.ext E894
  clear f883_15
  have K896 : Keep h0 h894 [a1] := K892.ext E894
  clear K892 E894
  have V894 : own_AV Z h894 b894 .int (own_is []) := own_AV_newI A894
  clear A894
  refine own_st st894 ?_
  clear st894
  show own_Fin p e below G (T894.setTop (mkF m 115 #[rv a1, iv (1 : Int32), iv (0 : Int32), rv dr, iv (1 : Int32)] [(.ref b894), (.ref a1)]))
  obtain ⟨T897, h897, X897, e897, W897, st897⟩ := putF X894 hx hZ hown (host := "") (Or.inl (own_w hw 110 rfl)) Via.refl e894 f895_9 f895_0 (Or.inr ⟨(own_w hw 111 rfl), rfl, hnm⟩) (own_w hw 9 rfl) (ty := (.array .int)) (by decide) rfl rfl (g := (mkF m 115 #[rv a1, iv (1 : Int32), iv (0 : Int32), rv dr, iv (1 : Int32)] [(.ref b894), (.ref a1)])) rfl rfl (hb hby d2_115)
  clear X894 e894
  have f898_0 := f895_0.wr W897
  clear f895_0 f898_0
  have sl899 := slot_ne (Z := Z) (a0 := a0) (Or.inr (own_w hw 45 rfl)) (Or.inr (own_w hw 111 rfl)) (by decide) (t := (.object "java/util/List")) (t' := (.array .int)) (by decide) (by decide)
  have f898_1 := f895_1.other W897 (Or.inr sl899)
  clear f895_1 f898_1
  have sl900 := slot_ne (Z := Z) (a0 := a0) (Or.inr (own_w hw 47 rfl)) (Or.inr (own_w hw 111 rfl)) (by decide) (t := (.object "java/util/List")) (t' := (.array .int)) (by decide) (by decide)
  have f898_2 := f895_2.other W897 (Or.inr sl900)
  clear f895_2 f898_2
  have sl901 := slot_ne (Z := Z) (a0 := a0) (Or.inr (own_w hw 49 rfl)) (Or.inr (own_w hw 111 rfl)) (by decide) (t := (.object "com/example/urania/urania/Direction")) (t' := (.array .int)) (by decide) (by decide)
  have f898_3 := f895_3.other W897 (Or.inr sl901)
  clear f895_3 f898_3
  have sl902 := slot_ne (Z := Z) (a0 := a0) (Or.inr (own_w hw 53 rfl)) (Or.inr (own_w hw 111 rfl)) (by decide) (t := (.array (.object "com/example/urania/urania/layered/Ports$Freedom"))) (t' := (.array .int)) (by decide) (by decide)
  have f898_4 := f895_4.other W897 (Or.inr sl902)
  clear f895_4 f898_4
  have sl903 := slot_ne (Z := Z) (a0 := a0) (Or.inr (own_w hw 100 rfl)) (Or.inr (own_w hw 111 rfl)) (by decide) (t := (.array (.object "com/example/urania/urania/layered/FlowSide"))) (t' := (.array .int)) (by decide) (by decide)
  have f898_5 := f895_5.other W897 (Or.inr sl903)
  clear f895_5
  have sl904 := slot_ne (Z := Z) (a0 := a0) (Or.inr (own_w hw 104 rfl)) (Or.inr (own_w hw 111 rfl)) (by decide) (t := (.array (.array .double))) (t' := (.array .int)) (by decide) (by decide)
  have f898_6 := f895_6.other W897 (Or.inr sl904)
  clear f895_6
  have sl905 := slot_ne (Z := Z) (a0 := a0) (Or.inr (own_w hw 107 rfl)) (Or.inr (own_w hw 111 rfl)) (by decide) (t := (.array .int)) (t' := (.array .int)) (by decide) (by decide)
  have f898_7 := f895_7.other W897 (Or.inr sl905)
  clear f895_7
  have sl906 := slot_ne (Z := Z) (a0 := a0) (Or.inr (own_w hw 109 rfl)) (Or.inr (own_w hw 111 rfl)) (by decide) (t := (.array .int)) (t' := (.array .int)) (by decide) (by decide)
  have f898_8 := f895_8.other W897 (Or.inr sl906)
  clear f895_8
  have f898_10 := f895_10.wr W897
  clear f895_10
  have f898_11 := f895_11.other W897 (Ne.symm ne_a1_b834)
  clear f895_11
  have f898_12 := f895_12.wr W897
  clear f895_12 f898_12
  have f898_13 := f895_13.other W897 (Ne.symm ne_a1_b849)
  clear f895_13
  have f898_14 := f895_14.other W897 (Ne.symm ne_a1_b864)
  clear f895_14
  have f898_15 := f895_15.other W897 (Ne.symm ne_a1_b879)
  clear f895_15
  have f898_16 := V894.other W897 (Ne.symm ne_a1_b894)
  clear V894 f898_16
  have K907 : Keep h0 h897 [a1] := K896.wr W897 (Or.inl (List.mem_of_getElem? (i := 0) rfl))
  clear K896
  have N908 := Fr.snoc X897 N893 g1
  clear N893
  have Fw897 : Fld Z h897 a1 "com/example/urania/urania/layered/Ports" "group" "[I" (.ref b894) := f895_9.same W897
  clear f895_9 W897 Fw897
  refine own_st st897 ?_
  clear st897
  show own_Fin p e below G (T897.setTop (mkF m 118 #[rv a1, iv (1 : Int32), iv (0 : Int32), rv dr, iv (1 : Int32)] []))
  refine own_st (fun _ k => XS.aloadN X897.here hx rfl (hb hby d2_118) rfl rfl k) ?_
  show own_Fin p e below G (T897.setTop (mkF m 119 #[rv a1, iv (1 : Int32), iv (0 : Int32), rv dr, iv (1 : Int32)] [(.ref a1)]))
  obtain ⟨T909, X909, e909, st909⟩ := getF X897 hx hZ hown (host := "") (Or.inl (own_w hw 106 rfl)) Via.refl e897 f898_7 (g := (mkF m 119 #[rv a1, iv (1 : Int32), iv (0 : Int32), rv dr, iv (1 : Int32)] [(.ref a1)])) rfl rfl (hb hby d2_119)
  clear X897 e897 f898_7
  refine own_st st909 ?_
  clear st909
  show own_Fin p e below G (T909.setTop (mkF m 122 #[rv a1, iv (1 : Int32), iv (0 : Int32), rv dr, iv (1 : Int32)] [(.ref b864)]))
  refine own_st (fun _ k => XS.iconst X909.here hx rfl (hb hby d2_122) k) ?_
  show own_Fin p e below G (T909.setTop (mkF m 123 #[rv a1, iv (1 : Int32), iv (0 : Int32), rv dr, iv (1 : Int32)] [(.int (-1 : Int32)), (.ref b864)]))
  obtain ⟨_, _, ⟨T910, L910, k910, n910⟩, -, X910, ⟨Lc910, hQ910, l910, y910, z910⟩, st910⟩ := Jvm.LawKit.callS X909 hx (y := own_y5) hown (mvT hZ (own_w hw 112 rfl)) (mvT hZ (own_w hw 113 rfl)) (mvT hZ (own_w hw 59 rfl)) (mvT hZ (own_w hw 114 rfl)) (by decide) (backOf (W := 0) (rm_fi l Z a0 hw [] b864 h897 n0 (Nat.le_trans Z0 K907.1) f898_14) hZ (own_w hw 114 rfl) (own_w hw 59 rfl) (by decide) (by decide)) (g := (mkF m 123 #[rv a1, iv (1 : Int32), iv (0 : Int32), rv dr, iv (1 : Int32)] [(.int (-1 : Int32)), (.ref b864)])) rfl (by rw [hml]; rfl) (argsL := [(.ref b864), (.int (-1 : Int32))]) (rest := []) (lenOf pd___II_V_404 rfl) rfl (by show 2 * 0 + _ ≤ _; exact Nat.le_of_eq rfl) (hb hby d2_123) (fun _ _ => ⟨rfl, e909, (by decide : 10 + 0 ≤ _), (by decide : 22 + 0 ≤ _)⟩)
  clear f898_14 X909 e909
  dsimp only [Pt.U, Pt.locs, Pt.cells, Pt.slots] at X910 l910 y910 z910 st910 hQ910
  subst l910 y910 z910
  obtain ⟨rfl, N910q, e910⟩ := hQ910
  skip
  have N910 := Fr.app N908 N910q
  clear N908 N910q
  refine own_st st910 ?_
  clear st910
  show own_Fin p e below G (T910.setTop (mkF m 126 #[rv a1, iv (1 : Int32), iv (0 : Int32), rv dr, iv (1 : Int32)] []))
  refine own_st (fun _ k => XS.aloadN X910.here hx rfl (hb hby d2_126) rfl rfl k) ?_
  show own_Fin p e below G (T910.setTop (mkF m 127 #[rv a1, iv (1 : Int32), iv (0 : Int32), rv dr, iv (1 : Int32)] [(.ref a1)]))
  obtain ⟨T911, X911, e911, st911⟩ := getF X910 hx hZ hown (host := "") (Or.inl (own_w hw 108 rfl)) Via.refl e910 f898_8 (g := (mkF m 127 #[rv a1, iv (1 : Int32), iv (0 : Int32), rv dr, iv (1 : Int32)] [(.ref a1)])) rfl rfl (hb hby d2_127)
  clear f898_8 X910 e910
  refine own_st st911 ?_
  clear st911
  show own_Fin p e below G (T911.setTop (mkF m 130 #[rv a1, iv (1 : Int32), iv (0 : Int32), rv dr, iv (1 : Int32)] [(.ref b879)]))
  refine own_st (fun _ k => XS.iconst X911.here hx rfl (hb hby d2_130) k) ?_
  show own_Fin p e below G (T911.setTop (mkF m 131 #[rv a1, iv (1 : Int32), iv (0 : Int32), rv dr, iv (1 : Int32)] [(.int (-1 : Int32)), (.ref b879)]))
  obtain ⟨_, _, ⟨T912, L912, k912, n912⟩, -, X912, ⟨Lc912, hQ912, l912, y912, z912⟩, st912⟩ := Jvm.LawKit.callS X911 hx (y := own_y5) hown (mvT hZ (own_w hw 112 rfl)) (mvT hZ (own_w hw 113 rfl)) (mvT hZ (own_w hw 59 rfl)) (mvT hZ (own_w hw 114 rfl)) (by decide) (backOf (W := 0) (rm_fi l Z a0 hw [] b879 h897 n0 (Nat.le_trans Z0 K907.1) f898_15) hZ (own_w hw 114 rfl) (own_w hw 59 rfl) (by decide) (by decide)) (g := (mkF m 131 #[rv a1, iv (1 : Int32), iv (0 : Int32), rv dr, iv (1 : Int32)] [(.int (-1 : Int32)), (.ref b879)])) rfl (by rw [hml]; rfl) (argsL := [(.ref b879), (.int (-1 : Int32))]) (rest := []) (lenOf pd___II_V_404 rfl) rfl (by show 2 * 0 + _ ≤ _; exact Nat.le_of_eq rfl) (hb hby d2_131) (fun _ _ => ⟨rfl, e911, (by decide : 10 + 0 ≤ _), (by decide : 22 + 0 ≤ _)⟩)
  clear f898_15 X911 e911
  dsimp only [Pt.U, Pt.locs, Pt.cells, Pt.slots] at X912 l912 y912 z912 st912 hQ912
  subst l912 y912 z912
  obtain ⟨rfl, N912q, e912⟩ := hQ912
  skip
  have N912 := Fr.app N910 N912q
  clear N910 N912q
  refine own_st st912 ?_
  clear st912
  show own_Fin p e below G (T912.setTop (mkF m 134 #[rv a1, iv (1 : Int32), iv (0 : Int32), rv dr, iv (1 : Int32)] []))
  refine own_st (fun _ k => XS.iconst X912.here hx rfl (hb hby d2_134) k) ?_
  show own_Fin p e below G (T912.setTop (mkF m 135 #[rv a1, iv (1 : Int32), iv (0 : Int32), rv dr, iv (1 : Int32)] [(.int (0 : Int32))]))
  refine own_st (fun _ k => XS.istore X912.here hx rfl (hb hby d2_135) rfl (l' := #[rv a1, iv (1 : Int32), iv (0 : Int32), rv dr, iv (0 : Int32)]) rfl k) ?_
  show own_Fin p e below G (T912.setTop (mkF m 137 #[rv a1, iv (1 : Int32), iv (0 : Int32), rv dr, iv (0 : Int32)] []))
  refine own_st (fun _ k => XS.iload X912.here hx rfl (hb hby d2_137) rfl  k) ?_
  show own_Fin p e below G (T912.setTop (mkF m 139 #[rv a1, iv (1 : Int32), iv (0 : Int32), rv dr, iv (0 : Int32)] [(.int (0 : Int32))]))
  refine own_st (fun _ k => XS.iloadN X912.here hx rfl (hb hby d2_139) rfl  k) ?_
  show own_Fin p e below G (T912.setTop (mkF m 140 #[rv a1, iv (1 : Int32), iv (0 : Int32), rv dr, iv (0 : Int32)] [(.int (0 : Int32)), (.int (0 : Int32))]))
  refine own_st (fun _ k => XS.icmpYes X912.here hx rfl (pc0 := 140) (pc' := 158) rfl (hb hby d2_140) rfl (flt (by decide : ¬ ((0 : Int32) < (0 : Int32)))).2.1 (by decide) (by decide) k) ?_
  show own_Fin p e below G (T912.setTop (mkF m 158 #[rv a1, iv (1 : Int32), iv (0 : Int32), rv dr, iv (0 : Int32)] []))
  refine own_out X912 Bd.notSynchronized (v := none) (fun _ => rfl) hG (fun fs hr => X912.returnOut hx Bd.returns (hb hby d2_158) hr) (by decide) (by decide) ?_
  exact ⟨b834, k834, b849, k849, rfl, N912, e912.symm ▸ K907, sz_b834, sz_b849, ne_b834_b849, e912.symm ▸ f898_5, e912.symm ▸ f898_6, e912.symm ▸ f898_11, e912.symm ▸ f898_10, O834, e912.symm ▸ f898_13, O849⟩

theorem rm_po (l : Launch) (Z : State) (a0 : Array Value) (hw : ∀ d ∈ tables_1, d.before a0 Z = true) (ws : List Jvm.Cond) (a1 : Addr) (p2 : Int32) (dr : Addr) (ed : Addr) (ke : ClassId) (fr : Addr) (h0 : Heap) (n0 : Nat) (Z0 : n0 ≤ h0.size) (E1 : Exa Z h0 a1 "com/example/urania/urania/layered/Ports") (F_ofNode : Fld Z h0 a1 "com/example/urania/urania/layered/Ports" "ofNode" "Ljava/util/List;" .null) (F_specs : Fld Z h0 a1 "com/example/urania/urania/layered/Ports" "specs" "Ljava/util/List;" .null) (F_direction : Fld Z h0 a1 "com/example/urania/urania/layered/Ports" "direction" "Lcom/example/urania/urania/Direction;" .null) (F_freedom : Fld Z h0 a1 "com/example/urania/urania/layered/Ports" "freedom" "[Lcom/example/urania/urania/layered/Ports$Freedom;" .null) (F_border : Fld Z h0 a1 "com/example/urania/urania/layered/Ports" "border" "[Lcom/example/urania/urania/layered/FlowSide;" .null) (F_borderPort : Fld Z h0 a1 "com/example/urania/urania/layered/Ports" "borderPort" "[[D" .null) (F_sourcePort : Fld Z h0 a1 "com/example/urania/urania/layered/Ports" "sourcePort" "[I" .null) (F_targetPort : Fld Z h0 a1 "com/example/urania/urania/layered/Ports" "targetPort" "[I" .null) (F_group : Fld Z h0 a1 "com/example/urania/urania/layered/Ports" "group" "[I" .null) (g1 : n0 ≤ a1) (Sed : Sta Z h0 "java/util/ArrayList" "DEFAULTCAPACITY_EMPTY_ELEMENTDATA" "[Ljava/lang/Object;" (.ref ed)) (Bed : own_AVk Z h0 ed ke (.object "java/lang/Object") []) (ned : ed ≠ a1) (Sfr : Sta Z h0 "com/example/urania/urania/layered/Ports$Freedom" "FREE" "Lcom/example/urania/urania/layered/Ports$Freedom;" (.ref fr)) (Efr : Exa Z h0 fr "com/example/urania/urania/layered/Ports$Freedom") (hp : p2 = 1 ∨ p2 = 2 ∨ p2 = 3 ∨ p2 = 4) :
    MetFree l own_y11 (head1 (Jvm.Cond.code own_y11 prog_81_method_1_code 5 none :: ws) ({ frames := 5, cells := 13, slots := 40, locals := 69 } : Room)) (fun a U => a = #[(.ref a1), (.int p2), (.int (0 : Int32)), (.ref dr)] ∧ Z.Warmed39 U.vm ∧ U.heap = h0) (fun _ _ _ _ _ => True) (fun _ U o U' => ∃ v L, o = .returned v ∧ Qrm_po Z a1 p2 dr ed ke fr h0 n0 v U'.heap L ∧ FrameEnd U o U' L ({ frames := 5, cells := 13, slots := 40, locals := 69 } : Room).cells ({ frames := 5, cells := 13, slots := 40, locals := 69 } : Room).slots) := by
  rcases hp with rfl | rfl | rfl | rfl
  · exact rm_po1 l Z a0 hw ws a1 dr ed ke fr h0 n0 Z0 E1 F_ofNode F_specs F_direction F_freedom F_border F_borderPort F_sourcePort F_targetPort F_group g1 Sed Bed ned Sfr Efr
  · exact rm_po2 l Z a0 hw ws a1 dr ed ke fr h0 n0 Z0 E1 F_ofNode F_specs F_direction F_freedom F_border F_borderPort F_sourcePort F_targetPort F_group g1 Sed Bed ned Sfr Efr
  · exact rm_po3 l Z a0 hw ws a1 dr ed ke fr h0 n0 Z0 E1 F_ofNode F_specs F_direction F_freedom F_border F_borderPort F_sourcePort F_targetPort F_group g1 Sed Bed ned Sfr Efr
  · exact rm_po4 l Z a0 hw ws a1 dr ed ke fr h0 n0 Z0 E1 F_ofNode F_specs F_direction F_freedom F_border F_borderPort F_sourcePort F_targetPort F_group g1 Sed Bed ned Sfr Efr

theorem d1_0 : decode method_2_code 0 = .ok (.iload_n 0, 1) := by decide +kernel
theorem d1_1 : decode method_2_code 1 = .ok (.iconst 3, 1) := by decide +kernel
theorem d1_2 : decode method_2_code 2 = .ok (.iand, 1) := by decide +kernel
theorem d1_3 : decode method_2_code 3 = .ok (.istore_n 1, 1) := by decide +kernel
theorem d1_4 : decode method_2_code 4 = .ok (.iload_n 1, 1) := by decide +kernel
theorem d1_5 : decode method_2_code 5 = .ok (.ifCond .ne 7, 3) := by decide +kernel
theorem d1_8 : decode method_2_code 8 = .ok (.getstatic 7, 3) := by decide +kernel
theorem d1_11 : decode method_2_code 11 = .ok (.areturn, 1) := by decide +kernel
theorem d1_12 : decode method_2_code 12 = .ok (.iload_n 1, 1) := by decide +kernel
theorem d1_13 : decode method_2_code 13 = .ok (.iconst 1, 1) := by decide +kernel
theorem d1_14 : decode method_2_code 14 = .ok (.if_icmp .ne 7, 3) := by decide +kernel
theorem d1_17 : decode method_2_code 17 = .ok (.getstatic 13, 3) := by decide +kernel
theorem d1_20 : decode method_2_code 20 = .ok (.areturn, 1) := by decide +kernel
theorem d1_21 : decode method_2_code 21 = .ok (.iload_n 1, 1) := by decide +kernel
theorem d1_22 : decode method_2_code 22 = .ok (.iconst 2, 1) := by decide +kernel
theorem d1_23 : decode method_2_code 23 = .ok (.if_icmp .ne 7, 3) := by decide +kernel
theorem d1_26 : decode method_2_code 26 = .ok (.getstatic 16, 3) := by decide +kernel
theorem d1_29 : decode method_2_code 29 = .ok (.areturn, 1) := by decide +kernel
theorem d1_30 : decode method_2_code 30 = .ok (.getstatic 19, 3) := by decide +kernel
theorem d1_33 : decode method_2_code 33 = .ok (.areturn, 1) := by decide +kernel
theorem pn_com_example_urania_urania_layered_PortsSetBorderPinLaw : plainName "com/example/urania/urania/layered/PortsSetBorderPinLaw" = true := by first | (simp [plainName, overriddenIn]; done) | decide +kernel
theorem ef_1_I (m : MethodId) (x0 : Int32) : entryFrame m #[(.int x0)] 2 = mkF m 0 #[iv x0, .unset] [] := by first | (simp [entryFrame, mkF, argsToLocals, Value.category]; done) | rfl
def Qrm_si (Z : State) (p1 : Int32) (a_FIRST : Addr) (a_FORWARD : Addr) (a_LAST : Addr) (a_BACKWARD : Addr) (h0 : Heap) (n0 : Nat) (v : Option Value) (h : Heap) (L : List Loc) : Prop := ∃ sd : Addr, v = some (.ref sd) ∧ Fr n0 L ∧ h = h0 ∧ Exa Z h0 sd "com/example/urania/urania/layered/FlowSide"
set_option maxRecDepth 65536 in
set_option maxHeartbeats 40000000 in
theorem rm_si (l : Launch) (Z : State) (a0 : Array Value) (hw : ∀ d ∈ tables_1, d.before a0 Z = true) (ws : List Jvm.Cond) (p1 : Int32) (a_FIRST : Addr) (a_FORWARD : Addr) (a_LAST : Addr) (a_BACKWARD : Addr) (h0 : Heap) (n0 : Nat) (Z0 : n0 ≤ h0.size) (SFIRST : Sta Z h0 "com/example/urania/urania/layered/FlowSide" "FIRST" "Lcom/example/urania/urania/layered/FlowSide;" (.ref a_FIRST)) (EFIRST : Exa Z h0 a_FIRST "com/example/urania/urania/layered/FlowSide") (SFORWARD : Sta Z h0 "com/example/urania/urania/layered/FlowSide" "FORWARD" "Lcom/example/urania/urania/layered/FlowSide;" (.ref a_FORWARD)) (EFORWARD : Exa Z h0 a_FORWARD "com/example/urania/urania/layered/FlowSide") (SLAST : Sta Z h0 "com/example/urania/urania/layered/FlowSide" "LAST" "Lcom/example/urania/urania/layered/FlowSide;" (.ref a_LAST)) (ELAST : Exa Z h0 a_LAST "com/example/urania/urania/layered/FlowSide") (SBACKWARD : Sta Z h0 "com/example/urania/urania/layered/FlowSide" "BACKWARD" "Lcom/example/urania/urania/layered/FlowSide;" (.ref a_BACKWARD)) (EBACKWARD : Exa Z h0 a_BACKWARD "com/example/urania/urania/layered/FlowSide") :
    MetFree l own_y12 (head1 (Jvm.Cond.code own_y12 method_2_code 2 (some (.object "com/example/urania/urania/layered/FlowSide")) :: ws) ({ frames := 0, cells := 0, slots := 0, locals := 0 } : Room)) (fun a U => a = #[(.int p1)] ∧ Z.Warmed39 U.vm ∧ U.heap = h0) (fun _ _ _ _ _ => True) (fun _ U o U' => ∃ v L, o = .returned v ∧ Qrm_si Z p1 a_FIRST a_FORWARD a_LAST a_BACKWARD h0 n0 v U'.heap L ∧ FrameEnd U o U' L ({ frames := 0, cells := 0, slots := 0, locals := 0 } : Room).cells ({ frames := 0, cells := 0, slots := 0, locals := 0 } : Room).slots) := by
  refine MetFree.of_bodySF (plainFor_of_name pn_com_example_urania_urania_layered_PortsSetBorderPinLaw) hisR ?_
  intro p e s m args below meth c s₁ Bd hml0 hP hK
  obtain ⟨rfl, hZ, hh⟩ := hP
  have hx := Bd.exec
  have hby := Bd.bytes
  have hml : c.maxLocals = 2 := hml0
  have hown : s.vm.findClass "com/example/urania/urania/layered/PortsSetBorderPinLaw" = some m.cls := findClass_of_methodNamed Bd.named
  have hnm := (name_of_methodNamed Bd.named Bd.method).1
  have X0 : Stand p l e ({ frames := 0, cells := 0, slots := 0, locals := 0 } : Room) s m #[(.int p1)] below meth c s₁ [] 0 0 := Stand.of_body Bd
  have e0 : s₁.heap = h0 := by rw [← hh, Bd.state]; rfl
  have N0 := Fr.nil n0
  have K0 : Keep h0 h0 [] := Keep.refl _ _
  clear K0
  refine own_start (Qk := Qrm_si Z p1 a_FIRST a_FORWARD a_LAST a_BACKWARD h0 n0) (fun G hG => ?_)
  refine own_st (fun _ k => castTop (ef_1_I m p1) k) ?_
  show own_Fin p e below G (s₁.setTop (mkF m 0 #[iv p1, .unset] []))
  refine own_st (fun _ k => XS.iloadN X0.here hx rfl (hb hby d1_0) rfl  k) ?_
  show own_Fin p e below G (s₁.setTop (mkF m 1 #[iv p1, .unset] [(.int p1)]))
  refine own_st (fun _ k => XS.iconst X0.here hx rfl (hb hby d1_1) k) ?_
  show own_Fin p e below G (s₁.setTop (mkF m 2 #[iv p1, .unset] [(.int (3 : Int32)), (.int p1)]))
  refine own_st (fun _ k => XS.iand X0.here hx rfl (hb hby d1_2) rfl k) ?_
  show own_Fin p e below G (s₁.setTop (mkF m 3 #[iv p1, .unset] [(.int (p1 &&& (3 : Int32)))]))
  refine own_st (fun _ k => XS.istoreN X0.here hx rfl (hb hby d1_3) rfl (l' := #[iv p1, iv (p1 &&& (3 : Int32))]) rfl k) ?_
  show own_Fin p e below G (s₁.setTop (mkF m 4 #[iv p1, iv (p1 &&& (3 : Int32))] []))
  refine own_st (fun _ k => XS.iloadN X0.here hx rfl (hb hby d1_4) rfl  k) ?_
  show own_Fin p e below G (s₁.setTop (mkF m 5 #[iv p1, iv (p1 &&& (3 : Int32))] [(.int (p1 &&& (3 : Int32)))]))
  by_cases hc5_913 : (p1 &&& (3 : Int32)) = (0 : Int32)
  · refine own_st (fun _ k => XS.ifNo X0.here hx rfl (hb hby d1_5) rfl ((if0 _ _).trans (teq hc5_913).2) k) ?_
    show own_Fin p e below G (s₁.setTop (mkF m 8 #[iv p1, iv (p1 &&& (3 : Int32))] []))
    obtain ⟨T914, X914, e914, st914⟩ := getS2 X0 hx hZ hown (host := "") (Or.inl (own_w hw 5 rfl)) Via.refl e0 SFIRST (g := (mkF m 8 #[iv p1, iv (p1 &&& (3 : Int32))] [])) rfl (hb hby d1_8)
    refine own_st st914 ?_
    clear st914
    show own_Fin p e below G (T914.setTop (mkF m 11 #[iv p1, iv (p1 &&& (3 : Int32))] [(.ref a_FIRST)]))
    refine own_out X914 Bd.notSynchronized (v := (some (.ref a_FIRST))) (fun h => by rw [Bd.returns] at h; cases h) hG (fun fs hr => retOut X914 hx Bd.returns rfl (Or.inr (Or.inr (Or.inr (Or.inr ⟨rfl, rfl, rfl⟩)))) (hb hby d1_11) hr) (by decide) (by decide) ?_
    exact ⟨_, rfl, N0, e914, EFIRST⟩
  · refine own_st (fun _ k => XS.ifYes X0.here hx rfl (pc0 := 5) (pc' := 12) rfl (hb hby d1_5) rfl ((if0 _ _).trans (feq hc5_913).2) (by decide) (by decide) k) ?_
    show own_Fin p e below G (s₁.setTop (mkF m 12 #[iv p1, iv (p1 &&& (3 : Int32))] []))
    refine own_st (fun _ k => XS.iloadN X0.here hx rfl (hb hby d1_12) rfl  k) ?_
    show own_Fin p e below G (s₁.setTop (mkF m 13 #[iv p1, iv (p1 &&& (3 : Int32))] [(.int (p1 &&& (3 : Int32)))]))
    refine own_st (fun _ k => XS.iconst X0.here hx rfl (hb hby d1_13) k) ?_
    show own_Fin p e below G (s₁.setTop (mkF m 14 #[iv p1, iv (p1 &&& (3 : Int32))] [(.int (1 : Int32)), (.int (p1 &&& (3 : Int32)))]))
    by_cases hc14_915 : (p1 &&& (3 : Int32)) = (1 : Int32)
    · refine own_st (fun _ k => XS.icmpNo X0.here hx rfl (hb hby d1_14) rfl (teq hc14_915).2 k) ?_
      show own_Fin p e below G (s₁.setTop (mkF m 17 #[iv p1, iv (p1 &&& (3 : Int32))] []))
      obtain ⟨T916, X916, e916, st916⟩ := getS2 X0 hx hZ hown (host := "") (Or.inl (own_w hw 149 rfl)) Via.refl e0 SFORWARD (g := (mkF m 17 #[iv p1, iv (p1 &&& (3 : Int32))] [])) rfl (hb hby d1_17)
      refine own_st st916 ?_
      clear st916
      show own_Fin p e below G (T916.setTop (mkF m 20 #[iv p1, iv (p1 &&& (3 : Int32))] [(.ref a_FORWARD)]))
      refine own_out X916 Bd.notSynchronized (v := (some (.ref a_FORWARD))) (fun h => by rw [Bd.returns] at h; cases h) hG (fun fs hr => retOut X916 hx Bd.returns rfl (Or.inr (Or.inr (Or.inr (Or.inr ⟨rfl, rfl, rfl⟩)))) (hb hby d1_20) hr) (by decide) (by decide) ?_
      exact ⟨_, rfl, N0, e916, EFORWARD⟩
    · refine own_st (fun _ k => XS.icmpYes X0.here hx rfl (pc0 := 14) (pc' := 21) rfl (hb hby d1_14) rfl (feq hc14_915).2 (by decide) (by decide) k) ?_
      show own_Fin p e below G (s₁.setTop (mkF m 21 #[iv p1, iv (p1 &&& (3 : Int32))] []))
      refine own_st (fun _ k => XS.iloadN X0.here hx rfl (hb hby d1_21) rfl  k) ?_
      show own_Fin p e below G (s₁.setTop (mkF m 22 #[iv p1, iv (p1 &&& (3 : Int32))] [(.int (p1 &&& (3 : Int32)))]))
      refine own_st (fun _ k => XS.iconst X0.here hx rfl (hb hby d1_22) k) ?_
      show own_Fin p e below G (s₁.setTop (mkF m 23 #[iv p1, iv (p1 &&& (3 : Int32))] [(.int (2 : Int32)), (.int (p1 &&& (3 : Int32)))]))
      by_cases hc23_917 : (p1 &&& (3 : Int32)) = (2 : Int32)
      · refine own_st (fun _ k => XS.icmpNo X0.here hx rfl (hb hby d1_23) rfl (teq hc23_917).2 k) ?_
        show own_Fin p e below G (s₁.setTop (mkF m 26 #[iv p1, iv (p1 &&& (3 : Int32))] []))
        obtain ⟨T918, X918, e918, st918⟩ := getS2 X0 hx hZ hown (host := "") (Or.inl (own_w hw 147 rfl)) Via.refl e0 SLAST (g := (mkF m 26 #[iv p1, iv (p1 &&& (3 : Int32))] [])) rfl (hb hby d1_26)
        refine own_st st918 ?_
        clear st918
        show own_Fin p e below G (T918.setTop (mkF m 29 #[iv p1, iv (p1 &&& (3 : Int32))] [(.ref a_LAST)]))
        refine own_out X918 Bd.notSynchronized (v := (some (.ref a_LAST))) (fun h => by rw [Bd.returns] at h; cases h) hG (fun fs hr => retOut X918 hx Bd.returns rfl (Or.inr (Or.inr (Or.inr (Or.inr ⟨rfl, rfl, rfl⟩)))) (hb hby d1_29) hr) (by decide) (by decide) ?_
        exact ⟨_, rfl, N0, e918, ELAST⟩
      · refine own_st (fun _ k => XS.icmpYes X0.here hx rfl (pc0 := 23) (pc' := 30) rfl (hb hby d1_23) rfl (feq hc23_917).2 (by decide) (by decide) k) ?_
        show own_Fin p e below G (s₁.setTop (mkF m 30 #[iv p1, iv (p1 &&& (3 : Int32))] []))
        obtain ⟨T919, X919, e919, st919⟩ := getS2 X0 hx hZ hown (host := "") (Or.inl (own_w hw 151 rfl)) Via.refl e0 SBACKWARD (g := (mkF m 30 #[iv p1, iv (p1 &&& (3 : Int32))] [])) rfl (hb hby d1_30)
        clear X0 e0
        refine own_st st919 ?_
        clear st919
        show own_Fin p e below G (T919.setTop (mkF m 33 #[iv p1, iv (p1 &&& (3 : Int32))] [(.ref a_BACKWARD)]))
        refine own_out X919 Bd.notSynchronized (v := (some (.ref a_BACKWARD))) (fun h => by rw [Bd.returns] at h; cases h) hG (fun fs hr => retOut X919 hx Bd.returns rfl (Or.inr (Or.inr (Or.inr (Or.inr ⟨rfl, rfl, rfl⟩)))) (hb hby d1_33) hr) (by decide) (by decide) ?_
        exact ⟨_, rfl, N0, e919, EBACKWARD⟩

theorem d14_0 : decode prog_81_method_8_code 0 = .ok (.aload_n 0, 1) := by decide +kernel
theorem d14_1 : decode prog_81_method_8_code 1 = .ok (.getfield 47, 3) := by decide +kernel
theorem d14_4 : decode prog_81_method_8_code 4 = .ok (.iload_n 1, 1) := by decide +kernel
theorem d14_5 : decode prog_81_method_8_code 5 = .ok (.aload_n 2, 1) := by decide +kernel
theorem d14_6 : decode prog_81_method_8_code 6 = .ok (.aastore, 1) := by decide +kernel
theorem d14_7 : decode prog_81_method_8_code 7 = .ok (.aload_n 0, 1) := by decide +kernel
theorem d14_8 : decode prog_81_method_8_code 8 = .ok (.getfield 53, 3) := by decide +kernel
theorem d14_11 : decode prog_81_method_8_code 11 = .ok (.iload_n 1, 1) := by decide +kernel
theorem d14_12 : decode prog_81_method_8_code 12 = .ok (.iconst 2, 1) := by decide +kernel
theorem d14_13 : decode prog_81_method_8_code 13 = .ok (.newarray .double, 2) := by decide +kernel
theorem d14_15 : decode prog_81_method_8_code 15 = .ok (.dup, 1) := by decide +kernel
theorem d14_16 : decode prog_81_method_8_code 16 = .ok (.iconst 0, 1) := by decide +kernel
theorem d14_17 : decode prog_81_method_8_code 17 = .ok (.dload_n 3, 1) := by decide +kernel
theorem d14_18 : decode prog_81_method_8_code 18 = .ok (.dastore, 1) := by decide +kernel
theorem d14_19 : decode prog_81_method_8_code 19 = .ok (.dup, 1) := by decide +kernel
theorem d14_20 : decode prog_81_method_8_code 20 = .ok (.iconst 1, 1) := by decide +kernel
theorem d14_21 : decode prog_81_method_8_code 21 = .ok (.dload 5, 2) := by decide +kernel
theorem d14_23 : decode prog_81_method_8_code 23 = .ok (.dastore, 1) := by decide +kernel
theorem d14_24 : decode prog_81_method_8_code 24 = .ok (.aastore, 1) := by decide +kernel
theorem d14_25 : decode prog_81_method_8_code 25 = .ok (.return_, 1) := by decide +kernel
theorem ef_14_RIRDD (m : MethodId) (x0 : Addr) (x1 : Int32) (x2 : Addr) (x3 : UInt64) (x4 : UInt64) : entryFrame m #[(.ref x0), (.int x1), (.ref x2), (.double x3), (.double x4)] 7 = mkF m 0 #[rv x0, iv x1, rv x2, .val (.double x3), .second, .val (.double x4), .second] [] := by first | (simp [entryFrame, mkF, argsToLocals, Value.category]; done) | rfl
def Qrm_sb (Z : State) (a1 : Addr) (j : Int32) (sd : Addr) (d1 : UInt64) (d2 : UInt64) (bb : Addr) (kb : ClassId) (bp : Addr) (kp : ClassId) (us : List Value) (ts : List Value) (nn : Nat) (h0 : Heap) (n0 : Nat) (v : Option Value) (h : Heap) (L : List Loc) : Prop := ∃ x : Addr, v = none ∧ Fr n0 L ∧ Keep h0 h [bb, bp] ∧ h0.size ≤ x ∧ own_AVk Z h bb kb (.object "com/example/urania/urania/layered/FlowSide") (us.set j.toNatClampNeg (.ref sd)) ∧ own_AVk Z h bp kp (.array .double) (ts.set j.toNatClampNeg (.ref x)) ∧ own_AV Z h x .double (own_ds [d1, d2])
set_option maxRecDepth 65536 in
set_option maxHeartbeats 40000000 in
theorem rm_sb (l : Launch) (Z : State) (a0 : Array Value) (hw : ∀ d ∈ tables_1, d.before a0 Z = true) (ws : List Jvm.Cond) (a1 : Addr) (j : Int32) (sd : Addr) (d1 : UInt64) (d2 : UInt64) (bb : Addr) (kb : ClassId) (bp : Addr) (kp : ClassId) (us : List Value) (ts : List Value) (nn : Nat) (h0 : Heap) (n0 : Nat) (Z0 : n0 ≤ h0.size) (Fb : Fld Z h0 a1 "com/example/urania/urania/layered/Ports" "border" "[Lcom/example/urania/urania/layered/FlowSide;" (.ref bb)) (Fp : Fld Z h0 a1 "com/example/urania/urania/layered/Ports" "borderPort" "[[D" (.ref bp)) (Bb : own_AVk Z h0 bb kb (.object "com/example/urania/urania/layered/FlowSide") us) (Bp : own_AVk Z h0 bp kp (.array .double) ts) (Ob : Ovr Z kb "com/example/urania/urania/layered/FlowSide") (Op : OvrA Z kp .double "[D") (Es : Exa Z h0 sd "com/example/urania/urania/layered/FlowSide") (nebp : bb ≠ bp) (ne1b : a1 ≠ bb) (ne1p : a1 ≠ bp) (gb : n0 ≤ bb) (gp : n0 ≤ bp) (hu : us.length = nn) (ht : ts.length = nn) (hj : ¬ (j < 0 ∨ nn ≤ j.toNatClampNeg)) :
    MetFree l own_y13 (head1 (Jvm.Cond.code own_y13 prog_81_method_8_code 7 none :: ws) ({ frames := 0, cells := 1, slots := 2, locals := 0 } : Room)) (fun a U => a = #[(.ref a1), (.int j), (.ref sd), (.double d1), (.double d2)] ∧ Z.Warmed39 U.vm ∧ U.heap = h0) (fun _ _ _ _ _ => True) (fun _ U o U' => ∃ v L, o = .returned v ∧ Qrm_sb Z a1 j sd d1 d2 bb kb bp kp us ts nn h0 n0 v U'.heap L ∧ FrameEnd U o U' L ({ frames := 0, cells := 1, slots := 2, locals := 0 } : Room).cells ({ frames := 0, cells := 1, slots := 2, locals := 0 } : Room).slots) := by
  refine MetFree.of_bodySF (plainFor_of_name pn_com_example_urania_urania_layered_Ports) hisR ?_
  intro p e s m args below meth c s₁ Bd hml0 hP hK
  obtain ⟨rfl, hZ, hh⟩ := hP
  have hx := Bd.exec
  have hby := Bd.bytes
  have hml : c.maxLocals = 7 := hml0
  have hown : s.vm.findClass "com/example/urania/urania/layered/Ports" = some m.cls := findClass_of_methodNamed Bd.named
  have hnm := (name_of_methodNamed Bd.named Bd.method).1
  have X0 : Stand p l e ({ frames := 0, cells := 1, slots := 2, locals := 0 } : Room) s m #[(.ref a1), (.int j), (.ref sd), (.double d1), (.double d2)] below meth c s₁ [] 0 0 := Stand.of_body Bd
  have e0 : s₁.heap = h0 := by rw [← hh, Bd.state]; rfl
  have N0 := Fr.nil n0
  have K0 : Keep h0 h0 [bb, bp] := Keep.refl _ _
  refine own_start (Qk := Qrm_sb Z a1 j sd d1 d2 bb kb bp kp us ts nn h0 n0) (fun G hG => ?_)
  refine own_st (fun _ k => castTop (ef_14_RIRDD m a1 j sd d1 d2) k) ?_
  show own_Fin p e below G (s₁.setTop (mkF m 0 #[rv a1, iv j, rv sd, .val (.double d1), .second, .val (.double d2), .second] []))
  refine own_st (fun _ k => XS.aloadN X0.here hx rfl (hb hby d14_0) rfl rfl k) ?_
  show own_Fin p e below G (s₁.setTop (mkF m 1 #[rv a1, iv j, rv sd, .val (.double d1), .second, .val (.double d2), .second] [(.ref a1)]))
  obtain ⟨T920, X920, e920, st920⟩ := getF X0 hx hZ hown (host := "") (Or.inl (own_w hw 99 rfl)) Via.refl e0 Fb (g := (mkF m 1 #[rv a1, iv j, rv sd, .val (.double d1), .second, .val (.double d2), .second] [(.ref a1)])) rfl rfl (hb hby d14_1)
  clear X0 e0
  refine own_st st920 ?_
  clear st920
  show own_Fin p e below G (T920.setTop (mkF m 4 #[rv a1, iv j, rv sd, .val (.double d1), .second, .val (.double d2), .second] [(.ref bb)]))
  refine own_st (fun _ k => XS.iloadN X920.here hx rfl (hb hby d14_4) rfl  k) ?_
  show own_Fin p e below G (T920.setTop (mkF m 5 #[rv a1, iv j, rv sd, .val (.double d1), .second, .val (.double d2), .second] [(.int j), (.ref bb)]))
  refine own_st (fun _ k => XS.aloadN X920.here hx rfl (hb hby d14_5) rfl rfl k) ?_
  show own_Fin p e below G (T920.setTop (mkF m 6 #[rv a1, iv j, rv sd, .val (.double d1), .second, .val (.double d2), .second] [(.ref sd), (.int j), (.ref bb)]))
  obtain ⟨T921, h921, X921, e921, W921, V921, st921⟩ := own_stR X920 hx hZ e920 Bb (j := j) (n := nn) hu hj rfl (fun A q => Sto.ofV A q Ob (Ins.self Es)) (g := (mkF m 6 #[rv a1, iv j, rv sd, .val (.double d1), .second, .val (.double d2), .second] [(.ref sd), (.int j), (.ref bb)])) rfl rfl (hb hby d14_6)
  clear X920 e920
  have f922_0 := Fb.other W921 (Or.inl ne1b)
  have f922_1 := Fp.other W921 (Or.inl ne1b)
  have f922_3 := Bp.other W921 (Ne.symm nebp)
  have f922_4 := Es.wr W921
  have K923 : Keep h0 h921 [bb, bp] := K0.wr W921 (Or.inl (List.mem_of_getElem? (i := 0) rfl))
  clear K0 W921
  have N924 := Fr.snoc X921 N0 gb
  clear N0
  replace V921 : own_AVk Z h921 bb kb (.object "com/example/urania/urania/layered/FlowSide") (us.set j.toNatClampNeg (.ref sd)) := V921
  refine own_st st921 ?_
  clear st921
  show own_Fin p e below G (T921.setTop (mkF m 7 #[rv a1, iv j, rv sd, .val (.double d1), .second, .val (.double d2), .second] []))
  refine own_st (fun _ k => XS.aloadN X921.here hx rfl (hb hby d14_7) rfl rfl k) ?_
  show own_Fin p e below G (T921.setTop (mkF m 8 #[rv a1, iv j, rv sd, .val (.double d1), .second, .val (.double d2), .second] [(.ref a1)]))
  obtain ⟨T925, X925, e925, st925⟩ := getF X921 hx hZ hown (host := "") (Or.inl (own_w hw 103 rfl)) Via.refl e921 f922_1 (g := (mkF m 8 #[rv a1, iv j, rv sd, .val (.double d1), .second, .val (.double d2), .second] [(.ref a1)])) rfl rfl (hb hby d14_8)
  clear X921 e921
  refine own_st st925 ?_
  clear st925
  show own_Fin p e below G (T925.setTop (mkF m 11 #[rv a1, iv j, rv sd, .val (.double d1), .second, .val (.double d2), .second] [(.ref bp)]))
  refine own_st (fun _ k => XS.iloadN X925.here hx rfl (hb hby d14_11) rfl  k) ?_
  show own_Fin p e below G (T925.setTop (mkF m 12 #[rv a1, iv j, rv sd, .val (.double d1), .second, .val (.double d2), .second] [(.int j), (.ref bp)]))
  refine own_st (fun _ k => XS.iconst X925.here hx rfl (hb hby d14_12) k) ?_
  show own_Fin p e below G (T925.setTop (mkF m 13 #[rv a1, iv j, rv sd, .val (.double d1), .second, .val (.double d2), .second] [(.int (2 : Int32)), (.int j), (.ref bp)]))
  obtain ⟨T926, h926, k926, X926, e926, E926, A926, B926, st926⟩ := newPE X925 hx hZ (own_w hw 121 rfl) e925 (g := (mkF m 13 #[rv a1, iv j, rv sd, .val (.double d1), .second, .val (.double d2), .second] [(.int (2 : Int32)), (.int j), (.ref bp)])) rfl (hb hby d14_13) rfl (by decide) (cap := 2) (by decide) (by decide) (by decide) (by decide) (ad := "[D") (by decide +kernel)
  clear X925 e925
  obtain ⟨b926, g926⟩ : ∃ z, z = h921.size := ⟨_, rfl⟩
  rw [← g926] at A926 B926 st926
  have ne_a1_b926 : a1 ≠ b926 := Nat.ne_of_lt (Nat.lt_of_lt_of_le f922_0.lt (Nat.le_of_eq g926.symm))
  have ne_bb_b926 : bb ≠ b926 := Nat.ne_of_lt (Nat.lt_of_lt_of_le V921.lt (Nat.le_of_eq g926.symm))
  have ne_bp_b926 : bp ≠ b926 := Nat.ne_of_lt (Nat.lt_of_lt_of_le f922_3.lt (Nat.le_of_eq g926.symm))
  have ne_sd_b926 : sd ≠ b926 := Nat.ne_of_lt (Nat.lt_of_lt_of_le f922_4.lt (Nat.le_of_eq g926.symm))
  have sz_b926 : h0.size ≤ b926 := Nat.le_trans K923.1 (Nat.le_of_eq g926.symm)
  have g_b926 : n0 ≤ b926 := Nat.le_trans Z0 sz_b926
  have f927_0 := f922_0.ext E926
  clear f922_0
  have f927_1 := f922_1.ext E926
  clear f922_1
  have f927_2 := V921.ext E926
  clear V921
  have f927_3 := f922_3.ext E926
  clear f922_3
  have f927_4 := f922_4.ext E926
  clear f922_4
  have K928 : Keep h0 h926 [bb, bp] := K923.ext E926
  clear K923 E926
  have V926 : own_AV Z h926 b926 .double (own_ds [(0 : UInt64), (0 : UInt64)]) := own_AV_newD A926
  clear A926
  refine own_st st926 ?_
  clear st926
  show own_Fin p e below G (T926.setTop (mkF m 15 #[rv a1, iv j, rv sd, .val (.double d1), .second, .val (.double d2), .second] [(.ref b926), (.int j), (.ref bp)]))
  refine own_st (fun _ k => XS.dup X926.here hx rfl (hb hby d14_15) rfl rfl k) ?_
  show own_Fin p e below G (T926.setTop (mkF m 16 #[rv a1, iv j, rv sd, .val (.double d1), .second, .val (.double d2), .second] [(.ref b926), (.ref b926), (.int j), (.ref bp)]))
  refine own_st (fun _ k => XS.iconst X926.here hx rfl (hb hby d14_16) k) ?_
  show own_Fin p e below G (T926.setTop (mkF m 17 #[rv a1, iv j, rv sd, .val (.double d1), .second, .val (.double d2), .second] [(.int (0 : Int32)), (.ref b926), (.ref b926), (.int j), (.ref bp)]))
  refine own_st (fun _ k => XS.dloadN X926.here hx rfl (hb hby d14_17) rfl  k) ?_
  show own_Fin p e below G (T926.setTop (mkF m 18 #[rv a1, iv j, rv sd, .val (.double d1), .second, .val (.double d2), .second] [(.double d1), (.int (0 : Int32)), (.ref b926), (.ref b926), (.int j), (.ref bp)]))
  obtain ⟨T929, h929, X929, e929, W929, V929, st929⟩ := own_stD X926 hx hZ e926 V926 (j := (0 : Int32)) (n := 2) rfl (by decide) (g := (mkF m 18 #[rv a1, iv j, rv sd, .val (.double d1), .second, .val (.double d2), .second] [(.double d1), (.int (0 : Int32)), (.ref b926), (.ref b926), (.int j), (.ref bp)])) rfl rfl (hb hby d14_18)
  clear X926 e926 V926
  have f930_0 := f927_0.other W929 (Or.inl ne_a1_b926)
  clear f927_0
  have f930_1 := f927_1.other W929 (Or.inl ne_a1_b926)
  clear f927_1
  have f930_2 := f927_2.other W929 ne_bb_b926
  clear f927_2
  have f930_3 := f927_3.other W929 ne_bp_b926
  clear f927_3
  have f930_4 := f927_4.wr W929
  clear f927_4
  have f930_5 := B926.wr W929
  clear B926
  have K931 : Keep h0 h929 [bb, bp] := K928.wr W929 (Or.inr sz_b926)
  clear K928 W929
  have N932 := Fr.snoc X929 N924 g_b926
  clear N924
  replace V929 : own_AV Z h929 b926 .double (own_ds [d1, (0 : UInt64)]) := V929
  refine own_st st929 ?_
  clear st929
  show own_Fin p e below G (T929.setTop (mkF m 19 #[rv a1, iv j, rv sd, .val (.double d1), .second, .val (.double d2), .second] [(.ref b926), (.int j), (.ref bp)]))
  refine own_st (fun _ k => XS.dup X929.here hx rfl (hb hby d14_19) rfl rfl k) ?_
  show own_Fin p e below G (T929.setTop (mkF m 20 #[rv a1, iv j, rv sd, .val (.double d1), .second, .val (.double d2), .second] [(.ref b926), (.ref b926), (.int j), (.ref bp)]))
  refine own_st (fun _ k => XS.iconst X929.here hx rfl (hb hby d14_20) k) ?_
  show own_Fin p e below G (T929.setTop (mkF m 21 #[rv a1, iv j, rv sd, .val (.double d1), .second, .val (.double d2), .second] [(.int (1 : Int32)), (.ref b926), (.ref b926), (.int j), (.ref bp)]))
  refine own_st (fun _ k => XS.dload X929.here hx rfl (hb hby d14_21) rfl  k) ?_
  show own_Fin p e below G (T929.setTop (mkF m 23 #[rv a1, iv j, rv sd, .val (.double d1), .second, .val (.double d2), .second] [(.double d2), (.int (1 : Int32)), (.ref b926), (.ref b926), (.int j), (.ref bp)]))
  obtain ⟨T933, h933, X933, e933, W933, V933, st933⟩ := own_stD X929 hx hZ e929 V929 (j := (1 : Int32)) (n := 2) rfl (by decide) (g := (mkF m 23 #[rv a1, iv j, rv sd, .val (.double d1), .second, .val (.double d2), .second] [(.double d2), (.int (1 : Int32)), (.ref b926), (.ref b926), (.int j), (.ref bp)])) rfl rfl (hb hby d14_23)
  clear X929 e929 V929
  have f934_0 := f930_0.other W933 (Or.inl ne_a1_b926)
  clear f930_0
  have f934_1 := f930_1.other W933 (Or.inl ne_a1_b926)
  clear f930_1
  have f934_2 := f930_2.other W933 ne_bb_b926
  clear f930_2
  have f934_3 := f930_3.other W933 ne_bp_b926
  clear f930_3
  have f934_4 := f930_4.wr W933
  clear f930_4
  have f934_5 := f930_5.wr W933
  clear f930_5
  have K935 : Keep h0 h933 [bb, bp] := K931.wr W933 (Or.inr sz_b926)
  clear K931 W933
  have N936 := Fr.snoc X933 N932 g_b926
  clear N932
  replace V933 : own_AV Z h933 b926 .double (own_ds [d1, d2]) := V933
  refine own_st st933 ?_
  clear st933
  show own_Fin p e below G (T933.setTop (mkF m 24 #[rv a1, iv j, rv sd, .val (.double d1), .second, .val (.double d2), .second] [(.ref b926), (.int j), (.ref bp)]))
  obtain ⟨T937, h937, X937, e937, W937, V937, st937⟩ := own_stR X933 hx hZ e933 f934_3 (j := j) (n := nn) ht hj rfl (fun A q => Sto.ofVA A q Op (Ins.self f934_5)) (g := (mkF m 24 #[rv a1, iv j, rv sd, .val (.double d1), .second, .val (.double d2), .second] [(.ref b926), (.int j), (.ref bp)])) rfl rfl (hb hby d14_24)
  clear X933 e933 f934_3
  have f938_0 := f934_0.other W937 (Or.inl ne1p)
  clear f934_0 f938_0
  have f938_1 := f934_1.other W937 (Or.inl ne1p)
  clear f934_1 f938_1
  have f938_2 := f934_2.other W937 nebp
  clear f934_2
  have f938_4 := f934_4.wr W937
  clear f934_4 f938_4
  have f938_5 := f934_5.wr W937
  clear f934_5 f938_5
  have f938_6 := V933.other W937 (Ne.symm ne_bp_b926)
  clear V933
  have K939 : Keep h0 h937 [bb, bp] := K935.wr W937 (Or.inl (List.mem_of_getElem? (i := 1) rfl))
  clear K935 W937
  have N940 := Fr.snoc X937 N936 gp
  clear N936
  replace V937 : own_AVk Z h937 bp kp (.array .double) (ts.set j.toNatClampNeg (.ref b926)) := V937
  refine own_st st937 ?_
  clear st937
  show own_Fin p e below G (T937.setTop (mkF m 25 #[rv a1, iv j, rv sd, .val (.double d1), .second, .val (.double d2), .second] []))
  refine own_out X937 Bd.notSynchronized (v := none) (fun _ => rfl) hG (fun fs hr => X937.returnOut hx Bd.returns (hb hby d14_25) hr) (by decide) (by decide) ?_
  exact ⟨b926, rfl, N940, e937.symm ▸ K939, sz_b926, e937.symm ▸ f938_2, e937.symm ▸ V937, e937.symm ▸ f938_6⟩

theorem d16_0 : decode prog_81_method_28_code 0 = .ok (.aload_n 0, 1) := by decide +kernel
theorem d16_1 : decode prog_81_method_28_code 1 = .ok (.getfield 47, 3) := by decide +kernel
theorem d16_4 : decode prog_81_method_28_code 4 = .ok (.iload_n 1, 1) := by decide +kernel
theorem d16_5 : decode prog_81_method_28_code 5 = .ok (.aaload, 1) := by decide +kernel
theorem d16_6 : decode prog_81_method_28_code 6 = .ok (.areturn, 1) := by decide +kernel
theorem ef_16_RI (m : MethodId) (x0 : Addr) (x1 : Int32) : entryFrame m #[(.ref x0), (.int x1)] 2 = mkF m 0 #[rv x0, iv x1] [] := by first | (simp [entryFrame, mkF, argsToLocals, Value.category]; done) | rfl
def Qrm_gborder (Z : State) (a1 : Addr) (j : Int32) (bb : Addr) (kb : ClassId) (us : List Value) (nn : Nat) (vv : Value) (h0 : Heap) (n0 : Nat) (v : Option Value) (h : Heap) (L : List Loc) : Prop := v = some vv ∧ Fr n0 L ∧ h = h0
set_option maxRecDepth 65536 in
set_option maxHeartbeats 40000000 in
theorem rm_gborder (l : Launch) (Z : State) (a0 : Array Value) (hw : ∀ d ∈ tables_1, d.before a0 Z = true) (ws : List Jvm.Cond) (a1 : Addr) (j : Int32) (bb : Addr) (kb : ClassId) (us : List Value) (nn : Nat) (vv : Value) (h0 : Heap) (n0 : Nat) (Z0 : n0 ≤ h0.size) (F1 : Fld Z h0 a1 "com/example/urania/urania/layered/Ports" "border" "[Lcom/example/urania/urania/layered/FlowSide;" (.ref bb)) (B1 : own_AVk Z h0 bb kb (.object "com/example/urania/urania/layered/FlowSide") us) (hu : us.length = nn) (hj : ¬ (j < 0 ∨ nn ≤ j.toNatClampNeg)) (hv : us[j.toNatClampNeg]? = some vv) (hvr : vv.isRef = true) :
    MetFree l own_y14 (head1 (Jvm.Cond.code own_y14 prog_81_method_28_code 2 (some (.object "com/example/urania/urania/layered/FlowSide")) :: ws) ({ frames := 0, cells := 0, slots := 0, locals := 0 } : Room)) (fun a U => a = #[(.ref a1), (.int j)] ∧ Z.Warmed39 U.vm ∧ U.heap = h0) (fun _ _ _ _ _ => True) (fun _ U o U' => ∃ v L, o = .returned v ∧ Qrm_gborder Z a1 j bb kb us nn vv h0 n0 v U'.heap L ∧ FrameEnd U o U' L ({ frames := 0, cells := 0, slots := 0, locals := 0 } : Room).cells ({ frames := 0, cells := 0, slots := 0, locals := 0 } : Room).slots) := by
  refine MetFree.of_bodySF (plainFor_of_name pn_com_example_urania_urania_layered_Ports) hisR ?_
  intro p e s m args below meth c s₁ Bd hml0 hP hK
  obtain ⟨rfl, hZ, hh⟩ := hP
  have hx := Bd.exec
  have hby := Bd.bytes
  have hml : c.maxLocals = 2 := hml0
  have hown : s.vm.findClass "com/example/urania/urania/layered/Ports" = some m.cls := findClass_of_methodNamed Bd.named
  have hnm := (name_of_methodNamed Bd.named Bd.method).1
  have X0 : Stand p l e ({ frames := 0, cells := 0, slots := 0, locals := 0 } : Room) s m #[(.ref a1), (.int j)] below meth c s₁ [] 0 0 := Stand.of_body Bd
  have e0 : s₁.heap = h0 := by rw [← hh, Bd.state]; rfl
  have N0 := Fr.nil n0
  have K0 : Keep h0 h0 [] := Keep.refl _ _
  clear K0
  refine own_start (Qk := Qrm_gborder Z a1 j bb kb us nn vv h0 n0) (fun G hG => ?_)
  refine own_st (fun _ k => castTop (ef_16_RI m a1 j) k) ?_
  show own_Fin p e below G (s₁.setTop (mkF m 0 #[rv a1, iv j] []))
  refine own_st (fun _ k => XS.aloadN X0.here hx rfl (hb hby d16_0) rfl rfl k) ?_
  show own_Fin p e below G (s₁.setTop (mkF m 1 #[rv a1, iv j] [(.ref a1)]))
  obtain ⟨T941, X941, e941, st941⟩ := getF X0 hx hZ hown (host := "") (Or.inl (own_w hw 99 rfl)) Via.refl e0 F1 (g := (mkF m 1 #[rv a1, iv j] [(.ref a1)])) rfl rfl (hb hby d16_1)
  clear X0 e0
  refine own_st st941 ?_
  clear st941
  show own_Fin p e below G (T941.setTop (mkF m 4 #[rv a1, iv j] [(.ref bb)]))
  refine own_st (fun _ k => XS.iloadN X941.here hx rfl (hb hby d16_4) rfl  k) ?_
  show own_Fin p e below G (T941.setTop (mkF m 5 #[rv a1, iv j] [(.int j), (.ref bb)]))
  refine own_st (fun _ k => own_ldR X941 hx hZ e941 B1 (j := j) (n := nn) hu hj rfl (v := vv) hv (g := (mkF m 5 #[rv a1, iv j] [(.int j), (.ref bb)])) rfl rfl (hb hby d16_5) k) ?_
  clear B1
  show own_Fin p e below G (T941.setTop (mkF m 6 #[rv a1, iv j] [vv]))
  refine own_out X941 Bd.notSynchronized (v := (some vv)) (fun h => by rw [Bd.returns] at h; cases h) hG (fun fs hr => retOut X941 hx Bd.returns rfl (Or.inr (Or.inr (Or.inr (Or.inr ⟨rfl, rfl, hvr⟩)))) (hb hby d16_6) hr) (by decide) (by decide) ?_
  exact ⟨rfl, N0, e941⟩

theorem d15_0 : decode prog_81_method_30_code 0 = .ok (.aload_n 0, 1) := by decide +kernel
theorem d15_1 : decode prog_81_method_30_code 1 = .ok (.getfield 53, 3) := by decide +kernel
theorem d15_4 : decode prog_81_method_30_code 4 = .ok (.iload_n 1, 1) := by decide +kernel
theorem d15_5 : decode prog_81_method_30_code 5 = .ok (.aaload, 1) := by decide +kernel
theorem d15_6 : decode prog_81_method_30_code 6 = .ok (.areturn, 1) := by decide +kernel
theorem ef_15_RI (m : MethodId) (x0 : Addr) (x1 : Int32) : entryFrame m #[(.ref x0), (.int x1)] 2 = mkF m 0 #[rv x0, iv x1] [] := by first | (simp [entryFrame, mkF, argsToLocals, Value.category]; done) | rfl
def Qrm_gborderPort (Z : State) (a1 : Addr) (j : Int32) (bp : Addr) (kp : ClassId) (us : List Value) (nn : Nat) (vv : Value) (h0 : Heap) (n0 : Nat) (v : Option Value) (h : Heap) (L : List Loc) : Prop := v = some vv ∧ Fr n0 L ∧ h = h0
set_option maxRecDepth 65536 in
set_option maxHeartbeats 40000000 in
theorem rm_gborderPort (l : Launch) (Z : State) (a0 : Array Value) (hw : ∀ d ∈ tables_1, d.before a0 Z = true) (ws : List Jvm.Cond) (a1 : Addr) (j : Int32) (bp : Addr) (kp : ClassId) (us : List Value) (nn : Nat) (vv : Value) (h0 : Heap) (n0 : Nat) (Z0 : n0 ≤ h0.size) (F1 : Fld Z h0 a1 "com/example/urania/urania/layered/Ports" "borderPort" "[[D" (.ref bp)) (B1 : own_AVk Z h0 bp kp (.array .double) us) (hu : us.length = nn) (hj : ¬ (j < 0 ∨ nn ≤ j.toNatClampNeg)) (hv : us[j.toNatClampNeg]? = some vv) (hvr : vv.isRef = true) :
    MetFree l own_y15 (head1 (Jvm.Cond.code own_y15 prog_81_method_30_code 2 (some (.array .double)) :: ws) ({ frames := 0, cells := 0, slots := 0, locals := 0 } : Room)) (fun a U => a = #[(.ref a1), (.int j)] ∧ Z.Warmed39 U.vm ∧ U.heap = h0) (fun _ _ _ _ _ => True) (fun _ U o U' => ∃ v L, o = .returned v ∧ Qrm_gborderPort Z a1 j bp kp us nn vv h0 n0 v U'.heap L ∧ FrameEnd U o U' L ({ frames := 0, cells := 0, slots := 0, locals := 0 } : Room).cells ({ frames := 0, cells := 0, slots := 0, locals := 0 } : Room).slots) := by
  refine MetFree.of_bodySF (plainFor_of_name pn_com_example_urania_urania_layered_Ports) hisR ?_
  intro p e s m args below meth c s₁ Bd hml0 hP hK
  obtain ⟨rfl, hZ, hh⟩ := hP
  have hx := Bd.exec
  have hby := Bd.bytes
  have hml : c.maxLocals = 2 := hml0
  have hown : s.vm.findClass "com/example/urania/urania/layered/Ports" = some m.cls := findClass_of_methodNamed Bd.named
  have hnm := (name_of_methodNamed Bd.named Bd.method).1
  have X0 : Stand p l e ({ frames := 0, cells := 0, slots := 0, locals := 0 } : Room) s m #[(.ref a1), (.int j)] below meth c s₁ [] 0 0 := Stand.of_body Bd
  have e0 : s₁.heap = h0 := by rw [← hh, Bd.state]; rfl
  have N0 := Fr.nil n0
  have K0 : Keep h0 h0 [] := Keep.refl _ _
  clear K0
  refine own_start (Qk := Qrm_gborderPort Z a1 j bp kp us nn vv h0 n0) (fun G hG => ?_)
  refine own_st (fun _ k => castTop (ef_15_RI m a1 j) k) ?_
  show own_Fin p e below G (s₁.setTop (mkF m 0 #[rv a1, iv j] []))
  refine own_st (fun _ k => XS.aloadN X0.here hx rfl (hb hby d15_0) rfl rfl k) ?_
  show own_Fin p e below G (s₁.setTop (mkF m 1 #[rv a1, iv j] [(.ref a1)]))
  obtain ⟨T942, X942, e942, st942⟩ := getF X0 hx hZ hown (host := "") (Or.inl (own_w hw 103 rfl)) Via.refl e0 F1 (g := (mkF m 1 #[rv a1, iv j] [(.ref a1)])) rfl rfl (hb hby d15_1)
  clear X0 e0
  refine own_st st942 ?_
  clear st942
  show own_Fin p e below G (T942.setTop (mkF m 4 #[rv a1, iv j] [(.ref bp)]))
  refine own_st (fun _ k => XS.iloadN X942.here hx rfl (hb hby d15_4) rfl  k) ?_
  show own_Fin p e below G (T942.setTop (mkF m 5 #[rv a1, iv j] [(.int j), (.ref bp)]))
  refine own_st (fun _ k => own_ldR X942 hx hZ e942 B1 (j := j) (n := nn) hu hj rfl (v := vv) hv (g := (mkF m 5 #[rv a1, iv j] [(.int j), (.ref bp)])) rfl rfl (hb hby d15_5) k) ?_
  clear B1
  show own_Fin p e below G (T942.setTop (mkF m 6 #[rv a1, iv j] [vv]))
  refine own_out X942 Bd.notSynchronized (v := (some vv)) (fun h => by rw [Bd.returns] at h; cases h) hG (fun fs hr => retOut X942 hx Bd.returns rfl (Or.inr (Or.inr (Or.inr (Or.inr ⟨rfl, rfl, hvr⟩)))) (hb hby d15_6) hr) (by decide) (by decide) ?_
  exact ⟨rfl, N0, e942⟩

theorem d17_0 : decode prog_81_method_29_code 0 = .ok (.aload_n 0, 1) := by decide +kernel
theorem d17_1 : decode prog_81_method_29_code 1 = .ok (.getfield 47, 3) := by decide +kernel
theorem d17_4 : decode prog_81_method_29_code 4 = .ok (.invokevirtual 158, 3) := by decide +kernel
theorem d17_7 : decode prog_81_method_29_code 7 = .ok (.checkcast 159, 3) := by decide +kernel
theorem d17_10 : decode prog_81_method_29_code 10 = .ok (.areturn, 1) := by decide +kernel
theorem ef_17_R (m : MethodId) (x0 : Addr) : entryFrame m #[(.ref x0)] 1 = mkF m 0 #[rv x0] [] := by first | (simp [entryFrame, mkF, argsToLocals, Value.category]; done) | rfl
def Qrm_bs (Z : State) (a1 : Addr) (bb : Addr) (kb : ClassId) (us : List Value) (h0 : Heap) (n0 : Nat) (v : Option Value) (h : Heap) (L : List Loc) : Prop := ∃ x : Addr, v = some (.ref x) ∧ Fr n0 L ∧ Keep h0 h [] ∧ h0.size ≤ x ∧ own_AVk Z h x kb (.object "com/example/urania/urania/layered/FlowSide") us
set_option maxRecDepth 65536 in
set_option maxHeartbeats 40000000 in
theorem rm_bs (l : Launch) (Z : State) (a0 : Array Value) (hw : ∀ d ∈ tables_1, d.before a0 Z = true) (ws : List Jvm.Cond) (a1 : Addr) (bb : Addr) (kb : ClassId) (us : List Value) (h0 : Heap) (n0 : Nat) (Z0 : n0 ≤ h0.size) (F1 : Fld Z h0 a1 "com/example/urania/urania/layered/Ports" "border" "[Lcom/example/urania/urania/layered/FlowSide;" (.ref bb)) (B1 : own_AVk Z h0 bb kb (.object "com/example/urania/urania/layered/FlowSide") us) (E1 : Exa Z h0 bb "[Lcom/example/urania/urania/layered/FlowSide;") (hl : us.length ≤ 4) (hf : ∀ v ∈ us, fits (.object "com/example/urania/urania/layered/FlowSide") v = true) :
    MetFree l own_y16 (head1 (Jvm.Cond.code own_y16 prog_81_method_29_code 1 (some (.array (.object "com/example/urania/urania/layered/FlowSide"))) :: ws) ({ frames := 1, cells := 1, slots := 4, locals := 14 } : Room)) (fun a U => a = #[(.ref a1)] ∧ Z.Warmed39 U.vm ∧ U.heap = h0) (fun _ _ _ _ _ => True) (fun _ U o U' => ∃ v L, o = .returned v ∧ Qrm_bs Z a1 bb kb us h0 n0 v U'.heap L ∧ FrameEnd U o U' L ({ frames := 1, cells := 1, slots := 4, locals := 14 } : Room).cells ({ frames := 1, cells := 1, slots := 4, locals := 14 } : Room).slots) := by
  refine MetFree.of_bodySF (plainFor_of_name pn_com_example_urania_urania_layered_Ports) hisR ?_
  intro p e s m args below meth c s₁ Bd hml0 hP hK
  obtain ⟨rfl, hZ, hh⟩ := hP
  have hx := Bd.exec
  have hby := Bd.bytes
  have hml : c.maxLocals = 1 := hml0
  have hown : s.vm.findClass "com/example/urania/urania/layered/Ports" = some m.cls := findClass_of_methodNamed Bd.named
  have hnm := (name_of_methodNamed Bd.named Bd.method).1
  have X0 : Stand p l e ({ frames := 1, cells := 1, slots := 4, locals := 14 } : Room) s m #[(.ref a1)] below meth c s₁ [] 0 0 := Stand.of_body Bd
  have e0 : s₁.heap = h0 := by rw [← hh, Bd.state]; rfl
  have N0 := Fr.nil n0
  have K0 : Keep h0 h0 [] := Keep.refl _ _
  refine own_start (Qk := Qrm_bs Z a1 bb kb us h0 n0) (fun G hG => ?_)
  refine own_st (fun _ k => castTop (ef_17_R m a1) k) ?_
  show own_Fin p e below G (s₁.setTop (mkF m 0 #[rv a1] []))
  refine own_st (fun _ k => XS.aloadN X0.here hx rfl (hb hby d17_0) rfl rfl k) ?_
  show own_Fin p e below G (s₁.setTop (mkF m 1 #[rv a1] [(.ref a1)]))
  obtain ⟨T943, X943, e943, st943⟩ := getF X0 hx hZ hown (host := "") (Or.inl (own_w hw 99 rfl)) Via.refl e0 F1 (g := (mkF m 1 #[rv a1] [(.ref a1)])) rfl rfl (hb hby d17_1)
  clear X0 e0
  refine own_st st943 ?_
  clear st943
  show own_Fin p e below G (T943.setTop (mkF m 4 #[rv a1] [(.ref bb)]))
  obtain ⟨T944, h944, X944, e944, E944, A944, B944, st944⟩ := own_clone X943 hx hZ hown (own_w hw 138 rfl) (own_w hw 139 rfl) (own_w hw 143 rfl) (own_w hw 141 rfl) (own_w hw 142 rfl) (own_w hw 144 rfl) e943 B1 E1 hf (g := (mkF m 4 #[rv a1] [(.ref bb)])) rfl (by rw [hml]; rfl) rfl (hb hby d17_4) (by decide) (W := 0) (cap := 4) (by show 2 * 0 + _ ≤ _; exact Nat.le_of_eq rfl) (by decide) hl (by decide) (by decide)
  clear X943 e943
  obtain ⟨b944, g944⟩ : ∃ z, z = h0.size := ⟨_, rfl⟩
  rw [← g944] at A944 B944 st944
  have ne_a1_b944 : a1 ≠ b944 := Nat.ne_of_lt (Nat.lt_of_lt_of_le F1.lt (Nat.le_of_eq g944.symm))
  have ne_bb_b944 : bb ≠ b944 := Nat.ne_of_lt (Nat.lt_of_lt_of_le B1.lt (Nat.le_of_eq g944.symm))
  have sz_b944 : h0.size ≤ b944 := Nat.le_trans K0.1 (Nat.le_of_eq g944.symm)
  have g_b944 : n0 ≤ b944 := Nat.le_trans Z0 sz_b944
  have f945_0 := F1.ext E944
  clear f945_0
  have f945_1 := B1.ext E944
  clear B1 f945_1
  have f945_2 := E1.ext E944
  clear E1 f945_2
  have K946 : Keep h0 h944 [] := K0.ext E944
  clear K0 E944
  refine own_st st944 ?_
  clear st944
  show own_Fin p e below G (T944.setTop (mkF m 7 #[rv a1] [(.ref b944)]))
  obtain ⟨T947, X947, e947, st947⟩ := castY X944 hx hZ hown (own_w hw 145 rfl) e944 (Ins.self B944) (g := (mkF m 7 #[rv a1] [(.ref b944)])) rfl rfl (hb hby d17_7)
  clear X944 e944 B944
  refine own_st st947 ?_
  clear st947
  show own_Fin p e below G (T947.setTop (mkF m 10 #[rv a1] [(.ref b944)]))
  refine own_out X947 Bd.notSynchronized (v := (some (.ref b944))) (fun h => by rw [Bd.returns] at h; cases h) hG (fun fs hr => retOut X947 hx Bd.returns rfl (Or.inr (Or.inr (Or.inr (Or.inr ⟨rfl, rfl, rfl⟩)))) (hb hby d17_10) hr) (by decide) (by decide) ?_
  exact ⟨b944, rfl, N0, e947.symm ▸ K946, sz_b944, e947.symm ▸ A944⟩

theorem pd__I_Lcom_example_urania_urania_layered_FlowSide__422 : parseMethodDescriptor "(I)Lcom/example/urania/urania/layered/FlowSide;" = some ⟨[.int], some (.object "com/example/urania/urania/layered/FlowSide")⟩ := by decide +kernel
theorem pd__IILcom_example_urania_urania_Direction__V_921 : parseMethodDescriptor "(IILcom/example/urania/urania/Direction;)V" = some ⟨[.int, .int, (.object "com/example/urania/urania/Direction")], none⟩ := by decide +kernel
theorem pd__ILcom_example_urania_urania_layered_FlowSide_DD_V_644 : parseMethodDescriptor "(ILcom/example/urania/urania/layered/FlowSide;DD)V" = some ⟨[.int, (.object "com/example/urania/urania/layered/FlowSide"), .double, .double], none⟩ := by decide +kernel
theorem pd__I__D_313 : parseMethodDescriptor "(I)[D" = some ⟨[.int], some (.array .double)⟩ := by decide +kernel
theorem pd____Lcom_example_urania_urania_layered_FlowSide__440 : parseMethodDescriptor "()[Lcom/example/urania/urania/layered/FlowSide;" = some ⟨[], some (.array (.object "com/example/urania/urania/layered/FlowSide"))⟩ := by decide +kernel
theorem ef_0_IIIII (m : MethodId) (x0 : Int32) (x1 : Int32) (x2 : Int32) (x3 : Int32) (x4 : Int32) : entryFrame m #[(.int x0), (.int x1), (.int x2), (.int x3), (.int x4)] maxLocals = mkF m 0 #[iv x0, iv x1, iv x2, iv x3, iv x4, .unset, .unset, .unset, .unset, .unset, .unset, .unset, .unset, .unset, .unset, .unset, .unset, .unset, .unset, .unset, .unset, .unset, .unset, .unset] [] := by first | (simp [entryFrame, mkF, argsToLocals, Value.category, maxLocals]; done) | rfl
def Qrm0 (Z : State) (p1 : Int32) (p2 : Int32) (p3 : Int32) (p4 : Int32) (p5 : Int32) (a_FIRST : Addr) (a_RIGHT : Addr) (a_FREE : Addr) (a_LAST : Addr) (a_FORWARD : Addr) (a_BACKWARD : Addr) (ed : Addr) (ke : ClassId) (h0 : Heap) (n0 : Nat) (v : Option Value) (h : Heap) (L : List Loc) : Prop := v = some (.int 1) ∧ Fr n0 L
set_option maxRecDepth 65536 in
set_option maxHeartbeats 40000000 in
theorem rm0 (l : Launch) (Z : State) (a0 : Array Value) (hw : ∀ d ∈ tables_1, d.before a0 Z = true) (ws : List Jvm.Cond) (p1 : Int32) (p2 : Int32) (p3 : Int32) (p4 : Int32) (p5 : Int32) (a_FIRST : Addr) (a_RIGHT : Addr) (a_FREE : Addr) (a_LAST : Addr) (a_FORWARD : Addr) (a_BACKWARD : Addr) (ed : Addr) (ke : ClassId) (h0 : Heap) (n0 : Nat) (Z0 : n0 ≤ h0.size) (Ea_FIRST : Exa Z h0 a_FIRST "com/example/urania/urania/layered/FlowSide") (Sa_FIRST : Sta Z h0 "com/example/urania/urania/layered/FlowSide" "FIRST" "Lcom/example/urania/urania/layered/FlowSide;" (.ref a_FIRST)) (Ea_RIGHT : Exa Z h0 a_RIGHT "com/example/urania/urania/Direction") (Sa_RIGHT : Sta Z h0 "com/example/urania/urania/Direction" "RIGHT" "Lcom/example/urania/urania/Direction;" (.ref a_RIGHT)) (Ea_FREE : Exa Z h0 a_FREE "com/example/urania/urania/layered/Ports$Freedom") (Sa_FREE : Sta Z h0 "com/example/urania/urania/layered/Ports$Freedom" "FREE" "Lcom/example/urania/urania/layered/Ports$Freedom;" (.ref a_FREE)) (Ea_LAST : Exa Z h0 a_LAST "com/example/urania/urania/layered/FlowSide") (Sa_LAST : Sta Z h0 "com/example/urania/urania/layered/FlowSide" "LAST" "Lcom/example/urania/urania/layered/FlowSide;" (.ref a_LAST)) (Ea_FORWARD : Exa Z h0 a_FORWARD "com/example/urania/urania/layered/FlowSide") (Sa_FORWARD : Sta Z h0 "com/example/urania/urania/layered/FlowSide" "FORWARD" "Lcom/example/urania/urania/layered/FlowSide;" (.ref a_FORWARD)) (Ea_BACKWARD : Exa Z h0 a_BACKWARD "com/example/urania/urania/layered/FlowSide") (Sa_BACKWARD : Sta Z h0 "com/example/urania/urania/layered/FlowSide" "BACKWARD" "Lcom/example/urania/urania/layered/FlowSide;" (.ref a_BACKWARD)) (Sed : Sta Z h0 "java/util/ArrayList" "DEFAULTCAPACITY_EMPTY_ELEMENTDATA" "[Ljava/lang/Object;" (.ref ed)) (Bed : own_AVk Z h0 ed ke (.object "java/lang/Object") []) :
    MetFree l x (head1 (Jvm.Cond.code x code maxLocals ret :: ws) room_1) (fun a U => a = #[(.int p1), (.int p2), (.int p3), (.int p4), (.int p5)] ∧ Z.Warmed39 U.vm ∧ U.heap = h0) (fun _ _ _ _ _ => True) (fun _ U o U' => ∃ v L, o = .returned v ∧ Qrm0 Z p1 p2 p3 p4 p5 a_FIRST a_RIGHT a_FREE a_LAST a_FORWARD a_BACKWARD ed ke h0 n0 v U'.heap L ∧ FrameEnd U o U' L room_1.cells room_1.slots) := by
  refine MetFree.of_bodySF (plainFor_of_name pn_com_example_urania_urania_layered_PortsSetBorderPinLaw) hisR ?_
  intro p e s m args below meth c s₁ Bd hml0 hP hK
  obtain ⟨rfl, hZ, hh⟩ := hP
  have hx := Bd.exec
  have hby := Bd.bytes
  have hml : c.maxLocals = 24 := hml0
  have hown : s.vm.findClass "com/example/urania/urania/layered/PortsSetBorderPinLaw" = some m.cls := findClass_of_methodNamed Bd.named
  have hnm := (name_of_methodNamed Bd.named Bd.method).1
  have X0 : Stand p l e room_1 s m #[(.int p1), (.int p2), (.int p3), (.int p4), (.int p5)] below meth c s₁ [] 0 0 := Stand.of_body Bd
  have e0 : s₁.heap = h0 := by rw [← hh, Bd.state]; rfl
  have N0 := Fr.nil n0
  have K0 : Keep h0 h0 [] := Keep.refl _ _
  refine own_start (Qk := Qrm0 Z p1 p2 p3 p4 p5 a_FIRST a_RIGHT a_FREE a_LAST a_FORWARD a_BACKWARD ed ke h0 n0) (fun G hG => ?_)
  refine own_st (fun _ k => castTop (ef_0_IIIII m p1 p2 p3 p4 p5) k) ?_
  show own_Fin p e below G (s₁.setTop (mkF m 0 #[iv p1, iv p2, iv p3, iv p4, iv p5, .unset, .unset, .unset, .unset, .unset, .unset, .unset, .unset, .unset, .unset, .unset, .unset, .unset, .unset, .unset, .unset, .unset, .unset, .unset] []))
  refine own_st (fun _ k => XS.iconst X0.here hx rfl (hb hby at_0) k) ?_
  show own_Fin p e below G (s₁.setTop (mkF m 1 #[iv p1, iv p2, iv p3, iv p4, iv p5, .unset, .unset, .unset, .unset, .unset, .unset, .unset, .unset, .unset, .unset, .unset, .unset, .unset, .unset, .unset, .unset, .unset, .unset, .unset] [(.int (1 : Int32))]))
  refine own_st (fun _ k => XS.iloadN X0.here hx rfl (hb hby at_1) rfl  k) ?_
  show own_Fin p e below G (s₁.setTop (mkF m 2 #[iv p1, iv p2, iv p3, iv p4, iv p5, .unset, .unset, .unset, .unset, .unset, .unset, .unset, .unset, .unset, .unset, .unset, .unset, .unset, .unset, .unset, .unset, .unset, .unset, .unset] [(.int p1), (.int (1 : Int32))]))
  refine own_st (fun _ k => XS.iconst X0.here hx rfl (hb hby at_2) k) ?_
  show own_Fin p e below G (s₁.setTop (mkF m 3 #[iv p1, iv p2, iv p3, iv p4, iv p5, .unset, .unset, .unset, .unset, .unset, .unset, .unset, .unset, .unset, .unset, .unset, .unset, .unset, .unset, .unset, .unset, .unset, .unset, .unset] [(.int (3 : Int32)), (.int p1), (.int (1 : Int32))]))
  refine own_st (fun _ k => XS.iand X0.here hx rfl (hb hby at_3) rfl k) ?_
  show own_Fin p e below G (s₁.setTop (mkF m 4 #[iv p1, iv p2, iv p3, iv p4, iv p5, .unset, .unset, .unset, .unset, .unset, .unset, .unset, .unset, .unset, .unset, .unset, .unset, .unset, .unset, .unset, .unset, .unset, .unset, .unset] [(.int (p1 &&& (3 : Int32))), (.int (1 : Int32))]))
  refine own_st (fun _ k => XS.iadd X0.here hx rfl (hb hby at_4) rfl k) ?_
  show own_Fin p e below G (s₁.setTop (mkF m 5 #[iv p1, iv p2, iv p3, iv p4, iv p5, .unset, .unset, .unset, .unset, .unset, .unset, .unset, .unset, .unset, .unset, .unset, .unset, .unset, .unset, .unset, .unset, .unset, .unset, .unset] [(.int ((1 : Int32) + (p1 &&& (3 : Int32))))]))
  have hn4 := own_n4 p1
  generalize e_nn : ((1 : Int32) + (p1 &&& (3 : Int32))) = nn at *
  show own_Fin p e below G (s₁.setTop (mkF m 5 #[iv p1, iv p2, iv p3, iv p4, iv p5, .unset, .unset, .unset, .unset, .unset, .unset, .unset, .unset, .unset, .unset, .unset, .unset, .unset, .unset, .unset, .unset, .unset, .unset, .unset] [(.int nn)]))
  have le4 := own_le4 hn4
  have nz := own_nz hn4
  refine own_st (fun _ k => XS.istore X0.here hx rfl (hb hby at_5) rfl (l' := #[iv p1, iv p2, iv p3, iv p4, iv p5, iv nn, .unset, .unset, .unset, .unset, .unset, .unset, .unset, .unset, .unset, .unset, .unset, .unset, .unset, .unset, .unset, .unset, .unset, .unset]) rfl k) ?_
  show own_Fin p e below G (s₁.setTop (mkF m 7 #[iv p1, iv p2, iv p3, iv p4, iv p5, iv nn, .unset, .unset, .unset, .unset, .unset, .unset, .unset, .unset, .unset, .unset, .unset, .unset, .unset, .unset, .unset, .unset, .unset, .unset] []))
  refine own_st (fun _ k => XS.iloadN X0.here hx rfl (hb hby at_7) rfl  k) ?_
  show own_Fin p e below G (s₁.setTop (mkF m 8 #[iv p1, iv p2, iv p3, iv p4, iv p5, iv nn, .unset, .unset, .unset, .unset, .unset, .unset, .unset, .unset, .unset, .unset, .unset, .unset, .unset, .unset, .unset, .unset, .unset, .unset] [(.int p2)]))
  refine own_st (fun _ k => own_ldc X0 hx hZ hown (own_w hw 0 rfl) (g := (mkF m 8 #[iv p1, iv p2, iv p3, iv p4, iv p5, iv nn, .unset, .unset, .unset, .unset, .unset, .unset, .unset, .unset, .unset, .unset, .unset, .unset, .unset, .unset, .unset, .unset, .unset, .unset] [(.int p2)])) rfl (hb hby at_8) k) ?_
  show own_Fin p e below G (s₁.setTop (mkF m 10 #[iv p1, iv p2, iv p3, iv p4, iv p5, iv nn, .unset, .unset, .unset, .unset, .unset, .unset, .unset, .unset, .unset, .unset, .unset, .unset, .unset, .unset, .unset, .unset, .unset, .unset] [(.int (2147483647 : Int32)), (.int p2)]))
  refine own_st (fun _ k => XS.iand X0.here hx rfl (hb hby at_10) rfl k) ?_
  show own_Fin p e below G (s₁.setTop (mkF m 11 #[iv p1, iv p2, iv p3, iv p4, iv p5, iv nn, .unset, .unset, .unset, .unset, .unset, .unset, .unset, .unset, .unset, .unset, .unset, .unset, .unset, .unset, .unset, .unset, .unset, .unset] [(.int (p2 &&& (2147483647 : Int32)))]))
  refine own_st (fun _ k => XS.iload X0.here hx rfl (hb hby at_11) rfl  k) ?_
  show own_Fin p e below G (s₁.setTop (mkF m 13 #[iv p1, iv p2, iv p3, iv p4, iv p5, iv nn, .unset, .unset, .unset, .unset, .unset, .unset, .unset, .unset, .unset, .unset, .unset, .unset, .unset, .unset, .unset, .unset, .unset, .unset] [(.int nn), (.int (p2 &&& (2147483647 : Int32)))]))
  refine own_st (fun _ k => iremM (g := (mkF m 13 #[iv p1, iv p2, iv p3, iv p4, iv p5, iv nn, .unset, .unset, .unset, .unset, .unset, .unset, .unset, .unset, .unset, .unset, .unset, .unset, .unset, .unset, .unset, .unset, .unset, .unset] [(.int nn), (.int (p2 &&& (2147483647 : Int32)))])) X0 hx rfl (hb hby at_13) rfl nz k) ?_
  show own_Fin p e below G (s₁.setTop (mkF m 14 #[iv p1, iv p2, iv p3, iv p4, iv p5, iv nn, .unset, .unset, .unset, .unset, .unset, .unset, .unset, .unset, .unset, .unset, .unset, .unset, .unset, .unset, .unset, .unset, .unset, .unset] [(.int ((p2 &&& (2147483647 : Int32)) % nn))]))
  have rnd := own_m p2 hn4
  generalize e_nd : ((p2 &&& (2147483647 : Int32)) % nn) = nd at *
  show own_Fin p e below G (s₁.setTop (mkF m 14 #[iv p1, iv p2, iv p3, iv p4, iv p5, iv nn, .unset, .unset, .unset, .unset, .unset, .unset, .unset, .unset, .unset, .unset, .unset, .unset, .unset, .unset, .unset, .unset, .unset, .unset] [(.int nd)]))
  refine own_st (fun _ k => XS.istore X0.here hx rfl (hb hby at_14) rfl (l' := #[iv p1, iv p2, iv p3, iv p4, iv p5, iv nn, iv nd, .unset, .unset, .unset, .unset, .unset, .unset, .unset, .unset, .unset, .unset, .unset, .unset, .unset, .unset, .unset, .unset, .unset]) rfl k) ?_
  show own_Fin p e below G (s₁.setTop (mkF m 16 #[iv p1, iv p2, iv p3, iv p4, iv p5, iv nn, iv nd, .unset, .unset, .unset, .unset, .unset, .unset, .unset, .unset, .unset, .unset, .unset, .unset, .unset, .unset, .unset, .unset, .unset] []))
  refine own_st (fun _ k => XS.iload X0.here hx rfl (hb hby at_16) rfl  k) ?_
  show own_Fin p e below G (s₁.setTop (mkF m 18 #[iv p1, iv p2, iv p3, iv p4, iv p5, iv nn, iv nd, .unset, .unset, .unset, .unset, .unset, .unset, .unset, .unset, .unset, .unset, .unset, .unset, .unset, .unset, .unset, .unset, .unset] [(.int nd)]))
  refine own_st (fun _ k => XS.iconst X0.here hx rfl (hb hby at_18) k) ?_
  show own_Fin p e below G (s₁.setTop (mkF m 19 #[iv p1, iv p2, iv p3, iv p4, iv p5, iv nn, iv nd, .unset, .unset, .unset, .unset, .unset, .unset, .unset, .unset, .unset, .unset, .unset, .unset, .unset, .unset, .unset, .unset, .unset] [(.int (1 : Int32)), (.int nd)]))
  refine own_st (fun _ k => XS.iadd X0.here hx rfl (hb hby at_19) rfl k) ?_
  show own_Fin p e below G (s₁.setTop (mkF m 20 #[iv p1, iv p2, iv p3, iv p4, iv p5, iv nn, iv nd, .unset, .unset, .unset, .unset, .unset, .unset, .unset, .unset, .unset, .unset, .unset, .unset, .unset, .unset, .unset, .unset, .unset] [(.int (nd + (1 : Int32)))]))
  refine own_st (fun _ k => XS.iload X0.here hx rfl (hb hby at_20) rfl  k) ?_
  show own_Fin p e below G (s₁.setTop (mkF m 22 #[iv p1, iv p2, iv p3, iv p4, iv p5, iv nn, iv nd, .unset, .unset, .unset, .unset, .unset, .unset, .unset, .unset, .unset, .unset, .unset, .unset, .unset, .unset, .unset, .unset, .unset] [(.int nn), (.int (nd + (1 : Int32)))]))
  refine own_st (fun _ k => iremM (g := (mkF m 22 #[iv p1, iv p2, iv p3, iv p4, iv p5, iv nn, iv nd, .unset, .unset, .unset, .unset, .unset, .unset, .unset, .unset, .unset, .unset, .unset, .unset, .unset, .unset, .unset, .unset, .unset] [(.int nn), (.int (nd + (1 : Int32)))])) X0 hx rfl (hb hby at_22) rfl nz k) ?_
  show own_Fin p e below G (s₁.setTop (mkF m 23 #[iv p1, iv p2, iv p3, iv p4, iv p5, iv nn, iv nd, .unset, .unset, .unset, .unset, .unset, .unset, .unset, .unset, .unset, .unset, .unset, .unset, .unset, .unset, .unset, .unset, .unset] [(.int ((nd + (1 : Int32)) % nn))]))
  skip
  generalize e_oth : ((nd + (1 : Int32)) % nn) = oth at *
  show own_Fin p e below G (s₁.setTop (mkF m 23 #[iv p1, iv p2, iv p3, iv p4, iv p5, iv nn, iv nd, .unset, .unset, .unset, .unset, .unset, .unset, .unset, .unset, .unset, .unset, .unset, .unset, .unset, .unset, .unset, .unset, .unset] [(.int oth)]))
  refine own_st (fun _ k => XS.istore X0.here hx rfl (hb hby at_23) rfl (l' := #[iv p1, iv p2, iv p3, iv p4, iv p5, iv nn, iv nd, iv oth, .unset, .unset, .unset, .unset, .unset, .unset, .unset, .unset, .unset, .unset, .unset, .unset, .unset, .unset, .unset, .unset]) rfl k) ?_
  show own_Fin p e below G (s₁.setTop (mkF m 25 #[iv p1, iv p2, iv p3, iv p4, iv p5, iv nn, iv nd, iv oth, .unset, .unset, .unset, .unset, .unset, .unset, .unset, .unset, .unset, .unset, .unset, .unset, .unset, .unset, .unset, .unset] []))
  refine own_st (fun _ k => XS.iload X0.here hx rfl (hb hby at_25) rfl  k) ?_
  show own_Fin p e below G (s₁.setTop (mkF m 27 #[iv p1, iv p2, iv p3, iv p4, iv p5, iv nn, iv nd, iv oth, .unset, .unset, .unset, .unset, .unset, .unset, .unset, .unset, .unset, .unset, .unset, .unset, .unset, .unset, .unset, .unset] [(.int nd)]))
  refine own_st (fun _ k => XS.iconst X0.here hx rfl (hb hby at_27) k) ?_
  show own_Fin p e below G (s₁.setTop (mkF m 28 #[iv p1, iv p2, iv p3, iv p4, iv p5, iv nn, iv nd, iv oth, .unset, .unset, .unset, .unset, .unset, .unset, .unset, .unset, .unset, .unset, .unset, .unset, .unset, .unset, .unset, .unset] [(.int (2 : Int32)), (.int nd)]))
  refine own_st (fun _ k => XS.iadd X0.here hx rfl (hb hby at_28) rfl k) ?_
  show own_Fin p e below G (s₁.setTop (mkF m 29 #[iv p1, iv p2, iv p3, iv p4, iv p5, iv nn, iv nd, iv oth, .unset, .unset, .unset, .unset, .unset, .unset, .unset, .unset, .unset, .unset, .unset, .unset, .unset, .unset, .unset, .unset] [(.int (nd + (2 : Int32)))]))
  refine own_st (fun _ k => XS.iload X0.here hx rfl (hb hby at_29) rfl  k) ?_
  show own_Fin p e below G (s₁.setTop (mkF m 31 #[iv p1, iv p2, iv p3, iv p4, iv p5, iv nn, iv nd, iv oth, .unset, .unset, .unset, .unset, .unset, .unset, .unset, .unset, .unset, .unset, .unset, .unset, .unset, .unset, .unset, .unset] [(.int nn), (.int (nd + (2 : Int32)))]))
  refine own_st (fun _ k => iremM (g := (mkF m 31 #[iv p1, iv p2, iv p3, iv p4, iv p5, iv nn, iv nd, iv oth, .unset, .unset, .unset, .unset, .unset, .unset, .unset, .unset, .unset, .unset, .unset, .unset, .unset, .unset, .unset, .unset] [(.int nn), (.int (nd + (2 : Int32)))])) X0 hx rfl (hb hby at_31) rfl nz k) ?_
  show own_Fin p e below G (s₁.setTop (mkF m 32 #[iv p1, iv p2, iv p3, iv p4, iv p5, iv nn, iv nd, iv oth, .unset, .unset, .unset, .unset, .unset, .unset, .unset, .unset, .unset, .unset, .unset, .unset, .unset, .unset, .unset, .unset] [(.int ((nd + (2 : Int32)) % nn))]))
  have rix := own_ix hn4 rnd
  rw [e_oth] at rix
  generalize e_thr : ((nd + (2 : Int32)) % nn) = thr at *
  show own_Fin p e below G (s₁.setTop (mkF m 32 #[iv p1, iv p2, iv p3, iv p4, iv p5, iv nn, iv nd, iv oth, .unset, .unset, .unset, .unset, .unset, .unset, .unset, .unset, .unset, .unset, .unset, .unset, .unset, .unset, .unset, .unset] [(.int thr)]))
  obtain ⟨in_nd, in_oth, in_thr, ne2, ne3⟩ := rix
  refine own_st (fun _ k => XS.istore X0.here hx rfl (hb hby at_32) rfl (l' := #[iv p1, iv p2, iv p3, iv p4, iv p5, iv nn, iv nd, iv oth, iv thr, .unset, .unset, .unset, .unset, .unset, .unset, .unset, .unset, .unset, .unset, .unset, .unset, .unset, .unset, .unset]) rfl k) ?_
  show own_Fin p e below G (s₁.setTop (mkF m 34 #[iv p1, iv p2, iv p3, iv p4, iv p5, iv nn, iv nd, iv oth, iv thr, .unset, .unset, .unset, .unset, .unset, .unset, .unset, .unset, .unset, .unset, .unset, .unset, .unset, .unset, .unset] []))
  refine own_st (fun _ k => XS.iloadN X0.here hx rfl (hb hby at_34) rfl  k) ?_
  show own_Fin p e below G (s₁.setTop (mkF m 35 #[iv p1, iv p2, iv p3, iv p4, iv p5, iv nn, iv nd, iv oth, iv thr, .unset, .unset, .unset, .unset, .unset, .unset, .unset, .unset, .unset, .unset, .unset, .unset, .unset, .unset, .unset] [(.int p1)]))
  refine own_st (fun _ k => XS.iconst X0.here hx rfl (hb hby at_35) k) ?_
  show own_Fin p e below G (s₁.setTop (mkF m 36 #[iv p1, iv p2, iv p3, iv p4, iv p5, iv nn, iv nd, iv oth, iv thr, .unset, .unset, .unset, .unset, .unset, .unset, .unset, .unset, .unset, .unset, .unset, .unset, .unset, .unset, .unset] [(.int (2 : Int32)), (.int p1)]))
  refine own_st (fun _ k => XS.iushr X0.here hx rfl (hb hby at_36) rfl k) ?_
  show own_Fin p e below G (s₁.setTop (mkF m 37 #[iv p1, iv p2, iv p3, iv p4, iv p5, iv nn, iv nd, iv oth, iv thr, .unset, .unset, .unset, .unset, .unset, .unset, .unset, .unset, .unset, .unset, .unset, .unset, .unset, .unset, .unset] [(.int ((p1.toUInt32 >>> ((2 : Int32) &&& 31).toUInt32).toInt32))]))
  obtain ⟨_, _, ⟨T948, L948, k948, n948⟩, -, X948, ⟨Lc948, hQ948, l948, y948, z948⟩, st948⟩ := Jvm.LawKit.callS X0 hx (y := own_y12) hown (mvT hZ (own_w hw 1 rfl)) (mvT hZ (own_w hw 2 rfl)) (mvT hZ (own_w hw 3 rfl)) (mvT hZ (own_w hw 4 rfl)) (by decide) (backOf (W := 0) (rm_si l Z a0 hw [] ((p1.toUInt32 >>> ((2 : Int32) &&& 31).toUInt32).toInt32) a_FIRST a_FORWARD a_LAST a_BACKWARD h0 n0 (Nat.le_trans Z0 K0.1) Sa_FIRST Ea_FIRST Sa_FORWARD Ea_FORWARD Sa_LAST Ea_LAST Sa_BACKWARD Ea_BACKWARD) hZ (own_w hw 4 rfl) (own_w hw 3 rfl) (by decide) (by decide)) (g := (mkF m 37 #[iv p1, iv p2, iv p3, iv p4, iv p5, iv nn, iv nd, iv oth, iv thr, .unset, .unset, .unset, .unset, .unset, .unset, .unset, .unset, .unset, .unset, .unset, .unset, .unset, .unset, .unset] [(.int ((p1.toUInt32 >>> ((2 : Int32) &&& 31).toUInt32).toInt32))])) rfl (by rw [hml]; rfl) (argsL := [(.int ((p1.toUInt32 >>> ((2 : Int32) &&& 31).toUInt32).toInt32))]) (rest := []) (lenOf pd__I_Lcom_example_urania_urania_layered_FlowSide__422 rfl) rfl (by show 2 * 0 + _ ≤ _; exact Nat.le_of_eq rfl) (hb hby at_37) (fun _ _ => ⟨rfl, e0, (by decide : 0 + 0 ≤ _), (by decide : 0 + 0 ≤ _)⟩)
  clear X0 e0
  dsimp only [Pt.U, Pt.locs, Pt.cells, Pt.slots] at X948 l948 y948 z948 st948 hQ948
  subst l948 y948 z948
  obtain ⟨sd948, hv948, N948q, e948, E948⟩ := hQ948
  subst hv948
  have N948 := Fr.app N0 N948q
  clear N0 N948q
  refine own_st st948 ?_
  clear st948
  show own_Fin p e below G (T948.setTop (mkF m 40 #[iv p1, iv p2, iv p3, iv p4, iv p5, iv nn, iv nd, iv oth, iv thr, .unset, .unset, .unset, .unset, .unset, .unset, .unset, .unset, .unset, .unset, .unset, .unset, .unset, .unset, .unset] [(.ref sd948)]))
  refine own_st (fun _ k => XS.astore X948.here hx rfl (hb hby at_40) rfl rfl (l' := #[iv p1, iv p2, iv p3, iv p4, iv p5, iv nn, iv nd, iv oth, iv thr, rv sd948, .unset, .unset, .unset, .unset, .unset, .unset, .unset, .unset, .unset, .unset, .unset, .unset, .unset, .unset]) rfl k) ?_
  show own_Fin p e below G (T948.setTop (mkF m 42 #[iv p1, iv p2, iv p3, iv p4, iv p5, iv nn, iv nd, iv oth, iv thr, rv sd948, .unset, .unset, .unset, .unset, .unset, .unset, .unset, .unset, .unset, .unset, .unset, .unset, .unset, .unset] []))
  refine own_st (fun _ k => XS.iloadN X948.here hx rfl (hb hby at_42) rfl  k) ?_
  show own_Fin p e below G (T948.setTop (mkF m 43 #[iv p1, iv p2, iv p3, iv p4, iv p5, iv nn, iv nd, iv oth, iv thr, rv sd948, .unset, .unset, .unset, .unset, .unset, .unset, .unset, .unset, .unset, .unset, .unset, .unset, .unset, .unset] [(.int p1)]))
  refine own_st (fun _ k => XS.iconst X948.here hx rfl (hb hby at_43) k) ?_
  show own_Fin p e below G (T948.setTop (mkF m 44 #[iv p1, iv p2, iv p3, iv p4, iv p5, iv nn, iv nd, iv oth, iv thr, rv sd948, .unset, .unset, .unset, .unset, .unset, .unset, .unset, .unset, .unset, .unset, .unset, .unset, .unset, .unset] [(.int (4 : Int32)), (.int p1)]))
  refine own_st (fun _ k => XS.iushr X948.here hx rfl (hb hby at_44) rfl k) ?_
  show own_Fin p e below G (T948.setTop (mkF m 45 #[iv p1, iv p2, iv p3, iv p4, iv p5, iv nn, iv nd, iv oth, iv thr, rv sd948, .unset, .unset, .unset, .unset, .unset, .unset, .unset, .unset, .unset, .unset, .unset, .unset, .unset, .unset] [(.int ((p1.toUInt32 >>> ((4 : Int32) &&& 31).toUInt32).toInt32))]))
  obtain ⟨_, _, ⟨T949, L949, k949, n949⟩, -, X949, ⟨Lc949, hQ949, l949, y949, z949⟩, st949⟩ := Jvm.LawKit.callS X948 hx (y := own_y12) hown (mvT hZ (own_w hw 1 rfl)) (mvT hZ (own_w hw 2 rfl)) (mvT hZ (own_w hw 3 rfl)) (mvT hZ (own_w hw 4 rfl)) (by decide) (backOf (W := 0) (rm_si l Z a0 hw [] ((p1.toUInt32 >>> ((4 : Int32) &&& 31).toUInt32).toInt32) a_FIRST a_FORWARD a_LAST a_BACKWARD h0 n0 (Nat.le_trans Z0 K0.1) Sa_FIRST Ea_FIRST Sa_FORWARD Ea_FORWARD Sa_LAST Ea_LAST Sa_BACKWARD Ea_BACKWARD) hZ (own_w hw 4 rfl) (own_w hw 3 rfl) (by decide) (by decide)) (g := (mkF m 45 #[iv p1, iv p2, iv p3, iv p4, iv p5, iv nn, iv nd, iv oth, iv thr, rv sd948, .unset, .unset, .unset, .unset, .unset, .unset, .unset, .unset, .unset, .unset, .unset, .unset, .unset, .unset] [(.int ((p1.toUInt32 >>> ((4 : Int32) &&& 31).toUInt32).toInt32))])) rfl (by rw [hml]; rfl) (argsL := [(.int ((p1.toUInt32 >>> ((4 : Int32) &&& 31).toUInt32).toInt32))]) (rest := []) (lenOf pd__I_Lcom_example_urania_urania_layered_FlowSide__422 rfl) rfl (by show 2 * 0 + _ ≤ _; exact Nat.le_of_eq rfl) (hb hby at_45) (fun _ _ => ⟨rfl, e948, (by decide : 0 + 0 ≤ _), (by decide : 0 + 0 ≤ _)⟩)
  clear X948 e948
  dsimp only [Pt.U, Pt.locs, Pt.cells, Pt.slots] at X949 l949 y949 z949 st949 hQ949
  subst l949 y949 z949
  obtain ⟨sd949, hv949, N949q, e949, E949⟩ := hQ949
  subst hv949
  have N949 := Fr.app N948 N949q
  clear N948 N949q
  refine own_st st949 ?_
  clear st949
  show own_Fin p e below G (T949.setTop (mkF m 48 #[iv p1, iv p2, iv p3, iv p4, iv p5, iv nn, iv nd, iv oth, iv thr, rv sd948, .unset, .unset, .unset, .unset, .unset, .unset, .unset, .unset, .unset, .unset, .unset, .unset, .unset, .unset] [(.ref sd949)]))
  refine own_st (fun _ k => XS.astore X949.here hx rfl (hb hby at_48) rfl rfl (l' := #[iv p1, iv p2, iv p3, iv p4, iv p5, iv nn, iv nd, iv oth, iv thr, rv sd948, rv sd949, .unset, .unset, .unset, .unset, .unset, .unset, .unset, .unset, .unset, .unset, .unset, .unset, .unset]) rfl k) ?_
  show own_Fin p e below G (T949.setTop (mkF m 50 #[iv p1, iv p2, iv p3, iv p4, iv p5, iv nn, iv nd, iv oth, iv thr, rv sd948, rv sd949, .unset, .unset, .unset, .unset, .unset, .unset, .unset, .unset, .unset, .unset, .unset, .unset, .unset] []))
  refine own_st (fun _ k => XS.iloadN X949.here hx rfl (hb hby at_50) rfl  k) ?_
  show own_Fin p e below G (T949.setTop (mkF m 51 #[iv p1, iv p2, iv p3, iv p4, iv p5, iv nn, iv nd, iv oth, iv thr, rv sd948, rv sd949, .unset, .unset, .unset, .unset, .unset, .unset, .unset, .unset, .unset, .unset, .unset, .unset, .unset] [(.int p3)]))
  refine own_st (fun _ k => XS.i2dS X949.here hx rfl (hb hby at_51) rfl rfl k) ?_
  show own_Fin p e below G (T949.setTop (mkF m 52 #[iv p1, iv p2, iv p3, iv p4, iv p5, iv nn, iv nd, iv oth, iv thr, rv sd948, rv sd949, .unset, .unset, .unset, .unset, .unset, .unset, .unset, .unset, .unset, .unset, .unset, .unset, .unset] [(.double (FP.i2d p3))]))
  refine own_st (fun _ k => XS.dstore X949.here hx rfl (hb hby at_52) rfl (l' := #[iv p1, iv p2, iv p3, iv p4, iv p5, iv nn, iv nd, iv oth, iv thr, rv sd948, rv sd949, .val (.double (FP.i2d p3)), .second, .unset, .unset, .unset, .unset, .unset, .unset, .unset, .unset, .unset, .unset, .unset]) rfl k) ?_
  show own_Fin p e below G (T949.setTop (mkF m 54 #[iv p1, iv p2, iv p3, iv p4, iv p5, iv nn, iv nd, iv oth, iv thr, rv sd948, rv sd949, .val (.double (FP.i2d p3)), .second, .unset, .unset, .unset, .unset, .unset, .unset, .unset, .unset, .unset, .unset, .unset] []))
  refine own_st (fun _ k => XS.iloadN X949.here hx rfl (hb hby at_54) rfl  k) ?_
  show own_Fin p e below G (T949.setTop (mkF m 55 #[iv p1, iv p2, iv p3, iv p4, iv p5, iv nn, iv nd, iv oth, iv thr, rv sd948, rv sd949, .val (.double (FP.i2d p3)), .second, .unset, .unset, .unset, .unset, .unset, .unset, .unset, .unset, .unset, .unset, .unset] [(.int p4)]))
  refine own_st (fun _ k => XS.i2dS X949.here hx rfl (hb hby at_55) rfl rfl k) ?_
  show own_Fin p e below G (T949.setTop (mkF m 56 #[iv p1, iv p2, iv p3, iv p4, iv p5, iv nn, iv nd, iv oth, iv thr, rv sd948, rv sd949, .val (.double (FP.i2d p3)), .second, .unset, .unset, .unset, .unset, .unset, .unset, .unset, .unset, .unset, .unset, .unset] [(.double (FP.i2d p4))]))
  refine own_st (fun _ k => XS.dstore X949.here hx rfl (hb hby at_56) rfl (l' := #[iv p1, iv p2, iv p3, iv p4, iv p5, iv nn, iv nd, iv oth, iv thr, rv sd948, rv sd949, .val (.double (FP.i2d p3)), .second, .val (.double (FP.i2d p4)), .second, .unset, .unset, .unset, .unset, .unset, .unset, .unset, .unset, .unset]) rfl k) ?_
  show own_Fin p e below G (T949.setTop (mkF m 58 #[iv p1, iv p2, iv p3, iv p4, iv p5, iv nn, iv nd, iv oth, iv thr, rv sd948, rv sd949, .val (.double (FP.i2d p3)), .second, .val (.double (FP.i2d p4)), .second, .unset, .unset, .unset, .unset, .unset, .unset, .unset, .unset, .unset] []))
  refine own_st (fun _ k => XS.iload X949.here hx rfl (hb hby at_58) rfl  k) ?_
  show own_Fin p e below G (T949.setTop (mkF m 60 #[iv p1, iv p2, iv p3, iv p4, iv p5, iv nn, iv nd, iv oth, iv thr, rv sd948, rv sd949, .val (.double (FP.i2d p3)), .second, .val (.double (FP.i2d p4)), .second, .unset, .unset, .unset, .unset, .unset, .unset, .unset, .unset, .unset] [(.int p5)]))
  refine own_st (fun _ k => XS.i2dS X949.here hx rfl (hb hby at_60) rfl rfl k) ?_
  show own_Fin p e below G (T949.setTop (mkF m 61 #[iv p1, iv p2, iv p3, iv p4, iv p5, iv nn, iv nd, iv oth, iv thr, rv sd948, rv sd949, .val (.double (FP.i2d p3)), .second, .val (.double (FP.i2d p4)), .second, .unset, .unset, .unset, .unset, .unset, .unset, .unset, .unset, .unset] [(.double (FP.i2d p5))]))
  refine own_st (fun _ k => XS.dstore X949.here hx rfl (hb hby at_61) rfl (l' := #[iv p1, iv p2, iv p3, iv p4, iv p5, iv nn, iv nd, iv oth, iv thr, rv sd948, rv sd949, .val (.double (FP.i2d p3)), .second, .val (.double (FP.i2d p4)), .second, .val (.double (FP.i2d p5)), .second, .unset, .unset, .unset, .unset, .unset, .unset, .unset]) rfl k) ?_
  show own_Fin p e below G (T949.setTop (mkF m 63 #[iv p1, iv p2, iv p3, iv p4, iv p5, iv nn, iv nd, iv oth, iv thr, rv sd948, rv sd949, .val (.double (FP.i2d p3)), .second, .val (.double (FP.i2d p4)), .second, .val (.double (FP.i2d p5)), .second, .unset, .unset, .unset, .unset, .unset, .unset, .unset] []))
  refine own_st (fun _ k => XS.iload X949.here hx rfl (hb hby at_63) rfl  k) ?_
  show own_Fin p e below G (T949.setTop (mkF m 65 #[iv p1, iv p2, iv p3, iv p4, iv p5, iv nn, iv nd, iv oth, iv thr, rv sd948, rv sd949, .val (.double (FP.i2d p3)), .second, .val (.double (FP.i2d p4)), .second, .val (.double (FP.i2d p5)), .second, .unset, .unset, .unset, .unset, .unset, .unset, .unset] [(.int p5)]))
  refine own_st (fun _ k => XS.iconst X949.here hx rfl (hb hby at_65) k) ?_
  show own_Fin p e below G (T949.setTop (mkF m 66 #[iv p1, iv p2, iv p3, iv p4, iv p5, iv nn, iv nd, iv oth, iv thr, rv sd948, rv sd949, .val (.double (FP.i2d p3)), .second, .val (.double (FP.i2d p4)), .second, .val (.double (FP.i2d p5)), .second, .unset, .unset, .unset, .unset, .unset, .unset, .unset] [(.int (1 : Int32)), (.int p5)]))
  refine own_st (fun _ k => XS.iushr X949.here hx rfl (hb hby at_66) rfl k) ?_
  show own_Fin p e below G (T949.setTop (mkF m 67 #[iv p1, iv p2, iv p3, iv p4, iv p5, iv nn, iv nd, iv oth, iv thr, rv sd948, rv sd949, .val (.double (FP.i2d p3)), .second, .val (.double (FP.i2d p4)), .second, .val (.double (FP.i2d p5)), .second, .unset, .unset, .unset, .unset, .unset, .unset, .unset] [(.int ((p5.toUInt32 >>> ((1 : Int32) &&& 31).toUInt32).toInt32))]))
  refine own_st (fun _ k => XS.i2dS X949.here hx rfl (hb hby at_67) rfl rfl k) ?_
  show own_Fin p e below G (T949.setTop (mkF m 68 #[iv p1, iv p2, iv p3, iv p4, iv p5, iv nn, iv nd, iv oth, iv thr, rv sd948, rv sd949, .val (.double (FP.i2d p3)), .second, .val (.double (FP.i2d p4)), .second, .val (.double (FP.i2d p5)), .second, .unset, .unset, .unset, .unset, .unset, .unset, .unset] [(.double (FP.i2d ((p5.toUInt32 >>> ((1 : Int32) &&& 31).toUInt32).toInt32)))]))
  refine own_st (fun _ k => XS.dstore X949.here hx rfl (hb hby at_68) rfl (l' := #[iv p1, iv p2, iv p3, iv p4, iv p5, iv nn, iv nd, iv oth, iv thr, rv sd948, rv sd949, .val (.double (FP.i2d p3)), .second, .val (.double (FP.i2d p4)), .second, .val (.double (FP.i2d p5)), .second, .val (.double (FP.i2d ((p5.toUInt32 >>> ((1 : Int32) &&& 31).toUInt32).toInt32))), .second, .unset, .unset, .unset, .unset, .unset]) rfl k) ?_
  show own_Fin p e below G (T949.setTop (mkF m 70 #[iv p1, iv p2, iv p3, iv p4, iv p5, iv nn, iv nd, iv oth, iv thr, rv sd948, rv sd949, .val (.double (FP.i2d p3)), .second, .val (.double (FP.i2d p4)), .second, .val (.double (FP.i2d p5)), .second, .val (.double (FP.i2d ((p5.toUInt32 >>> ((1 : Int32) &&& 31).toUInt32).toInt32))), .second, .unset, .unset, .unset, .unset, .unset] []))
  obtain ⟨T950, h950, X950, e950, E950, A950, D950, M950, st950⟩ := newO X949 hx hZ hown (own_w hw 8 rfl) (own_w hw 9 rfl) (own_w hw 10 rfl) e949 (g := (mkF m 70 #[iv p1, iv p2, iv p3, iv p4, iv p5, iv nn, iv nd, iv oth, iv thr, rv sd948, rv sd949, .val (.double (FP.i2d p3)), .second, .val (.double (FP.i2d p4)), .second, .val (.double (FP.i2d p5)), .second, .val (.double (FP.i2d ((p5.toUInt32 >>> ((1 : Int32) &&& 31).toUInt32).toInt32))), .second, .unset, .unset, .unset, .unset, .unset] [])) rfl (hb hby at_70) (by decide) (by decide)
  clear X949 e949 M950
  obtain ⟨b950, g950⟩ : ∃ z, z = h0.size := ⟨_, rfl⟩
  rw [← g950] at A950 D950 st950
  have ne_a_FREE_b950 : a_FREE ≠ b950 := Nat.ne_of_lt (Nat.lt_of_lt_of_le Ea_FREE.lt (Nat.le_of_eq g950.symm))
  have ne_a_RIGHT_b950 : a_RIGHT ≠ b950 := Nat.ne_of_lt (Nat.lt_of_lt_of_le Ea_RIGHT.lt (Nat.le_of_eq g950.symm))
  have ne_ed_b950 : ed ≠ b950 := Nat.ne_of_lt (Nat.lt_of_lt_of_le Bed.lt (Nat.le_of_eq g950.symm))
  have ne_sd948_b950 : sd948 ≠ b950 := Nat.ne_of_lt (Nat.lt_of_lt_of_le E948.lt (Nat.le_of_eq g950.symm))
  have ne_sd949_b950 : sd949 ≠ b950 := Nat.ne_of_lt (Nat.lt_of_lt_of_le E949.lt (Nat.le_of_eq g950.symm))
  have sz_b950 : h0.size ≤ b950 := Nat.le_trans K0.1 (Nat.le_of_eq g950.symm)
  have g_b950 : n0 ≤ b950 := Nat.le_trans Z0 sz_b950
  have f951_0 := Ea_RIGHT.ext E950
  have f951_1 := Sa_RIGHT.ext E950
  have f951_2 := Ea_FREE.ext E950
  have f951_3 := Sa_FREE.ext E950
  have f951_4 := Sed.ext E950
  have f951_5 := Bed.ext E950
  have f951_6 := E948.ext E950
  clear E948
  have f951_7 := E949.ext E950
  clear E949
  have K952 : Keep h0 h950 [] := K0.ext E950
  clear K0 E950
  have f953 : Fld Z h950 b950 "com/example/urania/urania/layered/Ports" "ofNode" "Ljava/util/List;" .null := D950 (Or.inr (own_w hw 45 rfl)) (ty := (.object "java/util/List")) (by decide)
  have f954 : Fld Z h950 b950 "com/example/urania/urania/layered/Ports" "specs" "Ljava/util/List;" .null := D950 (Or.inr (own_w hw 47 rfl)) (ty := (.object "java/util/List")) (by decide)
  have f955 : Fld Z h950 b950 "com/example/urania/urania/layered/Ports" "direction" "Lcom/example/urania/urania/Direction;" .null := D950 (Or.inr (own_w hw 49 rfl)) (ty := (.object "com/example/urania/urania/Direction")) (by decide)
  have f956 : Fld Z h950 b950 "com/example/urania/urania/layered/Ports" "freedom" "[Lcom/example/urania/urania/layered/Ports$Freedom;" .null := D950 (Or.inr (own_w hw 53 rfl)) (ty := (.array (.object "com/example/urania/urania/layered/Ports$Freedom"))) (by decide)
  have f957 : Fld Z h950 b950 "com/example/urania/urania/layered/Ports" "border" "[Lcom/example/urania/urania/layered/FlowSide;" .null := D950 (Or.inr (own_w hw 100 rfl)) (ty := (.array (.object "com/example/urania/urania/layered/FlowSide"))) (by decide)
  have f958 : Fld Z h950 b950 "com/example/urania/urania/layered/Ports" "borderPort" "[[D" .null := D950 (Or.inr (own_w hw 104 rfl)) (ty := (.array (.array .double))) (by decide)
  have f959 : Fld Z h950 b950 "com/example/urania/urania/layered/Ports" "sourcePort" "[I" .null := D950 (Or.inr (own_w hw 107 rfl)) (ty := (.array .int)) (by decide)
  have f960 : Fld Z h950 b950 "com/example/urania/urania/layered/Ports" "targetPort" "[I" .null := D950 (Or.inr (own_w hw 109 rfl)) (ty := (.array .int)) (by decide)
  have f961 : Fld Z h950 b950 "com/example/urania/urania/layered/Ports" "group" "[I" .null := D950 (Or.inr (own_w hw 111 rfl)) (ty := (.array .int)) (by decide)
  clear D950
  refine own_st st950 ?_
  clear st950
  show own_Fin p e below G (T950.setTop (mkF m 73 #[iv p1, iv p2, iv p3, iv p4, iv p5, iv nn, iv nd, iv oth, iv thr, rv sd948, rv sd949, .val (.double (FP.i2d p3)), .second, .val (.double (FP.i2d p4)), .second, .val (.double (FP.i2d p5)), .second, .val (.double (FP.i2d ((p5.toUInt32 >>> ((1 : Int32) &&& 31).toUInt32).toInt32))), .second, .unset, .unset, .unset, .unset, .unset] [(.ref b950)]))
  refine own_st (fun _ k => XS.dup X950.here hx rfl (hb hby at_73) rfl rfl k) ?_
  show own_Fin p e below G (T950.setTop (mkF m 74 #[iv p1, iv p2, iv p3, iv p4, iv p5, iv nn, iv nd, iv oth, iv thr, rv sd948, rv sd949, .val (.double (FP.i2d p3)), .second, .val (.double (FP.i2d p4)), .second, .val (.double (FP.i2d p5)), .second, .val (.double (FP.i2d ((p5.toUInt32 >>> ((1 : Int32) &&& 31).toUInt32).toInt32))), .second, .unset, .unset, .unset, .unset, .unset] [(.ref b950), (.ref b950)]))
  refine own_st (fun _ k => XS.iload X950.here hx rfl (hb hby at_74) rfl  k) ?_
  show own_Fin p e below G (T950.setTop (mkF m 76 #[iv p1, iv p2, iv p3, iv p4, iv p5, iv nn, iv nd, iv oth, iv thr, rv sd948, rv sd949, .val (.double (FP.i2d p3)), .second, .val (.double (FP.i2d p4)), .second, .val (.double (FP.i2d p5)), .second, .val (.double (FP.i2d ((p5.toUInt32 >>> ((1 : Int32) &&& 31).toUInt32).toInt32))), .second, .unset, .unset, .unset, .unset, .unset] [(.int nn), (.ref b950), (.ref b950)]))
  refine own_st (fun _ k => XS.iconst X950.here hx rfl (hb hby at_76) k) ?_
  show own_Fin p e below G (T950.setTop (mkF m 77 #[iv p1, iv p2, iv p3, iv p4, iv p5, iv nn, iv nd, iv oth, iv thr, rv sd948, rv sd949, .val (.double (FP.i2d p3)), .second, .val (.double (FP.i2d p4)), .second, .val (.double (FP.i2d p5)), .second, .val (.double (FP.i2d ((p5.toUInt32 >>> ((1 : Int32) &&& 31).toUInt32).toInt32))), .second, .unset, .unset, .unset, .unset, .unset] [(.int (0 : Int32)), (.int nn), (.ref b950), (.ref b950)]))
  obtain ⟨T962, X962, e962, st962⟩ := getS2 X950 hx hZ hown (host := "") (Or.inl (own_w hw 11 rfl)) Via.refl e950 f951_1 (g := (mkF m 77 #[iv p1, iv p2, iv p3, iv p4, iv p5, iv nn, iv nd, iv oth, iv thr, rv sd948, rv sd949, .val (.double (FP.i2d p3)), .second, .val (.double (FP.i2d p4)), .second, .val (.double (FP.i2d p5)), .second, .val (.double (FP.i2d ((p5.toUInt32 >>> ((1 : Int32) &&& 31).toUInt32).toInt32))), .second, .unset, .unset, .unset, .unset, .unset] [(.int (0 : Int32)), (.int nn), (.ref b950), (.ref b950)])) rfl (hb hby at_77)
  clear X950 e950
  refine own_st st962 ?_
  clear st962
  show own_Fin p e below G (T962.setTop (mkF m 80 #[iv p1, iv p2, iv p3, iv p4, iv p5, iv nn, iv nd, iv oth, iv thr, rv sd948, rv sd949, .val (.double (FP.i2d p3)), .second, .val (.double (FP.i2d p4)), .second, .val (.double (FP.i2d p5)), .second, .val (.double (FP.i2d ((p5.toUInt32 >>> ((1 : Int32) &&& 31).toUInt32).toInt32))), .second, .unset, .unset, .unset, .unset, .unset] [(.ref a_RIGHT), (.int (0 : Int32)), (.int nn), (.ref b950), (.ref b950)]))
  obtain ⟨_, _, ⟨T963, L963, k963, n963⟩, -, X963, ⟨Lc963, hQ963, l963, y963, z963⟩, st963⟩ := X962.specialBack hx (y := own_y11) rfl hown (mvT hZ (own_w hw 14 rfl)) (mvT hZ (own_w hw 15 rfl)) (mvT hZ (own_w hw 16 rfl)) (by decide) (backOf (W := 1) (rm_po l Z a0 hw [] b950 nn a_RIGHT ed ke a_FREE h950 n0 (Nat.le_trans Z0 K952.1) A950 f953 f954 f955 f956 f957 f958 f959 f960 f961 g_b950 f951_4 f951_5 ne_ed_b950 f951_3 f951_2 hn4) hZ (own_w hw 16 rfl) (own_w hw 10 rfl) (by decide) (by decide)) (g := (mkF m 80 #[iv p1, iv p2, iv p3, iv p4, iv p5, iv nn, iv nd, iv oth, iv thr, rv sd948, rv sd949, .val (.double (FP.i2d p3)), .second, .val (.double (FP.i2d p4)), .second, .val (.double (FP.i2d p5)), .second, .val (.double (FP.i2d ((p5.toUInt32 >>> ((1 : Int32) &&& 31).toUInt32).toInt32))), .second, .unset, .unset, .unset, .unset, .unset] [(.ref a_RIGHT), (.int (0 : Int32)), (.int nn), (.ref b950), (.ref b950)])) rfl (by rw [hml]; rfl) (Steps.refl _) (a := b950) (argsL := [(.int nn), (.int (0 : Int32)), (.ref a_RIGHT)]) (rest := [(.ref b950)]) (lenOf pd__IILcom_example_urania_urania_Direction__V_921 rfl) rfl (by show 2 * 0 + _ ≤ _; exact Nat.le_of_eq rfl) (hb hby at_80) (fun _ _ => ⟨rfl, e962, (by decide : 1 + 13 ≤ _), (by decide : 11 + 40 ≤ _)⟩)
  clear f953 f954 f955 f956 f957 f958 f959 f960 f961 X962 e962
  dsimp only [Pt.U, Pt.locs, Pt.cells, Pt.slots] at X963 l963 y963 z963 st963 hQ963
  subst l963 y963 z963
  obtain ⟨bb, kb, bp, kp, hQ963⟩ := hQ963
  obtain ⟨rfl, N963q, Kc963, zb, zp, nebp, gFb, gFp, gBb, gEb, gOb, gBp, gOp⟩ := hQ963
  have N963 := Fr.app N949 N963q
  clear N949 N963q
  have f964_0 := f951_0.keep Kc963
  have f964_1 := own_Sta_keep f951_1 Kc963 (allS A950.cell all0)
  clear f951_1 f964_1
  have f964_2 := f951_2.keep Kc963
  clear f964_2
  have f964_3 := own_Sta_keep f951_3 Kc963 (allS A950.cell all0)
  clear f951_3 f964_3
  have f964_4 := own_Sta_keep f951_4 Kc963 (allS A950.cell all0)
  clear f951_4 f964_4
  have f964_5 := f951_5.keep Kc963 (ninS ne_ed_b950 nin0)
  clear f964_5
  have f964_6 := f951_6.keep Kc963
  have f964_7 := f951_7.keep Kc963
  have f964_8 := A950.keep Kc963
  have K965 : Keep h0 T963.heap [] := K952.trans Kc963 (allS (Or.inr sz_b950) all0)
  clear Kc963
  have ne_a_FREE_bb : a_FREE ≠ bb := Nat.ne_of_lt (Nat.lt_of_lt_of_le f951_2.lt zb)
  have ne_a_FREE_bp : a_FREE ≠ bp := Nat.ne_of_lt (Nat.lt_of_lt_of_le f951_2.lt zp)
  clear f951_2
  have ne_a_RIGHT_bb : a_RIGHT ≠ bb := Nat.ne_of_lt (Nat.lt_of_lt_of_le f951_0.lt zb)
  have ne_a_RIGHT_bp : a_RIGHT ≠ bp := Nat.ne_of_lt (Nat.lt_of_lt_of_le f951_0.lt zp)
  clear f951_0
  have ne_b950_bb : b950 ≠ bb := Nat.ne_of_lt (Nat.lt_of_lt_of_le A950.lt zb)
  have ne_b950_bp : b950 ≠ bp := Nat.ne_of_lt (Nat.lt_of_lt_of_le A950.lt zp)
  clear A950
  have ne_ed_bb : ed ≠ bb := Nat.ne_of_lt (Nat.lt_of_lt_of_le f951_5.lt zb)
  have ne_ed_bp : ed ≠ bp := Nat.ne_of_lt (Nat.lt_of_lt_of_le f951_5.lt zp)
  clear f951_5
  have ne_sd948_bb : sd948 ≠ bb := Nat.ne_of_lt (Nat.lt_of_lt_of_le f951_6.lt zb)
  have ne_sd948_bp : sd948 ≠ bp := Nat.ne_of_lt (Nat.lt_of_lt_of_le f951_6.lt zp)
  clear f951_6
  have ne_sd949_bb : sd949 ≠ bb := Nat.ne_of_lt (Nat.lt_of_lt_of_le f951_7.lt zb)
  have ne_sd949_bp : sd949 ≠ bp := Nat.ne_of_lt (Nat.lt_of_lt_of_le f951_7.lt zp)
  clear f951_7
  have sz_bb : h0.size ≤ bb := Nat.le_trans K952.1 zb
  have g_bb : n0 ≤ bb := Nat.le_trans Z0 sz_bb
  have sz_bp : h0.size ≤ bp := Nat.le_trans K952.1 zp
  clear K952
  have g_bp : n0 ≤ bp := Nat.le_trans Z0 sz_bp
  refine own_tr st963 ?_
  clear st963
  show own_Fin p e below G (T963.setTop (mkF m 83 #[iv p1, iv p2, iv p3, iv p4, iv p5, iv nn, iv nd, iv oth, iv thr, rv sd948, rv sd949, .val (.double (FP.i2d p3)), .second, .val (.double (FP.i2d p4)), .second, .val (.double (FP.i2d p5)), .second, .val (.double (FP.i2d ((p5.toUInt32 >>> ((1 : Int32) &&& 31).toUInt32).toInt32))), .second, .unset, .unset, .unset, .unset, .unset] [(.ref b950)]))
  refine own_st (fun _ k => XS.astore X963.here hx rfl (hb hby at_83) rfl rfl (l' := #[iv p1, iv p2, iv p3, iv p4, iv p5, iv nn, iv nd, iv oth, iv thr, rv sd948, rv sd949, .val (.double (FP.i2d p3)), .second, .val (.double (FP.i2d p4)), .second, .val (.double (FP.i2d p5)), .second, .val (.double (FP.i2d ((p5.toUInt32 >>> ((1 : Int32) &&& 31).toUInt32).toInt32))), .second, rv b950, .unset, .unset, .unset, .unset]) rfl k) ?_
  show own_Fin p e below G (T963.setTop (mkF m 85 #[iv p1, iv p2, iv p3, iv p4, iv p5, iv nn, iv nd, iv oth, iv thr, rv sd948, rv sd949, .val (.double (FP.i2d p3)), .second, .val (.double (FP.i2d p4)), .second, .val (.double (FP.i2d p5)), .second, .val (.double (FP.i2d ((p5.toUInt32 >>> ((1 : Int32) &&& 31).toUInt32).toInt32))), .second, rv b950, .unset, .unset, .unset, .unset] []))
  refine own_st (fun _ k => XS.aload X963.here hx rfl (hb hby at_85) rfl rfl k) ?_
  show own_Fin p e below G (T963.setTop (mkF m 87 #[iv p1, iv p2, iv p3, iv p4, iv p5, iv nn, iv nd, iv oth, iv thr, rv sd948, rv sd949, .val (.double (FP.i2d p3)), .second, .val (.double (FP.i2d p4)), .second, .val (.double (FP.i2d p5)), .second, .val (.double (FP.i2d ((p5.toUInt32 >>> ((1 : Int32) &&& 31).toUInt32).toInt32))), .second, rv b950, .unset, .unset, .unset, .unset] [(.ref b950)]))
  refine own_st (fun _ k => XS.iload X963.here hx rfl (hb hby at_87) rfl  k) ?_
  show own_Fin p e below G (T963.setTop (mkF m 89 #[iv p1, iv p2, iv p3, iv p4, iv p5, iv nn, iv nd, iv oth, iv thr, rv sd948, rv sd949, .val (.double (FP.i2d p3)), .second, .val (.double (FP.i2d p4)), .second, .val (.double (FP.i2d p5)), .second, .val (.double (FP.i2d ((p5.toUInt32 >>> ((1 : Int32) &&& 31).toUInt32).toInt32))), .second, rv b950, .unset, .unset, .unset, .unset] [(.int oth), (.ref b950)]))
  refine own_st (fun _ k => XS.aload X963.here hx rfl (hb hby at_89) rfl rfl k) ?_
  show own_Fin p e below G (T963.setTop (mkF m 91 #[iv p1, iv p2, iv p3, iv p4, iv p5, iv nn, iv nd, iv oth, iv thr, rv sd948, rv sd949, .val (.double (FP.i2d p3)), .second, .val (.double (FP.i2d p4)), .second, .val (.double (FP.i2d p5)), .second, .val (.double (FP.i2d ((p5.toUInt32 >>> ((1 : Int32) &&& 31).toUInt32).toInt32))), .second, rv b950, .unset, .unset, .unset, .unset] [(.ref sd949), (.int oth), (.ref b950)]))
  refine own_st (fun _ k => XS.dload X963.here hx rfl (hb hby at_91) rfl  k) ?_
  show own_Fin p e below G (T963.setTop (mkF m 93 #[iv p1, iv p2, iv p3, iv p4, iv p5, iv nn, iv nd, iv oth, iv thr, rv sd948, rv sd949, .val (.double (FP.i2d p3)), .second, .val (.double (FP.i2d p4)), .second, .val (.double (FP.i2d p5)), .second, .val (.double (FP.i2d ((p5.toUInt32 >>> ((1 : Int32) &&& 31).toUInt32).toInt32))), .second, rv b950, .unset, .unset, .unset, .unset] [(.double (FP.i2d p5)), (.ref sd949), (.int oth), (.ref b950)]))
  refine own_st (fun _ k => XS.dload X963.here hx rfl (hb hby at_93) rfl  k) ?_
  show own_Fin p e below G (T963.setTop (mkF m 95 #[iv p1, iv p2, iv p3, iv p4, iv p5, iv nn, iv nd, iv oth, iv thr, rv sd948, rv sd949, .val (.double (FP.i2d p3)), .second, .val (.double (FP.i2d p4)), .second, .val (.double (FP.i2d p5)), .second, .val (.double (FP.i2d ((p5.toUInt32 >>> ((1 : Int32) &&& 31).toUInt32).toInt32))), .second, rv b950, .unset, .unset, .unset, .unset] [(.double (FP.i2d ((p5.toUInt32 >>> ((1 : Int32) &&& 31).toUInt32).toInt32))), (.double (FP.i2d p5)), (.ref sd949), (.int oth), (.ref b950)]))
  obtain ⟨cq966, kq966, q966a, q966b, q966c⟩ := isOf hZ rfl f964_8
  clear q966b
  obtain ⟨_, _, ⟨T966, L966, k966, n966⟩, -, X966, ⟨Lc966, hQ966, l966, y966, z966⟩, st966⟩ := X963.virtualBack hx (y := own_y13) (z := own_y13) hown (mvT hZ (own_w hw 115 rfl)) (mvT hZ (own_w hw 116 rfl)) (notFace_of_selects (args := #[]) (mvT hZ (own_w hw 118 rfl))) (mvT hZ (own_w hw 118 rfl)) (mvT hZ (own_w hw 117 rfl)) (by decide) (backOf (W := 0) (rm_sb l Z a0 hw [] b950 oth sd949 (FP.i2d p5) (FP.i2d ((p5.toUInt32 >>> ((1 : Int32) &&& 31).toUInt32).toInt32)) bb kb bp kp (List.replicate nn.toNatClampNeg .null) (List.replicate nn.toNatClampNeg .null) nn.toNatClampNeg T963.heap n0 (Nat.le_trans Z0 K965.1) gFb gFp gBb gBp gOb gOp f964_7 nebp ne_b950_bb ne_b950_bp g_bb g_bp (by simp) (by simp) in_oth) hZ (own_w hw 119 rfl) (own_w hw 10 rfl) (by decide) (by decide)) q966a q966c (g := (mkF m 95 #[iv p1, iv p2, iv p3, iv p4, iv p5, iv nn, iv nd, iv oth, iv thr, rv sd948, rv sd949, .val (.double (FP.i2d p3)), .second, .val (.double (FP.i2d p4)), .second, .val (.double (FP.i2d p5)), .second, .val (.double (FP.i2d ((p5.toUInt32 >>> ((1 : Int32) &&& 31).toUInt32).toInt32))), .second, rv b950, .unset, .unset, .unset, .unset] [(.double (FP.i2d ((p5.toUInt32 >>> ((1 : Int32) &&& 31).toUInt32).toInt32))), (.double (FP.i2d p5)), (.ref sd949), (.int oth), (.ref b950)])) rfl (by rw [hml]; rfl) (Steps.refl _) (argsL := [(.int oth), (.ref sd949), (.double (FP.i2d p5)), (.double (FP.i2d ((p5.toUInt32 >>> ((1 : Int32) &&& 31).toUInt32).toInt32)))]) (rest := []) (lenOf pd__ILcom_example_urania_urania_layered_FlowSide_DD_V_644 rfl) rfl (by show 2 * 0 + _ ≤ _; exact Nat.le_of_eq rfl) (hb hby at_95) (fun _ _ => ⟨rfl, rfl, (by decide : 14 + 1 ≤ _), (by decide : 51 + 2 ≤ _)⟩)
  clear X963 q966a q966c
  dsimp only [Pt.U, Pt.locs, Pt.cells, Pt.slots] at X966 l966 y966 z966 st966 hQ966
  subst l966 y966 z966
  obtain ⟨dx966, hQ966⟩ := hQ966
  obtain ⟨rfl, N966q, Kc966, zx966, gBb966, gBp966, gA966⟩ := hQ966
  have N966 := Fr.app N963 N966q
  clear N963 N966q
  have f967_0 := f964_0.keep Kc966
  have f967_1 := f964_6.keep Kc966
  have f967_2 := f964_7.keep Kc966
  have f967_3 := f964_8.keep Kc966
  have f967_4 := gFb.keep Kc966 (ninS ne_b950_bb (ninS ne_b950_bp nin0))
  have f967_5 := gFp.keep Kc966 (ninS ne_b950_bb (ninS ne_b950_bp nin0))
  have f967_7 := gEb.keep Kc966
  have K968 : Keep h0 T966.heap [] := K965.trans Kc966 (allS (Or.inr sz_bb) (allS (Or.inr sz_bp) all0))
  clear K965 Kc966
  have ne_a_RIGHT_dx966 : a_RIGHT ≠ dx966 := Nat.ne_of_lt (Nat.lt_of_lt_of_le f964_0.lt zx966)
  clear f964_0
  have ne_b950_dx966 : b950 ≠ dx966 := Nat.ne_of_lt (Nat.lt_of_lt_of_le f964_8.lt zx966)
  clear f964_8
  have ne_bb_dx966 : bb ≠ dx966 := Nat.ne_of_lt (Nat.lt_of_lt_of_le gBb.lt zx966)
  have ne_bp_dx966 : bp ≠ dx966 := Nat.ne_of_lt (Nat.lt_of_lt_of_le gBp.lt zx966)
  have ne_sd948_dx966 : sd948 ≠ dx966 := Nat.ne_of_lt (Nat.lt_of_lt_of_le f964_6.lt zx966)
  clear f964_6
  have ne_sd949_dx966 : sd949 ≠ dx966 := Nat.ne_of_lt (Nat.lt_of_lt_of_le f964_7.lt zx966)
  clear f964_7
  refine own_tr st966 ?_
  clear st966
  show own_Fin p e below G (T966.setTop (mkF m 98 #[iv p1, iv p2, iv p3, iv p4, iv p5, iv nn, iv nd, iv oth, iv thr, rv sd948, rv sd949, .val (.double (FP.i2d p3)), .second, .val (.double (FP.i2d p4)), .second, .val (.double (FP.i2d p5)), .second, .val (.double (FP.i2d ((p5.toUInt32 >>> ((1 : Int32) &&& 31).toUInt32).toInt32))), .second, rv b950, .unset, .unset, .unset, .unset] []))
  refine own_st (fun _ k => XS.aload X966.here hx rfl (hb hby at_98) rfl rfl k) ?_
  show own_Fin p e below G (T966.setTop (mkF m 100 #[iv p1, iv p2, iv p3, iv p4, iv p5, iv nn, iv nd, iv oth, iv thr, rv sd948, rv sd949, .val (.double (FP.i2d p3)), .second, .val (.double (FP.i2d p4)), .second, .val (.double (FP.i2d p5)), .second, .val (.double (FP.i2d ((p5.toUInt32 >>> ((1 : Int32) &&& 31).toUInt32).toInt32))), .second, rv b950, .unset, .unset, .unset, .unset] [(.ref b950)]))
  refine own_st (fun _ k => XS.iload X966.here hx rfl (hb hby at_100) rfl  k) ?_
  show own_Fin p e below G (T966.setTop (mkF m 102 #[iv p1, iv p2, iv p3, iv p4, iv p5, iv nn, iv nd, iv oth, iv thr, rv sd948, rv sd949, .val (.double (FP.i2d p3)), .second, .val (.double (FP.i2d p4)), .second, .val (.double (FP.i2d p5)), .second, .val (.double (FP.i2d ((p5.toUInt32 >>> ((1 : Int32) &&& 31).toUInt32).toInt32))), .second, rv b950, .unset, .unset, .unset, .unset] [(.int nd), (.ref b950)]))
  refine own_st (fun _ k => XS.aload X966.here hx rfl (hb hby at_102) rfl rfl k) ?_
  show own_Fin p e below G (T966.setTop (mkF m 104 #[iv p1, iv p2, iv p3, iv p4, iv p5, iv nn, iv nd, iv oth, iv thr, rv sd948, rv sd949, .val (.double (FP.i2d p3)), .second, .val (.double (FP.i2d p4)), .second, .val (.double (FP.i2d p5)), .second, .val (.double (FP.i2d ((p5.toUInt32 >>> ((1 : Int32) &&& 31).toUInt32).toInt32))), .second, rv b950, .unset, .unset, .unset, .unset] [(.ref sd948), (.int nd), (.ref b950)]))
  refine own_st (fun _ k => XS.dload X966.here hx rfl (hb hby at_104) rfl  k) ?_
  show own_Fin p e below G (T966.setTop (mkF m 106 #[iv p1, iv p2, iv p3, iv p4, iv p5, iv nn, iv nd, iv oth, iv thr, rv sd948, rv sd949, .val (.double (FP.i2d p3)), .second, .val (.double (FP.i2d p4)), .second, .val (.double (FP.i2d p5)), .second, .val (.double (FP.i2d ((p5.toUInt32 >>> ((1 : Int32) &&& 31).toUInt32).toInt32))), .second, rv b950, .unset, .unset, .unset, .unset] [(.double (FP.i2d p3)), (.ref sd948), (.int nd), (.ref b950)]))
  refine own_st (fun _ k => XS.dload X966.here hx rfl (hb hby at_106) rfl  k) ?_
  show own_Fin p e below G (T966.setTop (mkF m 108 #[iv p1, iv p2, iv p3, iv p4, iv p5, iv nn, iv nd, iv oth, iv thr, rv sd948, rv sd949, .val (.double (FP.i2d p3)), .second, .val (.double (FP.i2d p4)), .second, .val (.double (FP.i2d p5)), .second, .val (.double (FP.i2d ((p5.toUInt32 >>> ((1 : Int32) &&& 31).toUInt32).toInt32))), .second, rv b950, .unset, .unset, .unset, .unset] [(.double (FP.i2d p4)), (.double (FP.i2d p3)), (.ref sd948), (.int nd), (.ref b950)]))
  obtain ⟨cq969, kq969, q969a, q969b, q969c⟩ := isOf hZ rfl f967_3
  clear q969b
  obtain ⟨_, _, ⟨T969, L969, k969, n969⟩, -, X969, ⟨Lc969, hQ969, l969, y969, z969⟩, st969⟩ := X966.virtualBack hx (y := own_y13) (z := own_y13) hown (mvT hZ (own_w hw 115 rfl)) (mvT hZ (own_w hw 116 rfl)) (notFace_of_selects (args := #[]) (mvT hZ (own_w hw 118 rfl))) (mvT hZ (own_w hw 118 rfl)) (mvT hZ (own_w hw 117 rfl)) (by decide) (backOf (W := 0) (rm_sb l Z a0 hw [] b950 nd sd948 (FP.i2d p3) (FP.i2d p4) bb kb bp kp ((List.replicate nn.toNatClampNeg .null).set oth.toNatClampNeg (.ref sd949)) ((List.replicate nn.toNatClampNeg .null).set oth.toNatClampNeg (.ref dx966)) nn.toNatClampNeg T966.heap n0 (Nat.le_trans Z0 K968.1) f967_4 f967_5 gBb966 gBp966 gOb gOp f967_1 nebp ne_b950_bb ne_b950_bp g_bb g_bp (by simp) (by simp) in_nd) hZ (own_w hw 119 rfl) (own_w hw 10 rfl) (by decide) (by decide)) q969a q969c (g := (mkF m 108 #[iv p1, iv p2, iv p3, iv p4, iv p5, iv nn, iv nd, iv oth, iv thr, rv sd948, rv sd949, .val (.double (FP.i2d p3)), .second, .val (.double (FP.i2d p4)), .second, .val (.double (FP.i2d p5)), .second, .val (.double (FP.i2d ((p5.toUInt32 >>> ((1 : Int32) &&& 31).toUInt32).toInt32))), .second, rv b950, .unset, .unset, .unset, .unset] [(.double (FP.i2d p4)), (.double (FP.i2d p3)), (.ref sd948), (.int nd), (.ref b950)])) rfl (by rw [hml]; rfl) (Steps.refl _) (argsL := [(.int nd), (.ref sd948), (.double (FP.i2d p3)), (.double (FP.i2d p4))]) (rest := []) (lenOf pd__ILcom_example_urania_urania_layered_FlowSide_DD_V_644 rfl) rfl (by show 2 * 0 + _ ≤ _; exact Nat.le_of_eq rfl) (hb hby at_108) (fun _ _ => ⟨rfl, rfl, (by decide : 15 + 1 ≤ _), (by decide : 53 + 2 ≤ _)⟩)
  clear X966 q969a q969c
  dsimp only [Pt.U, Pt.locs, Pt.cells, Pt.slots] at X969 l969 y969 z969 st969 hQ969
  subst l969 y969 z969
  obtain ⟨dx969, hQ969⟩ := hQ969
  obtain ⟨rfl, N969q, Kc969, zx969, gBb969, gBp969, gA969⟩ := hQ969
  have N969 := Fr.app N966 N969q
  clear N966 N969q
  have f970_0 := f967_0.keep Kc969
  have f970_1 := f967_1.keep Kc969
  have f970_2 := f967_2.keep Kc969
  have f970_3 := f967_3.keep Kc969
  have f970_4 := f967_4.keep Kc969 (ninS ne_b950_bb (ninS ne_b950_bp nin0))
  clear f967_4
  have f970_5 := f967_5.keep Kc969 (ninS ne_b950_bb (ninS ne_b950_bp nin0))
  clear f967_5
  have f970_6 := f967_7.keep Kc969
  have f970_9 := gA966.keep Kc969 (ninS (Ne.symm ne_bb_dx966) (ninS (Ne.symm ne_bp_dx966) nin0))
  have K971 : Keep h0 T969.heap [] := K968.trans Kc969 (allS (Or.inr sz_bb) (allS (Or.inr sz_bp) all0))
  clear K968 Kc969
  have ne_a_RIGHT_dx969 : a_RIGHT ≠ dx969 := Nat.ne_of_lt (Nat.lt_of_lt_of_le f967_0.lt zx969)
  clear f967_0
  have ne_b950_dx969 : b950 ≠ dx969 := Nat.ne_of_lt (Nat.lt_of_lt_of_le f967_3.lt zx969)
  clear f967_3
  have ne_bb_dx969 : bb ≠ dx969 := Nat.ne_of_lt (Nat.lt_of_lt_of_le f967_7.lt zx969)
  clear f967_7
  have ne_bp_dx969 : bp ≠ dx969 := Nat.ne_of_lt (Nat.lt_of_lt_of_le gBp966.lt zx969)
  have ne_dx966_dx969 : dx966 ≠ dx969 := Nat.ne_of_lt (Nat.lt_of_lt_of_le gA966.lt zx969)
  clear gA966
  have ne_sd948_dx969 : sd948 ≠ dx969 := Nat.ne_of_lt (Nat.lt_of_lt_of_le f967_1.lt zx969)
  clear f967_1
  have ne_sd949_dx969 : sd949 ≠ dx969 := Nat.ne_of_lt (Nat.lt_of_lt_of_le f967_2.lt zx969)
  clear f967_2
  refine own_tr st969 ?_
  clear st969
  show own_Fin p e below G (T969.setTop (mkF m 111 #[iv p1, iv p2, iv p3, iv p4, iv p5, iv nn, iv nd, iv oth, iv thr, rv sd948, rv sd949, .val (.double (FP.i2d p3)), .second, .val (.double (FP.i2d p4)), .second, .val (.double (FP.i2d p5)), .second, .val (.double (FP.i2d ((p5.toUInt32 >>> ((1 : Int32) &&& 31).toUInt32).toInt32))), .second, rv b950, .unset, .unset, .unset, .unset] []))
  have at_bb_nd := own_at1 (n := nn.toNatClampNeg) (v := .ref sd948) (w := .ref sd949) (i := oth) in_nd
  have at_bp_nd := own_at1 (n := nn.toNatClampNeg) (v := .ref dx969) (w := .ref dx966) (i := oth) in_nd
  refine own_st (fun _ k => XS.aload X969.here hx rfl (hb hby at_111) rfl rfl k) ?_
  show own_Fin p e below G (T969.setTop (mkF m 113 #[iv p1, iv p2, iv p3, iv p4, iv p5, iv nn, iv nd, iv oth, iv thr, rv sd948, rv sd949, .val (.double (FP.i2d p3)), .second, .val (.double (FP.i2d p4)), .second, .val (.double (FP.i2d p5)), .second, .val (.double (FP.i2d ((p5.toUInt32 >>> ((1 : Int32) &&& 31).toUInt32).toInt32))), .second, rv b950, .unset, .unset, .unset, .unset] [(.ref b950)]))
  refine own_st (fun _ k => XS.iload X969.here hx rfl (hb hby at_113) rfl  k) ?_
  show own_Fin p e below G (T969.setTop (mkF m 115 #[iv p1, iv p2, iv p3, iv p4, iv p5, iv nn, iv nd, iv oth, iv thr, rv sd948, rv sd949, .val (.double (FP.i2d p3)), .second, .val (.double (FP.i2d p4)), .second, .val (.double (FP.i2d p5)), .second, .val (.double (FP.i2d ((p5.toUInt32 >>> ((1 : Int32) &&& 31).toUInt32).toInt32))), .second, rv b950, .unset, .unset, .unset, .unset] [(.int nd), (.ref b950)]))
  obtain ⟨cq972, kq972, q972a, q972b, q972c⟩ := isOf hZ rfl f970_3
  clear q972b
  obtain ⟨_, _, ⟨T972, L972, k972, n972⟩, -, X972, ⟨Lc972, hQ972, l972, y972, z972⟩, st972⟩ := X969.virtualBack hx (y := own_y15) (z := own_y15) hown (mvT hZ (own_w hw 123 rfl)) (mvT hZ (own_w hw 124 rfl)) (notFace_of_selects (args := #[]) (mvT hZ (own_w hw 126 rfl))) (mvT hZ (own_w hw 126 rfl)) (mvT hZ (own_w hw 125 rfl)) (by decide) (backOf (W := 0) (rm_gborderPort l Z a0 hw [] b950 nd bp kp (((List.replicate nn.toNatClampNeg .null).set oth.toNatClampNeg (.ref dx966)).set nd.toNatClampNeg (.ref dx969)) nn.toNatClampNeg ((.ref dx969)) T969.heap n0 (Nat.le_trans Z0 K971.1) f970_5 gBp969 (by simp) in_nd at_bp_nd rfl) hZ (own_w hw 127 rfl) (own_w hw 10 rfl) (by decide) (by decide)) q972a q972c (g := (mkF m 115 #[iv p1, iv p2, iv p3, iv p4, iv p5, iv nn, iv nd, iv oth, iv thr, rv sd948, rv sd949, .val (.double (FP.i2d p3)), .second, .val (.double (FP.i2d p4)), .second, .val (.double (FP.i2d p5)), .second, .val (.double (FP.i2d ((p5.toUInt32 >>> ((1 : Int32) &&& 31).toUInt32).toInt32))), .second, rv b950, .unset, .unset, .unset, .unset] [(.int nd), (.ref b950)])) rfl (by rw [hml]; rfl) (Steps.refl _) (argsL := [(.int nd)]) (rest := []) (lenOf pd__I__D_313 rfl) rfl (by show 2 * 0 + _ ≤ _; exact Nat.le_of_eq rfl) (hb hby at_115) (fun _ _ => ⟨rfl, rfl, (by decide : 16 + 0 ≤ _), (by decide : 55 + 0 ≤ _)⟩)
  clear X969 q972a q972c
  dsimp only [Pt.U, Pt.locs, Pt.cells, Pt.slots] at X972 l972 y972 z972 st972 hQ972
  subst l972 y972 z972
  obtain ⟨rfl, N972q, e972⟩ := hQ972
  skip
  have N972 := Fr.app N969 N972q
  clear N969 N972q
  refine own_tr st972 ?_
  clear st972
  show own_Fin p e below G (T972.setTop (mkF m 118 #[iv p1, iv p2, iv p3, iv p4, iv p5, iv nn, iv nd, iv oth, iv thr, rv sd948, rv sd949, .val (.double (FP.i2d p3)), .second, .val (.double (FP.i2d p4)), .second, .val (.double (FP.i2d p5)), .second, .val (.double (FP.i2d ((p5.toUInt32 >>> ((1 : Int32) &&& 31).toUInt32).toInt32))), .second, rv b950, .unset, .unset, .unset, .unset] [(.ref dx969)]))
  refine own_st (fun _ k => XS.astore X972.here hx rfl (hb hby at_118) rfl rfl (l' := #[iv p1, iv p2, iv p3, iv p4, iv p5, iv nn, iv nd, iv oth, iv thr, rv sd948, rv sd949, .val (.double (FP.i2d p3)), .second, .val (.double (FP.i2d p4)), .second, .val (.double (FP.i2d p5)), .second, .val (.double (FP.i2d ((p5.toUInt32 >>> ((1 : Int32) &&& 31).toUInt32).toInt32))), .second, rv b950, rv dx969, .unset, .unset, .unset]) rfl k) ?_
  show own_Fin p e below G (T972.setTop (mkF m 120 #[iv p1, iv p2, iv p3, iv p4, iv p5, iv nn, iv nd, iv oth, iv thr, rv sd948, rv sd949, .val (.double (FP.i2d p3)), .second, .val (.double (FP.i2d p4)), .second, .val (.double (FP.i2d p5)), .second, .val (.double (FP.i2d ((p5.toUInt32 >>> ((1 : Int32) &&& 31).toUInt32).toInt32))), .second, rv b950, rv dx969, .unset, .unset, .unset] []))
  refine own_st (fun _ k => XS.aload X972.here hx rfl (hb hby at_120) rfl rfl k) ?_
  show own_Fin p e below G (T972.setTop (mkF m 122 #[iv p1, iv p2, iv p3, iv p4, iv p5, iv nn, iv nd, iv oth, iv thr, rv sd948, rv sd949, .val (.double (FP.i2d p3)), .second, .val (.double (FP.i2d p4)), .second, .val (.double (FP.i2d p5)), .second, .val (.double (FP.i2d ((p5.toUInt32 >>> ((1 : Int32) &&& 31).toUInt32).toInt32))), .second, rv b950, rv dx969, .unset, .unset, .unset] [(.ref b950)]))
  refine own_st (fun _ k => XS.iload X972.here hx rfl (hb hby at_122) rfl  k) ?_
  show own_Fin p e below G (T972.setTop (mkF m 124 #[iv p1, iv p2, iv p3, iv p4, iv p5, iv nn, iv nd, iv oth, iv thr, rv sd948, rv sd949, .val (.double (FP.i2d p3)), .second, .val (.double (FP.i2d p4)), .second, .val (.double (FP.i2d p5)), .second, .val (.double (FP.i2d ((p5.toUInt32 >>> ((1 : Int32) &&& 31).toUInt32).toInt32))), .second, rv b950, rv dx969, .unset, .unset, .unset] [(.int nd), (.ref b950)]))
  obtain ⟨cq973, kq973, q973a, q973b, q973c⟩ := isOf hZ e972 f970_3
  clear q973b
  obtain ⟨_, _, ⟨T973, L973, k973, n973⟩, -, X973, ⟨Lc973, hQ973, l973, y973, z973⟩, st973⟩ := X972.virtualBack hx (y := own_y14) (z := own_y14) hown (mvT hZ (own_w hw 128 rfl)) (mvT hZ (own_w hw 129 rfl)) (notFace_of_selects (args := #[]) (mvT hZ (own_w hw 131 rfl))) (mvT hZ (own_w hw 131 rfl)) (mvT hZ (own_w hw 130 rfl)) (by decide) (backOf (W := 0) (rm_gborder l Z a0 hw [] b950 nd bb kb (((List.replicate nn.toNatClampNeg .null).set oth.toNatClampNeg (.ref sd949)).set nd.toNatClampNeg (.ref sd948)) nn.toNatClampNeg ((.ref sd948)) T969.heap n0 (Nat.le_trans Z0 K971.1) f970_4 gBb969 (by simp) in_nd at_bb_nd rfl) hZ (own_w hw 132 rfl) (own_w hw 10 rfl) (by decide) (by decide)) q973a q973c (g := (mkF m 124 #[iv p1, iv p2, iv p3, iv p4, iv p5, iv nn, iv nd, iv oth, iv thr, rv sd948, rv sd949, .val (.double (FP.i2d p3)), .second, .val (.double (FP.i2d p4)), .second, .val (.double (FP.i2d p5)), .second, .val (.double (FP.i2d ((p5.toUInt32 >>> ((1 : Int32) &&& 31).toUInt32).toInt32))), .second, rv b950, rv dx969, .unset, .unset, .unset] [(.int nd), (.ref b950)])) rfl (by rw [hml]; rfl) (Steps.refl _) (argsL := [(.int nd)]) (rest := []) (lenOf pd__I_Lcom_example_urania_urania_layered_FlowSide__422 rfl) rfl (by show 2 * 0 + _ ≤ _; exact Nat.le_of_eq rfl) (hb hby at_124) (fun _ _ => ⟨rfl, e972, (by decide : 16 + 0 ≤ _), (by decide : 55 + 0 ≤ _)⟩)
  clear X972 e972 q973a q973c
  dsimp only [Pt.U, Pt.locs, Pt.cells, Pt.slots] at X973 l973 y973 z973 st973 hQ973
  subst l973 y973 z973
  obtain ⟨rfl, N973q, e973⟩ := hQ973
  skip
  have N973 := Fr.app N972 N973q
  clear N972 N973q
  refine own_tr st973 ?_
  clear st973
  show own_Fin p e below G (T973.setTop (mkF m 127 #[iv p1, iv p2, iv p3, iv p4, iv p5, iv nn, iv nd, iv oth, iv thr, rv sd948, rv sd949, .val (.double (FP.i2d p3)), .second, .val (.double (FP.i2d p4)), .second, .val (.double (FP.i2d p5)), .second, .val (.double (FP.i2d ((p5.toUInt32 >>> ((1 : Int32) &&& 31).toUInt32).toInt32))), .second, rv b950, rv dx969, .unset, .unset, .unset] [(.ref sd948)]))
  refine own_st (fun _ k => XS.aload X973.here hx rfl (hb hby at_127) rfl rfl k) ?_
  show own_Fin p e below G (T973.setTop (mkF m 129 #[iv p1, iv p2, iv p3, iv p4, iv p5, iv nn, iv nd, iv oth, iv thr, rv sd948, rv sd949, .val (.double (FP.i2d p3)), .second, .val (.double (FP.i2d p4)), .second, .val (.double (FP.i2d p5)), .second, .val (.double (FP.i2d ((p5.toUInt32 >>> ((1 : Int32) &&& 31).toUInt32).toInt32))), .second, rv b950, rv dx969, .unset, .unset, .unset] [(.ref sd948), (.ref sd948)]))
  refine own_st (fun _ k => Jvm.RoadKit.acmp (g := (mkF m 129 #[iv p1, iv p2, iv p3, iv p4, iv p5, iv nn, iv nd, iv oth, iv thr, rv sd948, rv sd949, .val (.double (FP.i2d p3)), .second, .val (.double (FP.i2d p4)), .second, .val (.double (FP.i2d p5)), .second, .val (.double (FP.i2d ((p5.toUInt32 >>> ((1 : Int32) &&& 31).toUInt32).toInt32))), .second, rv b950, rv dx969, .unset, .unset, .unset] [(.ref sd948), (.ref sd948)])) X973 hx rfl rfl rfl (pc0 := 129) (pc' := 132) (same := true) rfl (hb hby at_129) rfl (decide_eq_true rfl) (by decide) (by decide) k) ?_
  show own_Fin p e below G (T973.setTop (mkF m 132 #[iv p1, iv p2, iv p3, iv p4, iv p5, iv nn, iv nd, iv oth, iv thr, rv sd948, rv sd949, .val (.double (FP.i2d p3)), .second, .val (.double (FP.i2d p4)), .second, .val (.double (FP.i2d p5)), .second, .val (.double (FP.i2d ((p5.toUInt32 >>> ((1 : Int32) &&& 31).toUInt32).toInt32))), .second, rv b950, rv dx969, .unset, .unset, .unset] []))
  refine own_st (fun _ k => XS.aload X973.here hx rfl (hb hby at_132) rfl rfl k) ?_
  show own_Fin p e below G (T973.setTop (mkF m 134 #[iv p1, iv p2, iv p3, iv p4, iv p5, iv nn, iv nd, iv oth, iv thr, rv sd948, rv sd949, .val (.double (FP.i2d p3)), .second, .val (.double (FP.i2d p4)), .second, .val (.double (FP.i2d p5)), .second, .val (.double (FP.i2d ((p5.toUInt32 >>> ((1 : Int32) &&& 31).toUInt32).toInt32))), .second, rv b950, rv dx969, .unset, .unset, .unset] [(.ref dx969)]))
  refine own_st (fun _ k => XS.ifnullNo X973.here hx rfl (hb hby at_134) rfl k) ?_
  show own_Fin p e below G (T973.setTop (mkF m 137 #[iv p1, iv p2, iv p3, iv p4, iv p5, iv nn, iv nd, iv oth, iv thr, rv sd948, rv sd949, .val (.double (FP.i2d p3)), .second, .val (.double (FP.i2d p4)), .second, .val (.double (FP.i2d p5)), .second, .val (.double (FP.i2d ((p5.toUInt32 >>> ((1 : Int32) &&& 31).toUInt32).toInt32))), .second, rv b950, rv dx969, .unset, .unset, .unset] []))
  refine own_st (fun _ k => XS.aload X973.here hx rfl (hb hby at_137) rfl rfl k) ?_
  show own_Fin p e below G (T973.setTop (mkF m 139 #[iv p1, iv p2, iv p3, iv p4, iv p5, iv nn, iv nd, iv oth, iv thr, rv sd948, rv sd949, .val (.double (FP.i2d p3)), .second, .val (.double (FP.i2d p4)), .second, .val (.double (FP.i2d p5)), .second, .val (.double (FP.i2d ((p5.toUInt32 >>> ((1 : Int32) &&& 31).toUInt32).toInt32))), .second, rv b950, rv dx969, .unset, .unset, .unset] [(.ref dx969)]))
  refine own_st (fun _ k => own_len X973 hx hZ e973 gA969 (z := (2 : Int32)) rfl (g := (mkF m 139 #[iv p1, iv p2, iv p3, iv p4, iv p5, iv nn, iv nd, iv oth, iv thr, rv sd948, rv sd949, .val (.double (FP.i2d p3)), .second, .val (.double (FP.i2d p4)), .second, .val (.double (FP.i2d p5)), .second, .val (.double (FP.i2d ((p5.toUInt32 >>> ((1 : Int32) &&& 31).toUInt32).toInt32))), .second, rv b950, rv dx969, .unset, .unset, .unset] [(.ref dx969)])) rfl rfl (hb hby at_139) k) ?_
  show own_Fin p e below G (T973.setTop (mkF m 140 #[iv p1, iv p2, iv p3, iv p4, iv p5, iv nn, iv nd, iv oth, iv thr, rv sd948, rv sd949, .val (.double (FP.i2d p3)), .second, .val (.double (FP.i2d p4)), .second, .val (.double (FP.i2d p5)), .second, .val (.double (FP.i2d ((p5.toUInt32 >>> ((1 : Int32) &&& 31).toUInt32).toInt32))), .second, rv b950, rv dx969, .unset, .unset, .unset] [(.int (2 : Int32))]))
  refine own_st (fun _ k => XS.iconst X973.here hx rfl (hb hby at_140) k) ?_
  show own_Fin p e below G (T973.setTop (mkF m 141 #[iv p1, iv p2, iv p3, iv p4, iv p5, iv nn, iv nd, iv oth, iv thr, rv sd948, rv sd949, .val (.double (FP.i2d p3)), .second, .val (.double (FP.i2d p4)), .second, .val (.double (FP.i2d p5)), .second, .val (.double (FP.i2d ((p5.toUInt32 >>> ((1 : Int32) &&& 31).toUInt32).toInt32))), .second, rv b950, rv dx969, .unset, .unset, .unset] [(.int (2 : Int32)), (.int (2 : Int32))]))
  refine own_st (fun _ k => XS.icmpNo X973.here hx rfl (hb hby at_141) rfl (teq (by decide : ((2 : Int32) = (2 : Int32)))).2 k) ?_
  show own_Fin p e below G (T973.setTop (mkF m 144 #[iv p1, iv p2, iv p3, iv p4, iv p5, iv nn, iv nd, iv oth, iv thr, rv sd948, rv sd949, .val (.double (FP.i2d p3)), .second, .val (.double (FP.i2d p4)), .second, .val (.double (FP.i2d p5)), .second, .val (.double (FP.i2d ((p5.toUInt32 >>> ((1 : Int32) &&& 31).toUInt32).toInt32))), .second, rv b950, rv dx969, .unset, .unset, .unset] []))
  refine own_st (fun _ k => XS.aload X973.here hx rfl (hb hby at_144) rfl rfl k) ?_
  show own_Fin p e below G (T973.setTop (mkF m 146 #[iv p1, iv p2, iv p3, iv p4, iv p5, iv nn, iv nd, iv oth, iv thr, rv sd948, rv sd949, .val (.double (FP.i2d p3)), .second, .val (.double (FP.i2d p4)), .second, .val (.double (FP.i2d p5)), .second, .val (.double (FP.i2d ((p5.toUInt32 >>> ((1 : Int32) &&& 31).toUInt32).toInt32))), .second, rv b950, rv dx969, .unset, .unset, .unset] [(.ref dx969)]))
  refine own_st (fun _ k => XS.iconst X973.here hx rfl (hb hby at_146) k) ?_
  show own_Fin p e below G (T973.setTop (mkF m 147 #[iv p1, iv p2, iv p3, iv p4, iv p5, iv nn, iv nd, iv oth, iv thr, rv sd948, rv sd949, .val (.double (FP.i2d p3)), .second, .val (.double (FP.i2d p4)), .second, .val (.double (FP.i2d p5)), .second, .val (.double (FP.i2d ((p5.toUInt32 >>> ((1 : Int32) &&& 31).toUInt32).toInt32))), .second, rv b950, rv dx969, .unset, .unset, .unset] [(.int (0 : Int32)), (.ref dx969)]))
  refine own_st (fun _ k => own_ldD X973 hx hZ e973 gA969 (j := (0 : Int32)) (n := 2) rfl (by decide) (g := (mkF m 147 #[iv p1, iv p2, iv p3, iv p4, iv p5, iv nn, iv nd, iv oth, iv thr, rv sd948, rv sd949, .val (.double (FP.i2d p3)), .second, .val (.double (FP.i2d p4)), .second, .val (.double (FP.i2d p5)), .second, .val (.double (FP.i2d ((p5.toUInt32 >>> ((1 : Int32) &&& 31).toUInt32).toInt32))), .second, rv b950, rv dx969, .unset, .unset, .unset] [(.int (0 : Int32)), (.ref dx969)])) rfl rfl (hb hby at_147) k) ?_
  show own_Fin p e below G (T973.setTop (mkF m 148 #[iv p1, iv p2, iv p3, iv p4, iv p5, iv nn, iv nd, iv oth, iv thr, rv sd948, rv sd949, .val (.double (FP.i2d p3)), .second, .val (.double (FP.i2d p4)), .second, .val (.double (FP.i2d p5)), .second, .val (.double (FP.i2d ((p5.toUInt32 >>> ((1 : Int32) &&& 31).toUInt32).toInt32))), .second, rv b950, rv dx969, .unset, .unset, .unset] [(.double (FP.i2d p3))]))
  refine own_st (fun _ k => XS.dload X973.here hx rfl (hb hby at_148) rfl  k) ?_
  show own_Fin p e below G (T973.setTop (mkF m 150 #[iv p1, iv p2, iv p3, iv p4, iv p5, iv nn, iv nd, iv oth, iv thr, rv sd948, rv sd949, .val (.double (FP.i2d p3)), .second, .val (.double (FP.i2d p4)), .second, .val (.double (FP.i2d p5)), .second, .val (.double (FP.i2d ((p5.toUInt32 >>> ((1 : Int32) &&& 31).toUInt32).toInt32))), .second, rv b950, rv dx969, .unset, .unset, .unset] [(.double (FP.i2d p3)), (.double (FP.i2d p3))]))
  refine own_st (fun _ k => XS.dcmpS X973.here hx rfl (hb hby at_150) rfl (v := (0 : Int32)) (dcmpV_self (own_nn _) _) k) ?_
  show own_Fin p e below G (T973.setTop (mkF m 151 #[iv p1, iv p2, iv p3, iv p4, iv p5, iv nn, iv nd, iv oth, iv thr, rv sd948, rv sd949, .val (.double (FP.i2d p3)), .second, .val (.double (FP.i2d p4)), .second, .val (.double (FP.i2d p5)), .second, .val (.double (FP.i2d ((p5.toUInt32 >>> ((1 : Int32) &&& 31).toUInt32).toInt32))), .second, rv b950, rv dx969, .unset, .unset, .unset] [(.int (0 : Int32))]))
  refine own_st (fun _ k => XS.ifNo X973.here hx rfl (hb hby at_151) rfl ((if0 _ _).trans (teq (by decide : ((0 : Int32) = (0 : Int32)))).2) k) ?_
  show own_Fin p e below G (T973.setTop (mkF m 154 #[iv p1, iv p2, iv p3, iv p4, iv p5, iv nn, iv nd, iv oth, iv thr, rv sd948, rv sd949, .val (.double (FP.i2d p3)), .second, .val (.double (FP.i2d p4)), .second, .val (.double (FP.i2d p5)), .second, .val (.double (FP.i2d ((p5.toUInt32 >>> ((1 : Int32) &&& 31).toUInt32).toInt32))), .second, rv b950, rv dx969, .unset, .unset, .unset] []))
  refine own_st (fun _ k => XS.aload X973.here hx rfl (hb hby at_154) rfl rfl k) ?_
  show own_Fin p e below G (T973.setTop (mkF m 156 #[iv p1, iv p2, iv p3, iv p4, iv p5, iv nn, iv nd, iv oth, iv thr, rv sd948, rv sd949, .val (.double (FP.i2d p3)), .second, .val (.double (FP.i2d p4)), .second, .val (.double (FP.i2d p5)), .second, .val (.double (FP.i2d ((p5.toUInt32 >>> ((1 : Int32) &&& 31).toUInt32).toInt32))), .second, rv b950, rv dx969, .unset, .unset, .unset] [(.ref dx969)]))
  refine own_st (fun _ k => XS.iconst X973.here hx rfl (hb hby at_156) k) ?_
  show own_Fin p e below G (T973.setTop (mkF m 157 #[iv p1, iv p2, iv p3, iv p4, iv p5, iv nn, iv nd, iv oth, iv thr, rv sd948, rv sd949, .val (.double (FP.i2d p3)), .second, .val (.double (FP.i2d p4)), .second, .val (.double (FP.i2d p5)), .second, .val (.double (FP.i2d ((p5.toUInt32 >>> ((1 : Int32) &&& 31).toUInt32).toInt32))), .second, rv b950, rv dx969, .unset, .unset, .unset] [(.int (1 : Int32)), (.ref dx969)]))
  refine own_st (fun _ k => own_ldD X973 hx hZ e973 gA969 (j := (1 : Int32)) (n := 2) rfl (by decide) (g := (mkF m 157 #[iv p1, iv p2, iv p3, iv p4, iv p5, iv nn, iv nd, iv oth, iv thr, rv sd948, rv sd949, .val (.double (FP.i2d p3)), .second, .val (.double (FP.i2d p4)), .second, .val (.double (FP.i2d p5)), .second, .val (.double (FP.i2d ((p5.toUInt32 >>> ((1 : Int32) &&& 31).toUInt32).toInt32))), .second, rv b950, rv dx969, .unset, .unset, .unset] [(.int (1 : Int32)), (.ref dx969)])) rfl rfl (hb hby at_157) k) ?_
  show own_Fin p e below G (T973.setTop (mkF m 158 #[iv p1, iv p2, iv p3, iv p4, iv p5, iv nn, iv nd, iv oth, iv thr, rv sd948, rv sd949, .val (.double (FP.i2d p3)), .second, .val (.double (FP.i2d p4)), .second, .val (.double (FP.i2d p5)), .second, .val (.double (FP.i2d ((p5.toUInt32 >>> ((1 : Int32) &&& 31).toUInt32).toInt32))), .second, rv b950, rv dx969, .unset, .unset, .unset] [(.double (FP.i2d p4))]))
  refine own_st (fun _ k => XS.dload X973.here hx rfl (hb hby at_158) rfl  k) ?_
  show own_Fin p e below G (T973.setTop (mkF m 160 #[iv p1, iv p2, iv p3, iv p4, iv p5, iv nn, iv nd, iv oth, iv thr, rv sd948, rv sd949, .val (.double (FP.i2d p3)), .second, .val (.double (FP.i2d p4)), .second, .val (.double (FP.i2d p5)), .second, .val (.double (FP.i2d ((p5.toUInt32 >>> ((1 : Int32) &&& 31).toUInt32).toInt32))), .second, rv b950, rv dx969, .unset, .unset, .unset] [(.double (FP.i2d p4)), (.double (FP.i2d p4))]))
  refine own_st (fun _ k => XS.dcmpS X973.here hx rfl (hb hby at_160) rfl (v := (0 : Int32)) (dcmpV_self (own_nn _) _) k) ?_
  show own_Fin p e below G (T973.setTop (mkF m 161 #[iv p1, iv p2, iv p3, iv p4, iv p5, iv nn, iv nd, iv oth, iv thr, rv sd948, rv sd949, .val (.double (FP.i2d p3)), .second, .val (.double (FP.i2d p4)), .second, .val (.double (FP.i2d p5)), .second, .val (.double (FP.i2d ((p5.toUInt32 >>> ((1 : Int32) &&& 31).toUInt32).toInt32))), .second, rv b950, rv dx969, .unset, .unset, .unset] [(.int (0 : Int32))]))
  refine own_st (fun _ k => XS.ifNo X973.here hx rfl (hb hby at_161) rfl ((if0 _ _).trans (teq (by decide : ((0 : Int32) = (0 : Int32)))).2) k) ?_
  show own_Fin p e below G (T973.setTop (mkF m 164 #[iv p1, iv p2, iv p3, iv p4, iv p5, iv nn, iv nd, iv oth, iv thr, rv sd948, rv sd949, .val (.double (FP.i2d p3)), .second, .val (.double (FP.i2d p4)), .second, .val (.double (FP.i2d p5)), .second, .val (.double (FP.i2d ((p5.toUInt32 >>> ((1 : Int32) &&& 31).toUInt32).toInt32))), .second, rv b950, rv dx969, .unset, .unset, .unset] []))
  refine own_st (fun _ k => XS.iconst X973.here hx rfl (hb hby at_164) k) ?_
  show own_Fin p e below G (T973.setTop (mkF m 165 #[iv p1, iv p2, iv p3, iv p4, iv p5, iv nn, iv nd, iv oth, iv thr, rv sd948, rv sd949, .val (.double (FP.i2d p3)), .second, .val (.double (FP.i2d p4)), .second, .val (.double (FP.i2d p5)), .second, .val (.double (FP.i2d ((p5.toUInt32 >>> ((1 : Int32) &&& 31).toUInt32).toInt32))), .second, rv b950, rv dx969, .unset, .unset, .unset] [(.int (1 : Int32))]))
  refine own_st (fun _ k => XS.goto X973.here hx rfl (pc0 := 165) (pc' := 169) rfl (hb hby at_165) (by decide) (by decide) k) ?_
  show own_Fin p e below G (T973.setTop (mkF m 169 #[iv p1, iv p2, iv p3, iv p4, iv p5, iv nn, iv nd, iv oth, iv thr, rv sd948, rv sd949, .val (.double (FP.i2d p3)), .second, .val (.double (FP.i2d p4)), .second, .val (.double (FP.i2d p5)), .second, .val (.double (FP.i2d ((p5.toUInt32 >>> ((1 : Int32) &&& 31).toUInt32).toInt32))), .second, rv b950, rv dx969, .unset, .unset, .unset] [(.int (1 : Int32))]))
  refine own_st (fun _ k => XS.istore X973.here hx rfl (hb hby at_169) rfl (l' := #[iv p1, iv p2, iv p3, iv p4, iv p5, iv nn, iv nd, iv oth, iv thr, rv sd948, rv sd949, .val (.double (FP.i2d p3)), .second, .val (.double (FP.i2d p4)), .second, .val (.double (FP.i2d p5)), .second, .val (.double (FP.i2d ((p5.toUInt32 >>> ((1 : Int32) &&& 31).toUInt32).toInt32))), .second, rv b950, rv dx969, iv (1 : Int32), .unset, .unset]) rfl k) ?_
  show own_Fin p e below G (T973.setTop (mkF m 171 #[iv p1, iv p2, iv p3, iv p4, iv p5, iv nn, iv nd, iv oth, iv thr, rv sd948, rv sd949, .val (.double (FP.i2d p3)), .second, .val (.double (FP.i2d p4)), .second, .val (.double (FP.i2d p5)), .second, .val (.double (FP.i2d ((p5.toUInt32 >>> ((1 : Int32) &&& 31).toUInt32).toInt32))), .second, rv b950, rv dx969, iv (1 : Int32), .unset, .unset] []))
  refine own_st (fun _ k => XS.aload X973.here hx rfl (hb hby at_171) rfl rfl k) ?_
  show own_Fin p e below G (T973.setTop (mkF m 173 #[iv p1, iv p2, iv p3, iv p4, iv p5, iv nn, iv nd, iv oth, iv thr, rv sd948, rv sd949, .val (.double (FP.i2d p3)), .second, .val (.double (FP.i2d p4)), .second, .val (.double (FP.i2d p5)), .second, .val (.double (FP.i2d ((p5.toUInt32 >>> ((1 : Int32) &&& 31).toUInt32).toInt32))), .second, rv b950, rv dx969, iv (1 : Int32), .unset, .unset] [(.ref b950)]))
  obtain ⟨cq974, kq974, q974a, q974b, q974c⟩ := isOf hZ e973 f970_3
  clear q974b
  obtain ⟨_, _, ⟨T974, L974, k974, n974⟩, -, X974, ⟨Lc974, hQ974, l974, y974, z974⟩, st974⟩ := X973.virtualBack hx (y := own_y16) (z := own_y16) hown (mvT hZ (own_w hw 133 rfl)) (mvT hZ (own_w hw 134 rfl)) (notFace_of_selects (args := #[]) (mvT hZ (own_w hw 136 rfl))) (mvT hZ (own_w hw 136 rfl)) (mvT hZ (own_w hw 135 rfl)) (by decide) (backOf (W := 0) (rm_bs l Z a0 hw [] b950 bb kb (((List.replicate nn.toNatClampNeg .null).set oth.toNatClampNeg (.ref sd949)).set nd.toNatClampNeg (.ref sd948)) T969.heap n0 (Nat.le_trans Z0 K971.1) f970_4 gBb969 f970_6 (by simp only [List.length_set, List.length_replicate]; exact le4) (own_fits3 _ _)) hZ (own_w hw 137 rfl) (own_w hw 10 rfl) (by decide) (by decide)) q974a q974c (g := (mkF m 173 #[iv p1, iv p2, iv p3, iv p4, iv p5, iv nn, iv nd, iv oth, iv thr, rv sd948, rv sd949, .val (.double (FP.i2d p3)), .second, .val (.double (FP.i2d p4)), .second, .val (.double (FP.i2d p5)), .second, .val (.double (FP.i2d ((p5.toUInt32 >>> ((1 : Int32) &&& 31).toUInt32).toInt32))), .second, rv b950, rv dx969, iv (1 : Int32), .unset, .unset] [(.ref b950)])) rfl (by rw [hml]; rfl) (Steps.refl _) (argsL := []) (rest := []) (lenOf pd____Lcom_example_urania_urania_layered_FlowSide__440 rfl) rfl (by show 2 * 0 + _ ≤ _; exact Nat.le_of_eq rfl) (hb hby at_173) (fun _ _ => ⟨rfl, e973, (by decide : 16 + 1 ≤ _), (by decide : 55 + 4 ≤ _)⟩)
  clear X973 e973 q974a q974c
  dsimp only [Pt.U, Pt.locs, Pt.cells, Pt.slots] at X974 l974 y974 z974 st974 hQ974
  subst l974 y974 z974
  obtain ⟨cx, hQ974⟩ := hQ974
  obtain ⟨rfl, N974q, Kc974, zc, gBc⟩ := hQ974
  have N974 := Fr.app N973 N974q
  clear N973 N974q
  have f975_0 := f970_0.keep Kc974
  clear f970_0 f975_0
  have f975_1 := f970_1.keep Kc974
  clear f970_1 f975_1
  have f975_2 := f970_2.keep Kc974
  clear f970_2 f975_2
  have f975_3 := f970_3.keep Kc974
  clear f970_3
  have f975_4 := f970_4.keep Kc974 nin0
  clear f970_4
  have f975_5 := f970_5.keep Kc974 nin0
  clear f970_5
  have f975_6 := f970_6.keep Kc974
  clear f970_6 f975_6
  have f975_7 := f970_9.keep Kc974 nin0
  clear f970_9
  have f975_8 := gBb969.keep Kc974 nin0
  have f975_9 := gBp969.keep Kc974 nin0
  have f975_10 := gA969.keep Kc974 nin0
  clear gA969 f975_10
  have K976 : Keep h0 T974.heap [] := K971.trans Kc974 all0
  clear K971 Kc974
  refine own_tr st974 ?_
  clear st974
  show own_Fin p e below G (T974.setTop (mkF m 176 #[iv p1, iv p2, iv p3, iv p4, iv p5, iv nn, iv nd, iv oth, iv thr, rv sd948, rv sd949, .val (.double (FP.i2d p3)), .second, .val (.double (FP.i2d p4)), .second, .val (.double (FP.i2d p5)), .second, .val (.double (FP.i2d ((p5.toUInt32 >>> ((1 : Int32) &&& 31).toUInt32).toInt32))), .second, rv b950, rv dx969, iv (1 : Int32), .unset, .unset] [(.ref cx)]))
  refine own_st (fun _ k => XS.astore X974.here hx rfl (hb hby at_176) rfl rfl (l' := #[iv p1, iv p2, iv p3, iv p4, iv p5, iv nn, iv nd, iv oth, iv thr, rv sd948, rv sd949, .val (.double (FP.i2d p3)), .second, .val (.double (FP.i2d p4)), .second, .val (.double (FP.i2d p5)), .second, .val (.double (FP.i2d ((p5.toUInt32 >>> ((1 : Int32) &&& 31).toUInt32).toInt32))), .second, rv b950, rv dx969, iv (1 : Int32), rv cx, .unset]) rfl k) ?_
  show own_Fin p e below G (T974.setTop (mkF m 178 #[iv p1, iv p2, iv p3, iv p4, iv p5, iv nn, iv nd, iv oth, iv thr, rv sd948, rv sd949, .val (.double (FP.i2d p3)), .second, .val (.double (FP.i2d p4)), .second, .val (.double (FP.i2d p5)), .second, .val (.double (FP.i2d ((p5.toUInt32 >>> ((1 : Int32) &&& 31).toUInt32).toInt32))), .second, rv b950, rv dx969, iv (1 : Int32), rv cx, .unset] []))
  refine own_st (fun _ k => XS.iload X974.here hx rfl (hb hby at_178) rfl  k) ?_
  show own_Fin p e below G (T974.setTop (mkF m 180 #[iv p1, iv p2, iv p3, iv p4, iv p5, iv nn, iv nd, iv oth, iv thr, rv sd948, rv sd949, .val (.double (FP.i2d p3)), .second, .val (.double (FP.i2d p4)), .second, .val (.double (FP.i2d p5)), .second, .val (.double (FP.i2d ((p5.toUInt32 >>> ((1 : Int32) &&& 31).toUInt32).toInt32))), .second, rv b950, rv dx969, iv (1 : Int32), rv cx, .unset] [(.int (1 : Int32))]))
  refine own_st (fun _ k => XS.ifNo X974.here hx rfl (hb hby at_180) rfl ((if0 _ _).trans (feq (by decide : ¬ ((1 : Int32) = (0 : Int32)))).1) k) ?_
  show own_Fin p e below G (T974.setTop (mkF m 183 #[iv p1, iv p2, iv p3, iv p4, iv p5, iv nn, iv nd, iv oth, iv thr, rv sd948, rv sd949, .val (.double (FP.i2d p3)), .second, .val (.double (FP.i2d p4)), .second, .val (.double (FP.i2d p5)), .second, .val (.double (FP.i2d ((p5.toUInt32 >>> ((1 : Int32) &&& 31).toUInt32).toInt32))), .second, rv b950, rv dx969, iv (1 : Int32), rv cx, .unset] []))
  refine own_st (fun _ k => XS.aload X974.here hx rfl (hb hby at_183) rfl rfl k) ?_
  show own_Fin p e below G (T974.setTop (mkF m 185 #[iv p1, iv p2, iv p3, iv p4, iv p5, iv nn, iv nd, iv oth, iv thr, rv sd948, rv sd949, .val (.double (FP.i2d p3)), .second, .val (.double (FP.i2d p4)), .second, .val (.double (FP.i2d p5)), .second, .val (.double (FP.i2d ((p5.toUInt32 >>> ((1 : Int32) &&& 31).toUInt32).toInt32))), .second, rv b950, rv dx969, iv (1 : Int32), rv cx, .unset] [(.ref cx)]))
  refine own_st (fun _ k => own_len X974 hx hZ rfl gBc.av (z := nn) (by simp only [List.length_set, List.length_replicate]; exact own_back hn4) (g := (mkF m 185 #[iv p1, iv p2, iv p3, iv p4, iv p5, iv nn, iv nd, iv oth, iv thr, rv sd948, rv sd949, .val (.double (FP.i2d p3)), .second, .val (.double (FP.i2d p4)), .second, .val (.double (FP.i2d p5)), .second, .val (.double (FP.i2d ((p5.toUInt32 >>> ((1 : Int32) &&& 31).toUInt32).toInt32))), .second, rv b950, rv dx969, iv (1 : Int32), rv cx, .unset] [(.ref cx)])) rfl rfl (hb hby at_185) k) ?_
  show own_Fin p e below G (T974.setTop (mkF m 186 #[iv p1, iv p2, iv p3, iv p4, iv p5, iv nn, iv nd, iv oth, iv thr, rv sd948, rv sd949, .val (.double (FP.i2d p3)), .second, .val (.double (FP.i2d p4)), .second, .val (.double (FP.i2d p5)), .second, .val (.double (FP.i2d ((p5.toUInt32 >>> ((1 : Int32) &&& 31).toUInt32).toInt32))), .second, rv b950, rv dx969, iv (1 : Int32), rv cx, .unset] [(.int nn)]))
  refine own_st (fun _ k => XS.iload X974.here hx rfl (hb hby at_186) rfl  k) ?_
  show own_Fin p e below G (T974.setTop (mkF m 188 #[iv p1, iv p2, iv p3, iv p4, iv p5, iv nn, iv nd, iv oth, iv thr, rv sd948, rv sd949, .val (.double (FP.i2d p3)), .second, .val (.double (FP.i2d p4)), .second, .val (.double (FP.i2d p5)), .second, .val (.double (FP.i2d ((p5.toUInt32 >>> ((1 : Int32) &&& 31).toUInt32).toInt32))), .second, rv b950, rv dx969, iv (1 : Int32), rv cx, .unset] [(.int nn), (.int nn)]))
  refine own_st (fun _ k => XS.icmpNo X974.here hx rfl (hb hby at_188) rfl (teq (rfl : nn = nn)).2 k) ?_
  show own_Fin p e below G (T974.setTop (mkF m 191 #[iv p1, iv p2, iv p3, iv p4, iv p5, iv nn, iv nd, iv oth, iv thr, rv sd948, rv sd949, .val (.double (FP.i2d p3)), .second, .val (.double (FP.i2d p4)), .second, .val (.double (FP.i2d p5)), .second, .val (.double (FP.i2d ((p5.toUInt32 >>> ((1 : Int32) &&& 31).toUInt32).toInt32))), .second, rv b950, rv dx969, iv (1 : Int32), rv cx, .unset] []))
  refine own_st (fun _ k => XS.aload X974.here hx rfl (hb hby at_191) rfl rfl k) ?_
  show own_Fin p e below G (T974.setTop (mkF m 193 #[iv p1, iv p2, iv p3, iv p4, iv p5, iv nn, iv nd, iv oth, iv thr, rv sd948, rv sd949, .val (.double (FP.i2d p3)), .second, .val (.double (FP.i2d p4)), .second, .val (.double (FP.i2d p5)), .second, .val (.double (FP.i2d ((p5.toUInt32 >>> ((1 : Int32) &&& 31).toUInt32).toInt32))), .second, rv b950, rv dx969, iv (1 : Int32), rv cx, .unset] [(.ref cx)]))
  refine own_st (fun _ k => XS.iload X974.here hx rfl (hb hby at_193) rfl  k) ?_
  show own_Fin p e below G (T974.setTop (mkF m 195 #[iv p1, iv p2, iv p3, iv p4, iv p5, iv nn, iv nd, iv oth, iv thr, rv sd948, rv sd949, .val (.double (FP.i2d p3)), .second, .val (.double (FP.i2d p4)), .second, .val (.double (FP.i2d p5)), .second, .val (.double (FP.i2d ((p5.toUInt32 >>> ((1 : Int32) &&& 31).toUInt32).toInt32))), .second, rv b950, rv dx969, iv (1 : Int32), rv cx, .unset] [(.int nd), (.ref cx)]))
  refine own_st (fun _ k => own_ldR X974 hx hZ rfl gBc (j := nd) (n := nn.toNatClampNeg) (by simp) in_nd rfl (v := (.ref sd948)) at_bb_nd (g := (mkF m 195 #[iv p1, iv p2, iv p3, iv p4, iv p5, iv nn, iv nd, iv oth, iv thr, rv sd948, rv sd949, .val (.double (FP.i2d p3)), .second, .val (.double (FP.i2d p4)), .second, .val (.double (FP.i2d p5)), .second, .val (.double (FP.i2d ((p5.toUInt32 >>> ((1 : Int32) &&& 31).toUInt32).toInt32))), .second, rv b950, rv dx969, iv (1 : Int32), rv cx, .unset] [(.int nd), (.ref cx)])) rfl rfl (hb hby at_195) k) ?_
  show own_Fin p e below G (T974.setTop (mkF m 196 #[iv p1, iv p2, iv p3, iv p4, iv p5, iv nn, iv nd, iv oth, iv thr, rv sd948, rv sd949, .val (.double (FP.i2d p3)), .second, .val (.double (FP.i2d p4)), .second, .val (.double (FP.i2d p5)), .second, .val (.double (FP.i2d ((p5.toUInt32 >>> ((1 : Int32) &&& 31).toUInt32).toInt32))), .second, rv b950, rv dx969, iv (1 : Int32), rv cx, .unset] [(.ref sd948)]))
  refine own_st (fun _ k => XS.aload X974.here hx rfl (hb hby at_196) rfl rfl k) ?_
  show own_Fin p e below G (T974.setTop (mkF m 198 #[iv p1, iv p2, iv p3, iv p4, iv p5, iv nn, iv nd, iv oth, iv thr, rv sd948, rv sd949, .val (.double (FP.i2d p3)), .second, .val (.double (FP.i2d p4)), .second, .val (.double (FP.i2d p5)), .second, .val (.double (FP.i2d ((p5.toUInt32 >>> ((1 : Int32) &&& 31).toUInt32).toInt32))), .second, rv b950, rv dx969, iv (1 : Int32), rv cx, .unset] [(.ref sd948), (.ref sd948)]))
  refine own_st (fun _ k => Jvm.RoadKit.acmp (g := (mkF m 198 #[iv p1, iv p2, iv p3, iv p4, iv p5, iv nn, iv nd, iv oth, iv thr, rv sd948, rv sd949, .val (.double (FP.i2d p3)), .second, .val (.double (FP.i2d p4)), .second, .val (.double (FP.i2d p5)), .second, .val (.double (FP.i2d ((p5.toUInt32 >>> ((1 : Int32) &&& 31).toUInt32).toInt32))), .second, rv b950, rv dx969, iv (1 : Int32), rv cx, .unset] [(.ref sd948), (.ref sd948)])) X974 hx rfl rfl rfl (pc0 := 198) (pc' := 201) (same := true) rfl (hb hby at_198) rfl (decide_eq_true rfl) (by decide) (by decide) k) ?_
  show own_Fin p e below G (T974.setTop (mkF m 201 #[iv p1, iv p2, iv p3, iv p4, iv p5, iv nn, iv nd, iv oth, iv thr, rv sd948, rv sd949, .val (.double (FP.i2d p3)), .second, .val (.double (FP.i2d p4)), .second, .val (.double (FP.i2d p5)), .second, .val (.double (FP.i2d ((p5.toUInt32 >>> ((1 : Int32) &&& 31).toUInt32).toInt32))), .second, rv b950, rv dx969, iv (1 : Int32), rv cx, .unset] []))
  refine own_st (fun _ k => XS.iconst X974.here hx rfl (hb hby at_201) k) ?_
  show own_Fin p e below G (T974.setTop (mkF m 202 #[iv p1, iv p2, iv p3, iv p4, iv p5, iv nn, iv nd, iv oth, iv thr, rv sd948, rv sd949, .val (.double (FP.i2d p3)), .second, .val (.double (FP.i2d p4)), .second, .val (.double (FP.i2d p5)), .second, .val (.double (FP.i2d ((p5.toUInt32 >>> ((1 : Int32) &&& 31).toUInt32).toInt32))), .second, rv b950, rv dx969, iv (1 : Int32), rv cx, .unset] [(.int (1 : Int32))]))
  refine own_st (fun _ k => XS.goto X974.here hx rfl (pc0 := 202) (pc' := 206) rfl (hb hby at_202) (by decide) (by decide) k) ?_
  show own_Fin p e below G (T974.setTop (mkF m 206 #[iv p1, iv p2, iv p3, iv p4, iv p5, iv nn, iv nd, iv oth, iv thr, rv sd948, rv sd949, .val (.double (FP.i2d p3)), .second, .val (.double (FP.i2d p4)), .second, .val (.double (FP.i2d p5)), .second, .val (.double (FP.i2d ((p5.toUInt32 >>> ((1 : Int32) &&& 31).toUInt32).toInt32))), .second, rv b950, rv dx969, iv (1 : Int32), rv cx, .unset] [(.int (1 : Int32))]))
  refine own_st (fun _ k => XS.istore X974.here hx rfl (hb hby at_206) rfl (l' := #[iv p1, iv p2, iv p3, iv p4, iv p5, iv nn, iv nd, iv oth, iv thr, rv sd948, rv sd949, .val (.double (FP.i2d p3)), .second, .val (.double (FP.i2d p4)), .second, .val (.double (FP.i2d p5)), .second, .val (.double (FP.i2d ((p5.toUInt32 >>> ((1 : Int32) &&& 31).toUInt32).toInt32))), .second, rv b950, rv dx969, iv (1 : Int32), rv cx, .unset]) rfl k) ?_
  show own_Fin p e below G (T974.setTop (mkF m 208 #[iv p1, iv p2, iv p3, iv p4, iv p5, iv nn, iv nd, iv oth, iv thr, rv sd948, rv sd949, .val (.double (FP.i2d p3)), .second, .val (.double (FP.i2d p4)), .second, .val (.double (FP.i2d p5)), .second, .val (.double (FP.i2d ((p5.toUInt32 >>> ((1 : Int32) &&& 31).toUInt32).toInt32))), .second, rv b950, rv dx969, iv (1 : Int32), rv cx, .unset] []))
  refine own_st (fun _ k => XS.iload X974.here hx rfl (hb hby at_208) rfl  k) ?_
  show own_Fin p e below G (T974.setTop (mkF m 210 #[iv p1, iv p2, iv p3, iv p4, iv p5, iv nn, iv nd, iv oth, iv thr, rv sd948, rv sd949, .val (.double (FP.i2d p3)), .second, .val (.double (FP.i2d p4)), .second, .val (.double (FP.i2d p5)), .second, .val (.double (FP.i2d ((p5.toUInt32 >>> ((1 : Int32) &&& 31).toUInt32).toInt32))), .second, rv b950, rv dx969, iv (1 : Int32), rv cx, .unset] [(.int nn)]))
  refine own_st (fun _ k => XS.iconst X974.here hx rfl (hb hby at_210) k) ?_
  show own_Fin p e below G (T974.setTop (mkF m 211 #[iv p1, iv p2, iv p3, iv p4, iv p5, iv nn, iv nd, iv oth, iv thr, rv sd948, rv sd949, .val (.double (FP.i2d p3)), .second, .val (.double (FP.i2d p4)), .second, .val (.double (FP.i2d p5)), .second, .val (.double (FP.i2d ((p5.toUInt32 >>> ((1 : Int32) &&& 31).toUInt32).toInt32))), .second, rv b950, rv dx969, iv (1 : Int32), rv cx, .unset] [(.int (2 : Int32)), (.int nn)]))
  by_cases hc211_977 : nn < (2 : Int32)
  · refine own_st (fun _ k => XS.icmpYes X974.here hx rfl (pc0 := 211) (pc' := 289) rfl (hb hby at_211) rfl (tlt hc211_977).1 (by decide) (by decide) k) ?_
    show own_Fin p e below G (T974.setTop (mkF m 289 #[iv p1, iv p2, iv p3, iv p4, iv p5, iv nn, iv nd, iv oth, iv thr, rv sd948, rv sd949, .val (.double (FP.i2d p3)), .second, .val (.double (FP.i2d p4)), .second, .val (.double (FP.i2d p5)), .second, .val (.double (FP.i2d ((p5.toUInt32 >>> ((1 : Int32) &&& 31).toUInt32).toInt32))), .second, rv b950, rv dx969, iv (1 : Int32), rv cx, .unset] []))
    refine own_st (fun _ k => XS.iload X974.here hx rfl (hb hby at_289) rfl  k) ?_
    show own_Fin p e below G (T974.setTop (mkF m 291 #[iv p1, iv p2, iv p3, iv p4, iv p5, iv nn, iv nd, iv oth, iv thr, rv sd948, rv sd949, .val (.double (FP.i2d p3)), .second, .val (.double (FP.i2d p4)), .second, .val (.double (FP.i2d p5)), .second, .val (.double (FP.i2d ((p5.toUInt32 >>> ((1 : Int32) &&& 31).toUInt32).toInt32))), .second, rv b950, rv dx969, iv (1 : Int32), rv cx, .unset] [(.int nn)]))
    refine own_st (fun _ k => XS.iconst X974.here hx rfl (hb hby at_291) k) ?_
    show own_Fin p e below G (T974.setTop (mkF m 292 #[iv p1, iv p2, iv p3, iv p4, iv p5, iv nn, iv nd, iv oth, iv thr, rv sd948, rv sd949, .val (.double (FP.i2d p3)), .second, .val (.double (FP.i2d p4)), .second, .val (.double (FP.i2d p5)), .second, .val (.double (FP.i2d ((p5.toUInt32 >>> ((1 : Int32) &&& 31).toUInt32).toInt32))), .second, rv b950, rv dx969, iv (1 : Int32), rv cx, .unset] [(.int (3 : Int32)), (.int nn)]))
    refine own_st (fun _ k => XS.icmpYes X974.here hx rfl (pc0 := 292) (pc' := 335) rfl (hb hby at_292) rfl (tlt (own_lt23 hc211_977)).1 (by decide) (by decide) k) ?_
    show own_Fin p e below G (T974.setTop (mkF m 335 #[iv p1, iv p2, iv p3, iv p4, iv p5, iv nn, iv nd, iv oth, iv thr, rv sd948, rv sd949, .val (.double (FP.i2d p3)), .second, .val (.double (FP.i2d p4)), .second, .val (.double (FP.i2d p5)), .second, .val (.double (FP.i2d ((p5.toUInt32 >>> ((1 : Int32) &&& 31).toUInt32).toInt32))), .second, rv b950, rv dx969, iv (1 : Int32), rv cx, .unset] []))
    refine own_st (fun _ k => XS.iload X974.here hx rfl (hb hby at_335) rfl  k) ?_
    show own_Fin p e below G (T974.setTop (mkF m 337 #[iv p1, iv p2, iv p3, iv p4, iv p5, iv nn, iv nd, iv oth, iv thr, rv sd948, rv sd949, .val (.double (FP.i2d p3)), .second, .val (.double (FP.i2d p4)), .second, .val (.double (FP.i2d p5)), .second, .val (.double (FP.i2d ((p5.toUInt32 >>> ((1 : Int32) &&& 31).toUInt32).toInt32))), .second, rv b950, rv dx969, iv (1 : Int32), rv cx, .unset] [(.int (1 : Int32))]))
    refine own_out X974 Bd.notSynchronized (v := (some (.int (1 : Int32)))) (fun h => by rw [Bd.returns] at h; cases h) hG (fun fs hr => retN X974 hx (t := .boolean) Bd.returns (by simp) (hb hby at_337) hr) (by decide) (by decide) ?_
    exact ⟨rfl, N974⟩
  · refine own_st (fun _ k => XS.icmpNo X974.here hx rfl (hb hby at_211) rfl (flt hc211_977).1 k) ?_
    show own_Fin p e below G (T974.setTop (mkF m 214 #[iv p1, iv p2, iv p3, iv p4, iv p5, iv nn, iv nd, iv oth, iv thr, rv sd948, rv sd949, .val (.double (FP.i2d p3)), .second, .val (.double (FP.i2d p4)), .second, .val (.double (FP.i2d p5)), .second, .val (.double (FP.i2d ((p5.toUInt32 >>> ((1 : Int32) &&& 31).toUInt32).toInt32))), .second, rv b950, rv dx969, iv (1 : Int32), rv cx, .unset] []))
    have qne := ne2 hc211_977
    have at_bb_oth := own_at2 (n := nn.toNatClampNeg) (v := .ref sd948) (w := .ref sd949) in_nd in_oth qne
    have at_bp_oth := own_at2 (n := nn.toNatClampNeg) (v := .ref dx969) (w := .ref dx966) in_nd in_oth qne
    refine own_st (fun _ k => XS.aload X974.here hx rfl (hb hby at_214) rfl rfl k) ?_
    show own_Fin p e below G (T974.setTop (mkF m 216 #[iv p1, iv p2, iv p3, iv p4, iv p5, iv nn, iv nd, iv oth, iv thr, rv sd948, rv sd949, .val (.double (FP.i2d p3)), .second, .val (.double (FP.i2d p4)), .second, .val (.double (FP.i2d p5)), .second, .val (.double (FP.i2d ((p5.toUInt32 >>> ((1 : Int32) &&& 31).toUInt32).toInt32))), .second, rv b950, rv dx969, iv (1 : Int32), rv cx, .unset] [(.ref b950)]))
    refine own_st (fun _ k => XS.iload X974.here hx rfl (hb hby at_216) rfl  k) ?_
    show own_Fin p e below G (T974.setTop (mkF m 218 #[iv p1, iv p2, iv p3, iv p4, iv p5, iv nn, iv nd, iv oth, iv thr, rv sd948, rv sd949, .val (.double (FP.i2d p3)), .second, .val (.double (FP.i2d p4)), .second, .val (.double (FP.i2d p5)), .second, .val (.double (FP.i2d ((p5.toUInt32 >>> ((1 : Int32) &&& 31).toUInt32).toInt32))), .second, rv b950, rv dx969, iv (1 : Int32), rv cx, .unset] [(.int oth), (.ref b950)]))
    obtain ⟨cq978, kq978, q978a, q978b, q978c⟩ := isOf hZ rfl f975_3
    clear q978b
    obtain ⟨_, _, ⟨T978, L978, k978, n978⟩, -, X978, ⟨Lc978, hQ978, l978, y978, z978⟩, st978⟩ := X974.virtualBack hx (y := own_y15) (z := own_y15) hown (mvT hZ (own_w hw 123 rfl)) (mvT hZ (own_w hw 124 rfl)) (notFace_of_selects (args := #[]) (mvT hZ (own_w hw 126 rfl))) (mvT hZ (own_w hw 126 rfl)) (mvT hZ (own_w hw 125 rfl)) (by decide) (backOf (W := 0) (rm_gborderPort l Z a0 hw [] b950 oth bp kp (((List.replicate nn.toNatClampNeg .null).set oth.toNatClampNeg (.ref dx966)).set nd.toNatClampNeg (.ref dx969)) nn.toNatClampNeg ((.ref dx966)) T974.heap n0 (Nat.le_trans Z0 K976.1) f975_5 f975_9 (by simp) in_oth at_bp_oth rfl) hZ (own_w hw 127 rfl) (own_w hw 10 rfl) (by decide) (by decide)) q978a q978c (g := (mkF m 218 #[iv p1, iv p2, iv p3, iv p4, iv p5, iv nn, iv nd, iv oth, iv thr, rv sd948, rv sd949, .val (.double (FP.i2d p3)), .second, .val (.double (FP.i2d p4)), .second, .val (.double (FP.i2d p5)), .second, .val (.double (FP.i2d ((p5.toUInt32 >>> ((1 : Int32) &&& 31).toUInt32).toInt32))), .second, rv b950, rv dx969, iv (1 : Int32), rv cx, .unset] [(.int oth), (.ref b950)])) rfl (by rw [hml]; rfl) (Steps.refl _) (argsL := [(.int oth)]) (rest := []) (lenOf pd__I__D_313 rfl) rfl (by show 2 * 0 + _ ≤ _; exact Nat.le_of_eq rfl) (hb hby at_218) (fun _ _ => ⟨rfl, rfl, (by decide : 17 + 0 ≤ _), (by decide : 59 + 0 ≤ _)⟩)
    clear X974 q978a q978c
    dsimp only [Pt.U, Pt.locs, Pt.cells, Pt.slots] at X978 l978 y978 z978 st978 hQ978
    subst l978 y978 z978
    obtain ⟨rfl, N978q, e978⟩ := hQ978
    skip
    have N978 := Fr.app N974 N978q
    clear N974 N978q
    refine own_tr st978 ?_
    clear st978
    show own_Fin p e below G (T978.setTop (mkF m 221 #[iv p1, iv p2, iv p3, iv p4, iv p5, iv nn, iv nd, iv oth, iv thr, rv sd948, rv sd949, .val (.double (FP.i2d p3)), .second, .val (.double (FP.i2d p4)), .second, .val (.double (FP.i2d p5)), .second, .val (.double (FP.i2d ((p5.toUInt32 >>> ((1 : Int32) &&& 31).toUInt32).toInt32))), .second, rv b950, rv dx969, iv (1 : Int32), rv cx, .unset] [(.ref dx966)]))
    refine own_st (fun _ k => XS.astore X978.here hx rfl (hb hby at_221) rfl rfl (l' := #[iv p1, iv p2, iv p3, iv p4, iv p5, iv nn, iv nd, iv oth, iv thr, rv sd948, rv sd949, .val (.double (FP.i2d p3)), .second, .val (.double (FP.i2d p4)), .second, .val (.double (FP.i2d p5)), .second, .val (.double (FP.i2d ((p5.toUInt32 >>> ((1 : Int32) &&& 31).toUInt32).toInt32))), .second, rv b950, rv dx969, iv (1 : Int32), rv cx, rv dx966]) rfl k) ?_
    show own_Fin p e below G (T978.setTop (mkF m 223 #[iv p1, iv p2, iv p3, iv p4, iv p5, iv nn, iv nd, iv oth, iv thr, rv sd948, rv sd949, .val (.double (FP.i2d p3)), .second, .val (.double (FP.i2d p4)), .second, .val (.double (FP.i2d p5)), .second, .val (.double (FP.i2d ((p5.toUInt32 >>> ((1 : Int32) &&& 31).toUInt32).toInt32))), .second, rv b950, rv dx969, iv (1 : Int32), rv cx, rv dx966] []))
    refine own_st (fun _ k => XS.iload X978.here hx rfl (hb hby at_223) rfl  k) ?_
    show own_Fin p e below G (T978.setTop (mkF m 225 #[iv p1, iv p2, iv p3, iv p4, iv p5, iv nn, iv nd, iv oth, iv thr, rv sd948, rv sd949, .val (.double (FP.i2d p3)), .second, .val (.double (FP.i2d p4)), .second, .val (.double (FP.i2d p5)), .second, .val (.double (FP.i2d ((p5.toUInt32 >>> ((1 : Int32) &&& 31).toUInt32).toInt32))), .second, rv b950, rv dx969, iv (1 : Int32), rv cx, rv dx966] [(.int (1 : Int32))]))
    refine own_st (fun _ k => XS.ifNo X978.here hx rfl (hb hby at_225) rfl ((if0 _ _).trans (feq (by decide : ¬ ((1 : Int32) = (0 : Int32)))).1) k) ?_
    show own_Fin p e below G (T978.setTop (mkF m 228 #[iv p1, iv p2, iv p3, iv p4, iv p5, iv nn, iv nd, iv oth, iv thr, rv sd948, rv sd949, .val (.double (FP.i2d p3)), .second, .val (.double (FP.i2d p4)), .second, .val (.double (FP.i2d p5)), .second, .val (.double (FP.i2d ((p5.toUInt32 >>> ((1 : Int32) &&& 31).toUInt32).toInt32))), .second, rv b950, rv dx969, iv (1 : Int32), rv cx, rv dx966] []))
    refine own_st (fun _ k => XS.aload X978.here hx rfl (hb hby at_228) rfl rfl k) ?_
    show own_Fin p e below G (T978.setTop (mkF m 230 #[iv p1, iv p2, iv p3, iv p4, iv p5, iv nn, iv nd, iv oth, iv thr, rv sd948, rv sd949, .val (.double (FP.i2d p3)), .second, .val (.double (FP.i2d p4)), .second, .val (.double (FP.i2d p5)), .second, .val (.double (FP.i2d ((p5.toUInt32 >>> ((1 : Int32) &&& 31).toUInt32).toInt32))), .second, rv b950, rv dx969, iv (1 : Int32), rv cx, rv dx966] [(.ref b950)]))
    refine own_st (fun _ k => XS.iload X978.here hx rfl (hb hby at_230) rfl  k) ?_
    show own_Fin p e below G (T978.setTop (mkF m 232 #[iv p1, iv p2, iv p3, iv p4, iv p5, iv nn, iv nd, iv oth, iv thr, rv sd948, rv sd949, .val (.double (FP.i2d p3)), .second, .val (.double (FP.i2d p4)), .second, .val (.double (FP.i2d p5)), .second, .val (.double (FP.i2d ((p5.toUInt32 >>> ((1 : Int32) &&& 31).toUInt32).toInt32))), .second, rv b950, rv dx969, iv (1 : Int32), rv cx, rv dx966] [(.int oth), (.ref b950)]))
    obtain ⟨cq979, kq979, q979a, q979b, q979c⟩ := isOf hZ e978 f975_3
    clear q979b
    obtain ⟨_, _, ⟨T979, L979, k979, n979⟩, -, X979, ⟨Lc979, hQ979, l979, y979, z979⟩, st979⟩ := X978.virtualBack hx (y := own_y14) (z := own_y14) hown (mvT hZ (own_w hw 128 rfl)) (mvT hZ (own_w hw 129 rfl)) (notFace_of_selects (args := #[]) (mvT hZ (own_w hw 131 rfl))) (mvT hZ (own_w hw 131 rfl)) (mvT hZ (own_w hw 130 rfl)) (by decide) (backOf (W := 0) (rm_gborder l Z a0 hw [] b950 oth bb kb (((List.replicate nn.toNatClampNeg .null).set oth.toNatClampNeg (.ref sd949)).set nd.toNatClampNeg (.ref sd948)) nn.toNatClampNeg ((.ref sd949)) T974.heap n0 (Nat.le_trans Z0 K976.1) f975_4 f975_8 (by simp) in_oth at_bb_oth rfl) hZ (own_w hw 132 rfl) (own_w hw 10 rfl) (by decide) (by decide)) q979a q979c (g := (mkF m 232 #[iv p1, iv p2, iv p3, iv p4, iv p5, iv nn, iv nd, iv oth, iv thr, rv sd948, rv sd949, .val (.double (FP.i2d p3)), .second, .val (.double (FP.i2d p4)), .second, .val (.double (FP.i2d p5)), .second, .val (.double (FP.i2d ((p5.toUInt32 >>> ((1 : Int32) &&& 31).toUInt32).toInt32))), .second, rv b950, rv dx969, iv (1 : Int32), rv cx, rv dx966] [(.int oth), (.ref b950)])) rfl (by rw [hml]; rfl) (Steps.refl _) (argsL := [(.int oth)]) (rest := []) (lenOf pd__I_Lcom_example_urania_urania_layered_FlowSide__422 rfl) rfl (by show 2 * 0 + _ ≤ _; exact Nat.le_of_eq rfl) (hb hby at_232) (fun _ _ => ⟨rfl, e978, (by decide : 17 + 0 ≤ _), (by decide : 59 + 0 ≤ _)⟩)
    clear X978 e978 q979a q979c
    dsimp only [Pt.U, Pt.locs, Pt.cells, Pt.slots] at X979 l979 y979 z979 st979 hQ979
    subst l979 y979 z979
    obtain ⟨rfl, N979q, e979⟩ := hQ979
    skip
    have N979 := Fr.app N978 N979q
    clear N978 N979q
    refine own_tr st979 ?_
    clear st979
    show own_Fin p e below G (T979.setTop (mkF m 235 #[iv p1, iv p2, iv p3, iv p4, iv p5, iv nn, iv nd, iv oth, iv thr, rv sd948, rv sd949, .val (.double (FP.i2d p3)), .second, .val (.double (FP.i2d p4)), .second, .val (.double (FP.i2d p5)), .second, .val (.double (FP.i2d ((p5.toUInt32 >>> ((1 : Int32) &&& 31).toUInt32).toInt32))), .second, rv b950, rv dx969, iv (1 : Int32), rv cx, rv dx966] [(.ref sd949)]))
    refine own_st (fun _ k => XS.aload X979.here hx rfl (hb hby at_235) rfl rfl k) ?_
    show own_Fin p e below G (T979.setTop (mkF m 237 #[iv p1, iv p2, iv p3, iv p4, iv p5, iv nn, iv nd, iv oth, iv thr, rv sd948, rv sd949, .val (.double (FP.i2d p3)), .second, .val (.double (FP.i2d p4)), .second, .val (.double (FP.i2d p5)), .second, .val (.double (FP.i2d ((p5.toUInt32 >>> ((1 : Int32) &&& 31).toUInt32).toInt32))), .second, rv b950, rv dx969, iv (1 : Int32), rv cx, rv dx966] [(.ref sd949), (.ref sd949)]))
    refine own_st (fun _ k => Jvm.RoadKit.acmp (g := (mkF m 237 #[iv p1, iv p2, iv p3, iv p4, iv p5, iv nn, iv nd, iv oth, iv thr, rv sd948, rv sd949, .val (.double (FP.i2d p3)), .second, .val (.double (FP.i2d p4)), .second, .val (.double (FP.i2d p5)), .second, .val (.double (FP.i2d ((p5.toUInt32 >>> ((1 : Int32) &&& 31).toUInt32).toInt32))), .second, rv b950, rv dx969, iv (1 : Int32), rv cx, rv dx966] [(.ref sd949), (.ref sd949)])) X979 hx rfl rfl rfl (pc0 := 237) (pc' := 240) (same := true) rfl (hb hby at_237) rfl (decide_eq_true rfl) (by decide) (by decide) k) ?_
    show own_Fin p e below G (T979.setTop (mkF m 240 #[iv p1, iv p2, iv p3, iv p4, iv p5, iv nn, iv nd, iv oth, iv thr, rv sd948, rv sd949, .val (.double (FP.i2d p3)), .second, .val (.double (FP.i2d p4)), .second, .val (.double (FP.i2d p5)), .second, .val (.double (FP.i2d ((p5.toUInt32 >>> ((1 : Int32) &&& 31).toUInt32).toInt32))), .second, rv b950, rv dx969, iv (1 : Int32), rv cx, rv dx966] []))
    refine own_st (fun _ k => XS.aload X979.here hx rfl (hb hby at_240) rfl rfl k) ?_
    show own_Fin p e below G (T979.setTop (mkF m 242 #[iv p1, iv p2, iv p3, iv p4, iv p5, iv nn, iv nd, iv oth, iv thr, rv sd948, rv sd949, .val (.double (FP.i2d p3)), .second, .val (.double (FP.i2d p4)), .second, .val (.double (FP.i2d p5)), .second, .val (.double (FP.i2d ((p5.toUInt32 >>> ((1 : Int32) &&& 31).toUInt32).toInt32))), .second, rv b950, rv dx969, iv (1 : Int32), rv cx, rv dx966] [(.ref dx966)]))
    refine own_st (fun _ k => XS.ifnullNo X979.here hx rfl (hb hby at_242) rfl k) ?_
    show own_Fin p e below G (T979.setTop (mkF m 245 #[iv p1, iv p2, iv p3, iv p4, iv p5, iv nn, iv nd, iv oth, iv thr, rv sd948, rv sd949, .val (.double (FP.i2d p3)), .second, .val (.double (FP.i2d p4)), .second, .val (.double (FP.i2d p5)), .second, .val (.double (FP.i2d ((p5.toUInt32 >>> ((1 : Int32) &&& 31).toUInt32).toInt32))), .second, rv b950, rv dx969, iv (1 : Int32), rv cx, rv dx966] []))
    refine own_st (fun _ k => XS.aload X979.here hx rfl (hb hby at_245) rfl rfl k) ?_
    show own_Fin p e below G (T979.setTop (mkF m 247 #[iv p1, iv p2, iv p3, iv p4, iv p5, iv nn, iv nd, iv oth, iv thr, rv sd948, rv sd949, .val (.double (FP.i2d p3)), .second, .val (.double (FP.i2d p4)), .second, .val (.double (FP.i2d p5)), .second, .val (.double (FP.i2d ((p5.toUInt32 >>> ((1 : Int32) &&& 31).toUInt32).toInt32))), .second, rv b950, rv dx969, iv (1 : Int32), rv cx, rv dx966] [(.ref dx966)]))
    refine own_st (fun _ k => own_len X979 hx hZ e979 f975_7 (z := (2 : Int32)) rfl (g := (mkF m 247 #[iv p1, iv p2, iv p3, iv p4, iv p5, iv nn, iv nd, iv oth, iv thr, rv sd948, rv sd949, .val (.double (FP.i2d p3)), .second, .val (.double (FP.i2d p4)), .second, .val (.double (FP.i2d p5)), .second, .val (.double (FP.i2d ((p5.toUInt32 >>> ((1 : Int32) &&& 31).toUInt32).toInt32))), .second, rv b950, rv dx969, iv (1 : Int32), rv cx, rv dx966] [(.ref dx966)])) rfl rfl (hb hby at_247) k) ?_
    show own_Fin p e below G (T979.setTop (mkF m 248 #[iv p1, iv p2, iv p3, iv p4, iv p5, iv nn, iv nd, iv oth, iv thr, rv sd948, rv sd949, .val (.double (FP.i2d p3)), .second, .val (.double (FP.i2d p4)), .second, .val (.double (FP.i2d p5)), .second, .val (.double (FP.i2d ((p5.toUInt32 >>> ((1 : Int32) &&& 31).toUInt32).toInt32))), .second, rv b950, rv dx969, iv (1 : Int32), rv cx, rv dx966] [(.int (2 : Int32))]))
    refine own_st (fun _ k => XS.iconst X979.here hx rfl (hb hby at_248) k) ?_
    show own_Fin p e below G (T979.setTop (mkF m 249 #[iv p1, iv p2, iv p3, iv p4, iv p5, iv nn, iv nd, iv oth, iv thr, rv sd948, rv sd949, .val (.double (FP.i2d p3)), .second, .val (.double (FP.i2d p4)), .second, .val (.double (FP.i2d p5)), .second, .val (.double (FP.i2d ((p5.toUInt32 >>> ((1 : Int32) &&& 31).toUInt32).toInt32))), .second, rv b950, rv dx969, iv (1 : Int32), rv cx, rv dx966] [(.int (2 : Int32)), (.int (2 : Int32))]))
    refine own_st (fun _ k => XS.icmpNo X979.here hx rfl (hb hby at_249) rfl (teq (by decide : ((2 : Int32) = (2 : Int32)))).2 k) ?_
    show own_Fin p e below G (T979.setTop (mkF m 252 #[iv p1, iv p2, iv p3, iv p4, iv p5, iv nn, iv nd, iv oth, iv thr, rv sd948, rv sd949, .val (.double (FP.i2d p3)), .second, .val (.double (FP.i2d p4)), .second, .val (.double (FP.i2d p5)), .second, .val (.double (FP.i2d ((p5.toUInt32 >>> ((1 : Int32) &&& 31).toUInt32).toInt32))), .second, rv b950, rv dx969, iv (1 : Int32), rv cx, rv dx966] []))
    refine own_st (fun _ k => XS.aload X979.here hx rfl (hb hby at_252) rfl rfl k) ?_
    show own_Fin p e below G (T979.setTop (mkF m 254 #[iv p1, iv p2, iv p3, iv p4, iv p5, iv nn, iv nd, iv oth, iv thr, rv sd948, rv sd949, .val (.double (FP.i2d p3)), .second, .val (.double (FP.i2d p4)), .second, .val (.double (FP.i2d p5)), .second, .val (.double (FP.i2d ((p5.toUInt32 >>> ((1 : Int32) &&& 31).toUInt32).toInt32))), .second, rv b950, rv dx969, iv (1 : Int32), rv cx, rv dx966] [(.ref dx966)]))
    refine own_st (fun _ k => XS.iconst X979.here hx rfl (hb hby at_254) k) ?_
    show own_Fin p e below G (T979.setTop (mkF m 255 #[iv p1, iv p2, iv p3, iv p4, iv p5, iv nn, iv nd, iv oth, iv thr, rv sd948, rv sd949, .val (.double (FP.i2d p3)), .second, .val (.double (FP.i2d p4)), .second, .val (.double (FP.i2d p5)), .second, .val (.double (FP.i2d ((p5.toUInt32 >>> ((1 : Int32) &&& 31).toUInt32).toInt32))), .second, rv b950, rv dx969, iv (1 : Int32), rv cx, rv dx966] [(.int (0 : Int32)), (.ref dx966)]))
    refine own_st (fun _ k => own_ldD X979 hx hZ e979 f975_7 (j := (0 : Int32)) (n := 2) rfl (by decide) (g := (mkF m 255 #[iv p1, iv p2, iv p3, iv p4, iv p5, iv nn, iv nd, iv oth, iv thr, rv sd948, rv sd949, .val (.double (FP.i2d p3)), .second, .val (.double (FP.i2d p4)), .second, .val (.double (FP.i2d p5)), .second, .val (.double (FP.i2d ((p5.toUInt32 >>> ((1 : Int32) &&& 31).toUInt32).toInt32))), .second, rv b950, rv dx969, iv (1 : Int32), rv cx, rv dx966] [(.int (0 : Int32)), (.ref dx966)])) rfl rfl (hb hby at_255) k) ?_
    show own_Fin p e below G (T979.setTop (mkF m 256 #[iv p1, iv p2, iv p3, iv p4, iv p5, iv nn, iv nd, iv oth, iv thr, rv sd948, rv sd949, .val (.double (FP.i2d p3)), .second, .val (.double (FP.i2d p4)), .second, .val (.double (FP.i2d p5)), .second, .val (.double (FP.i2d ((p5.toUInt32 >>> ((1 : Int32) &&& 31).toUInt32).toInt32))), .second, rv b950, rv dx969, iv (1 : Int32), rv cx, rv dx966] [(.double (FP.i2d p5))]))
    refine own_st (fun _ k => XS.dload X979.here hx rfl (hb hby at_256) rfl  k) ?_
    show own_Fin p e below G (T979.setTop (mkF m 258 #[iv p1, iv p2, iv p3, iv p4, iv p5, iv nn, iv nd, iv oth, iv thr, rv sd948, rv sd949, .val (.double (FP.i2d p3)), .second, .val (.double (FP.i2d p4)), .second, .val (.double (FP.i2d p5)), .second, .val (.double (FP.i2d ((p5.toUInt32 >>> ((1 : Int32) &&& 31).toUInt32).toInt32))), .second, rv b950, rv dx969, iv (1 : Int32), rv cx, rv dx966] [(.double (FP.i2d p5)), (.double (FP.i2d p5))]))
    refine own_st (fun _ k => XS.dcmpS X979.here hx rfl (hb hby at_258) rfl (v := (0 : Int32)) (dcmpV_self (own_nn _) _) k) ?_
    show own_Fin p e below G (T979.setTop (mkF m 259 #[iv p1, iv p2, iv p3, iv p4, iv p5, iv nn, iv nd, iv oth, iv thr, rv sd948, rv sd949, .val (.double (FP.i2d p3)), .second, .val (.double (FP.i2d p4)), .second, .val (.double (FP.i2d p5)), .second, .val (.double (FP.i2d ((p5.toUInt32 >>> ((1 : Int32) &&& 31).toUInt32).toInt32))), .second, rv b950, rv dx969, iv (1 : Int32), rv cx, rv dx966] [(.int (0 : Int32))]))
    refine own_st (fun _ k => XS.ifNo X979.here hx rfl (hb hby at_259) rfl ((if0 _ _).trans (teq (by decide : ((0 : Int32) = (0 : Int32)))).2) k) ?_
    show own_Fin p e below G (T979.setTop (mkF m 262 #[iv p1, iv p2, iv p3, iv p4, iv p5, iv nn, iv nd, iv oth, iv thr, rv sd948, rv sd949, .val (.double (FP.i2d p3)), .second, .val (.double (FP.i2d p4)), .second, .val (.double (FP.i2d p5)), .second, .val (.double (FP.i2d ((p5.toUInt32 >>> ((1 : Int32) &&& 31).toUInt32).toInt32))), .second, rv b950, rv dx969, iv (1 : Int32), rv cx, rv dx966] []))
    refine own_st (fun _ k => XS.aload X979.here hx rfl (hb hby at_262) rfl rfl k) ?_
    show own_Fin p e below G (T979.setTop (mkF m 264 #[iv p1, iv p2, iv p3, iv p4, iv p5, iv nn, iv nd, iv oth, iv thr, rv sd948, rv sd949, .val (.double (FP.i2d p3)), .second, .val (.double (FP.i2d p4)), .second, .val (.double (FP.i2d p5)), .second, .val (.double (FP.i2d ((p5.toUInt32 >>> ((1 : Int32) &&& 31).toUInt32).toInt32))), .second, rv b950, rv dx969, iv (1 : Int32), rv cx, rv dx966] [(.ref dx966)]))
    refine own_st (fun _ k => XS.iconst X979.here hx rfl (hb hby at_264) k) ?_
    show own_Fin p e below G (T979.setTop (mkF m 265 #[iv p1, iv p2, iv p3, iv p4, iv p5, iv nn, iv nd, iv oth, iv thr, rv sd948, rv sd949, .val (.double (FP.i2d p3)), .second, .val (.double (FP.i2d p4)), .second, .val (.double (FP.i2d p5)), .second, .val (.double (FP.i2d ((p5.toUInt32 >>> ((1 : Int32) &&& 31).toUInt32).toInt32))), .second, rv b950, rv dx969, iv (1 : Int32), rv cx, rv dx966] [(.int (1 : Int32)), (.ref dx966)]))
    refine own_st (fun _ k => own_ldD X979 hx hZ e979 f975_7 (j := (1 : Int32)) (n := 2) rfl (by decide) (g := (mkF m 265 #[iv p1, iv p2, iv p3, iv p4, iv p5, iv nn, iv nd, iv oth, iv thr, rv sd948, rv sd949, .val (.double (FP.i2d p3)), .second, .val (.double (FP.i2d p4)), .second, .val (.double (FP.i2d p5)), .second, .val (.double (FP.i2d ((p5.toUInt32 >>> ((1 : Int32) &&& 31).toUInt32).toInt32))), .second, rv b950, rv dx969, iv (1 : Int32), rv cx, rv dx966] [(.int (1 : Int32)), (.ref dx966)])) rfl rfl (hb hby at_265) k) ?_
    clear f975_7
    show own_Fin p e below G (T979.setTop (mkF m 266 #[iv p1, iv p2, iv p3, iv p4, iv p5, iv nn, iv nd, iv oth, iv thr, rv sd948, rv sd949, .val (.double (FP.i2d p3)), .second, .val (.double (FP.i2d p4)), .second, .val (.double (FP.i2d p5)), .second, .val (.double (FP.i2d ((p5.toUInt32 >>> ((1 : Int32) &&& 31).toUInt32).toInt32))), .second, rv b950, rv dx969, iv (1 : Int32), rv cx, rv dx966] [(.double (FP.i2d ((p5.toUInt32 >>> ((1 : Int32) &&& 31).toUInt32).toInt32)))]))
    refine own_st (fun _ k => XS.dload X979.here hx rfl (hb hby at_266) rfl  k) ?_
    show own_Fin p e below G (T979.setTop (mkF m 268 #[iv p1, iv p2, iv p3, iv p4, iv p5, iv nn, iv nd, iv oth, iv thr, rv sd948, rv sd949, .val (.double (FP.i2d p3)), .second, .val (.double (FP.i2d p4)), .second, .val (.double (FP.i2d p5)), .second, .val (.double (FP.i2d ((p5.toUInt32 >>> ((1 : Int32) &&& 31).toUInt32).toInt32))), .second, rv b950, rv dx969, iv (1 : Int32), rv cx, rv dx966] [(.double (FP.i2d ((p5.toUInt32 >>> ((1 : Int32) &&& 31).toUInt32).toInt32))), (.double (FP.i2d ((p5.toUInt32 >>> ((1 : Int32) &&& 31).toUInt32).toInt32)))]))
    refine own_st (fun _ k => XS.dcmpS X979.here hx rfl (hb hby at_268) rfl (v := (0 : Int32)) (dcmpV_self (own_nn _) _) k) ?_
    show own_Fin p e below G (T979.setTop (mkF m 269 #[iv p1, iv p2, iv p3, iv p4, iv p5, iv nn, iv nd, iv oth, iv thr, rv sd948, rv sd949, .val (.double (FP.i2d p3)), .second, .val (.double (FP.i2d p4)), .second, .val (.double (FP.i2d p5)), .second, .val (.double (FP.i2d ((p5.toUInt32 >>> ((1 : Int32) &&& 31).toUInt32).toInt32))), .second, rv b950, rv dx969, iv (1 : Int32), rv cx, rv dx966] [(.int (0 : Int32))]))
    refine own_st (fun _ k => XS.ifNo X979.here hx rfl (hb hby at_269) rfl ((if0 _ _).trans (teq (by decide : ((0 : Int32) = (0 : Int32)))).2) k) ?_
    show own_Fin p e below G (T979.setTop (mkF m 272 #[iv p1, iv p2, iv p3, iv p4, iv p5, iv nn, iv nd, iv oth, iv thr, rv sd948, rv sd949, .val (.double (FP.i2d p3)), .second, .val (.double (FP.i2d p4)), .second, .val (.double (FP.i2d p5)), .second, .val (.double (FP.i2d ((p5.toUInt32 >>> ((1 : Int32) &&& 31).toUInt32).toInt32))), .second, rv b950, rv dx969, iv (1 : Int32), rv cx, rv dx966] []))
    refine own_st (fun _ k => XS.aload X979.here hx rfl (hb hby at_272) rfl rfl k) ?_
    show own_Fin p e below G (T979.setTop (mkF m 274 #[iv p1, iv p2, iv p3, iv p4, iv p5, iv nn, iv nd, iv oth, iv thr, rv sd948, rv sd949, .val (.double (FP.i2d p3)), .second, .val (.double (FP.i2d p4)), .second, .val (.double (FP.i2d p5)), .second, .val (.double (FP.i2d ((p5.toUInt32 >>> ((1 : Int32) &&& 31).toUInt32).toInt32))), .second, rv b950, rv dx969, iv (1 : Int32), rv cx, rv dx966] [(.ref cx)]))
    refine own_st (fun _ k => XS.iload X979.here hx rfl (hb hby at_274) rfl  k) ?_
    show own_Fin p e below G (T979.setTop (mkF m 276 #[iv p1, iv p2, iv p3, iv p4, iv p5, iv nn, iv nd, iv oth, iv thr, rv sd948, rv sd949, .val (.double (FP.i2d p3)), .second, .val (.double (FP.i2d p4)), .second, .val (.double (FP.i2d p5)), .second, .val (.double (FP.i2d ((p5.toUInt32 >>> ((1 : Int32) &&& 31).toUInt32).toInt32))), .second, rv b950, rv dx969, iv (1 : Int32), rv cx, rv dx966] [(.int oth), (.ref cx)]))
    refine own_st (fun _ k => own_ldR X979 hx hZ e979 gBc (j := oth) (n := nn.toNatClampNeg) (by simp) in_oth rfl (v := (.ref sd949)) at_bb_oth (g := (mkF m 276 #[iv p1, iv p2, iv p3, iv p4, iv p5, iv nn, iv nd, iv oth, iv thr, rv sd948, rv sd949, .val (.double (FP.i2d p3)), .second, .val (.double (FP.i2d p4)), .second, .val (.double (FP.i2d p5)), .second, .val (.double (FP.i2d ((p5.toUInt32 >>> ((1 : Int32) &&& 31).toUInt32).toInt32))), .second, rv b950, rv dx969, iv (1 : Int32), rv cx, rv dx966] [(.int oth), (.ref cx)])) rfl rfl (hb hby at_276) k) ?_
    show own_Fin p e below G (T979.setTop (mkF m 277 #[iv p1, iv p2, iv p3, iv p4, iv p5, iv nn, iv nd, iv oth, iv thr, rv sd948, rv sd949, .val (.double (FP.i2d p3)), .second, .val (.double (FP.i2d p4)), .second, .val (.double (FP.i2d p5)), .second, .val (.double (FP.i2d ((p5.toUInt32 >>> ((1 : Int32) &&& 31).toUInt32).toInt32))), .second, rv b950, rv dx969, iv (1 : Int32), rv cx, rv dx966] [(.ref sd949)]))
    refine own_st (fun _ k => XS.aload X979.here hx rfl (hb hby at_277) rfl rfl k) ?_
    show own_Fin p e below G (T979.setTop (mkF m 279 #[iv p1, iv p2, iv p3, iv p4, iv p5, iv nn, iv nd, iv oth, iv thr, rv sd948, rv sd949, .val (.double (FP.i2d p3)), .second, .val (.double (FP.i2d p4)), .second, .val (.double (FP.i2d p5)), .second, .val (.double (FP.i2d ((p5.toUInt32 >>> ((1 : Int32) &&& 31).toUInt32).toInt32))), .second, rv b950, rv dx969, iv (1 : Int32), rv cx, rv dx966] [(.ref sd949), (.ref sd949)]))
    refine own_st (fun _ k => Jvm.RoadKit.acmp (g := (mkF m 279 #[iv p1, iv p2, iv p3, iv p4, iv p5, iv nn, iv nd, iv oth, iv thr, rv sd948, rv sd949, .val (.double (FP.i2d p3)), .second, .val (.double (FP.i2d p4)), .second, .val (.double (FP.i2d p5)), .second, .val (.double (FP.i2d ((p5.toUInt32 >>> ((1 : Int32) &&& 31).toUInt32).toInt32))), .second, rv b950, rv dx969, iv (1 : Int32), rv cx, rv dx966] [(.ref sd949), (.ref sd949)])) X979 hx rfl rfl rfl (pc0 := 279) (pc' := 282) (same := true) rfl (hb hby at_279) rfl (decide_eq_true rfl) (by decide) (by decide) k) ?_
    show own_Fin p e below G (T979.setTop (mkF m 282 #[iv p1, iv p2, iv p3, iv p4, iv p5, iv nn, iv nd, iv oth, iv thr, rv sd948, rv sd949, .val (.double (FP.i2d p3)), .second, .val (.double (FP.i2d p4)), .second, .val (.double (FP.i2d p5)), .second, .val (.double (FP.i2d ((p5.toUInt32 >>> ((1 : Int32) &&& 31).toUInt32).toInt32))), .second, rv b950, rv dx969, iv (1 : Int32), rv cx, rv dx966] []))
    refine own_st (fun _ k => XS.iconst X979.here hx rfl (hb hby at_282) k) ?_
    show own_Fin p e below G (T979.setTop (mkF m 283 #[iv p1, iv p2, iv p3, iv p4, iv p5, iv nn, iv nd, iv oth, iv thr, rv sd948, rv sd949, .val (.double (FP.i2d p3)), .second, .val (.double (FP.i2d p4)), .second, .val (.double (FP.i2d p5)), .second, .val (.double (FP.i2d ((p5.toUInt32 >>> ((1 : Int32) &&& 31).toUInt32).toInt32))), .second, rv b950, rv dx969, iv (1 : Int32), rv cx, rv dx966] [(.int (1 : Int32))]))
    refine own_st (fun _ k => XS.goto X979.here hx rfl (pc0 := 283) (pc' := 287) rfl (hb hby at_283) (by decide) (by decide) k) ?_
    show own_Fin p e below G (T979.setTop (mkF m 287 #[iv p1, iv p2, iv p3, iv p4, iv p5, iv nn, iv nd, iv oth, iv thr, rv sd948, rv sd949, .val (.double (FP.i2d p3)), .second, .val (.double (FP.i2d p4)), .second, .val (.double (FP.i2d p5)), .second, .val (.double (FP.i2d ((p5.toUInt32 >>> ((1 : Int32) &&& 31).toUInt32).toInt32))), .second, rv b950, rv dx969, iv (1 : Int32), rv cx, rv dx966] [(.int (1 : Int32))]))
    refine own_st (fun _ k => XS.istore X979.here hx rfl (hb hby at_287) rfl (l' := #[iv p1, iv p2, iv p3, iv p4, iv p5, iv nn, iv nd, iv oth, iv thr, rv sd948, rv sd949, .val (.double (FP.i2d p3)), .second, .val (.double (FP.i2d p4)), .second, .val (.double (FP.i2d p5)), .second, .val (.double (FP.i2d ((p5.toUInt32 >>> ((1 : Int32) &&& 31).toUInt32).toInt32))), .second, rv b950, rv dx969, iv (1 : Int32), rv cx, rv dx966]) rfl k) ?_
    show own_Fin p e below G (T979.setTop (mkF m 289 #[iv p1, iv p2, iv p3, iv p4, iv p5, iv nn, iv nd, iv oth, iv thr, rv sd948, rv sd949, .val (.double (FP.i2d p3)), .second, .val (.double (FP.i2d p4)), .second, .val (.double (FP.i2d p5)), .second, .val (.double (FP.i2d ((p5.toUInt32 >>> ((1 : Int32) &&& 31).toUInt32).toInt32))), .second, rv b950, rv dx969, iv (1 : Int32), rv cx, rv dx966] []))
    refine own_st (fun _ k => XS.iload X979.here hx rfl (hb hby at_289) rfl  k) ?_
    show own_Fin p e below G (T979.setTop (mkF m 291 #[iv p1, iv p2, iv p3, iv p4, iv p5, iv nn, iv nd, iv oth, iv thr, rv sd948, rv sd949, .val (.double (FP.i2d p3)), .second, .val (.double (FP.i2d p4)), .second, .val (.double (FP.i2d p5)), .second, .val (.double (FP.i2d ((p5.toUInt32 >>> ((1 : Int32) &&& 31).toUInt32).toInt32))), .second, rv b950, rv dx969, iv (1 : Int32), rv cx, rv dx966] [(.int nn)]))
    refine own_st (fun _ k => XS.iconst X979.here hx rfl (hb hby at_291) k) ?_
    show own_Fin p e below G (T979.setTop (mkF m 292 #[iv p1, iv p2, iv p3, iv p4, iv p5, iv nn, iv nd, iv oth, iv thr, rv sd948, rv sd949, .val (.double (FP.i2d p3)), .second, .val (.double (FP.i2d p4)), .second, .val (.double (FP.i2d p5)), .second, .val (.double (FP.i2d ((p5.toUInt32 >>> ((1 : Int32) &&& 31).toUInt32).toInt32))), .second, rv b950, rv dx969, iv (1 : Int32), rv cx, rv dx966] [(.int (3 : Int32)), (.int nn)]))
    by_cases hc292_980 : nn < (3 : Int32)
    · refine own_st (fun _ k => XS.icmpYes X979.here hx rfl (pc0 := 292) (pc' := 335) rfl (hb hby at_292) rfl (tlt hc292_980).1 (by decide) (by decide) k) ?_
      show own_Fin p e below G (T979.setTop (mkF m 335 #[iv p1, iv p2, iv p3, iv p4, iv p5, iv nn, iv nd, iv oth, iv thr, rv sd948, rv sd949, .val (.double (FP.i2d p3)), .second, .val (.double (FP.i2d p4)), .second, .val (.double (FP.i2d p5)), .second, .val (.double (FP.i2d ((p5.toUInt32 >>> ((1 : Int32) &&& 31).toUInt32).toInt32))), .second, rv b950, rv dx969, iv (1 : Int32), rv cx, rv dx966] []))
      refine own_st (fun _ k => XS.iload X979.here hx rfl (hb hby at_335) rfl  k) ?_
      show own_Fin p e below G (T979.setTop (mkF m 337 #[iv p1, iv p2, iv p3, iv p4, iv p5, iv nn, iv nd, iv oth, iv thr, rv sd948, rv sd949, .val (.double (FP.i2d p3)), .second, .val (.double (FP.i2d p4)), .second, .val (.double (FP.i2d p5)), .second, .val (.double (FP.i2d ((p5.toUInt32 >>> ((1 : Int32) &&& 31).toUInt32).toInt32))), .second, rv b950, rv dx969, iv (1 : Int32), rv cx, rv dx966] [(.int (1 : Int32))]))
      refine own_out X979 Bd.notSynchronized (v := (some (.int (1 : Int32)))) (fun h => by rw [Bd.returns] at h; cases h) hG (fun fs hr => retN X979 hx (t := .boolean) Bd.returns (by simp) (hb hby at_337) hr) (by decide) (by decide) ?_
      exact ⟨rfl, N979⟩
    · refine own_st (fun _ k => XS.icmpNo X979.here hx rfl (hb hby at_292) rfl (flt hc292_980).1 k) ?_
      show own_Fin p e below G (T979.setTop (mkF m 295 #[iv p1, iv p2, iv p3, iv p4, iv p5, iv nn, iv nd, iv oth, iv thr, rv sd948, rv sd949, .val (.double (FP.i2d p3)), .second, .val (.double (FP.i2d p4)), .second, .val (.double (FP.i2d p5)), .second, .val (.double (FP.i2d ((p5.toUInt32 >>> ((1 : Int32) &&& 31).toUInt32).toInt32))), .second, rv b950, rv dx969, iv (1 : Int32), rv cx, rv dx966] []))
      have qn3 := ne3 hc292_980
      have at_bb_thr := own_at3 (n := nn.toNatClampNeg) (v := .ref sd948) (w := .ref sd949) in_nd in_oth in_thr qn3.1 qn3.2
      have at_bp_thr := own_at3 (n := nn.toNatClampNeg) (v := .ref dx969) (w := .ref dx966) in_nd in_oth in_thr qn3.1 qn3.2
      refine own_st (fun _ k => XS.iload X979.here hx rfl (hb hby at_295) rfl  k) ?_
      show own_Fin p e below G (T979.setTop (mkF m 297 #[iv p1, iv p2, iv p3, iv p4, iv p5, iv nn, iv nd, iv oth, iv thr, rv sd948, rv sd949, .val (.double (FP.i2d p3)), .second, .val (.double (FP.i2d p4)), .second, .val (.double (FP.i2d p5)), .second, .val (.double (FP.i2d ((p5.toUInt32 >>> ((1 : Int32) &&& 31).toUInt32).toInt32))), .second, rv b950, rv dx969, iv (1 : Int32), rv cx, rv dx966] [(.int (1 : Int32))]))
      refine own_st (fun _ k => XS.ifNo X979.here hx rfl (hb hby at_297) rfl ((if0 _ _).trans (feq (by decide : ¬ ((1 : Int32) = (0 : Int32)))).1) k) ?_
      show own_Fin p e below G (T979.setTop (mkF m 300 #[iv p1, iv p2, iv p3, iv p4, iv p5, iv nn, iv nd, iv oth, iv thr, rv sd948, rv sd949, .val (.double (FP.i2d p3)), .second, .val (.double (FP.i2d p4)), .second, .val (.double (FP.i2d p5)), .second, .val (.double (FP.i2d ((p5.toUInt32 >>> ((1 : Int32) &&& 31).toUInt32).toInt32))), .second, rv b950, rv dx969, iv (1 : Int32), rv cx, rv dx966] []))
      refine own_st (fun _ k => XS.aload X979.here hx rfl (hb hby at_300) rfl rfl k) ?_
      show own_Fin p e below G (T979.setTop (mkF m 302 #[iv p1, iv p2, iv p3, iv p4, iv p5, iv nn, iv nd, iv oth, iv thr, rv sd948, rv sd949, .val (.double (FP.i2d p3)), .second, .val (.double (FP.i2d p4)), .second, .val (.double (FP.i2d p5)), .second, .val (.double (FP.i2d ((p5.toUInt32 >>> ((1 : Int32) &&& 31).toUInt32).toInt32))), .second, rv b950, rv dx969, iv (1 : Int32), rv cx, rv dx966] [(.ref b950)]))
      refine own_st (fun _ k => XS.iload X979.here hx rfl (hb hby at_302) rfl  k) ?_
      show own_Fin p e below G (T979.setTop (mkF m 304 #[iv p1, iv p2, iv p3, iv p4, iv p5, iv nn, iv nd, iv oth, iv thr, rv sd948, rv sd949, .val (.double (FP.i2d p3)), .second, .val (.double (FP.i2d p4)), .second, .val (.double (FP.i2d p5)), .second, .val (.double (FP.i2d ((p5.toUInt32 >>> ((1 : Int32) &&& 31).toUInt32).toInt32))), .second, rv b950, rv dx969, iv (1 : Int32), rv cx, rv dx966] [(.int thr), (.ref b950)]))
      obtain ⟨cq981, kq981, q981a, q981b, q981c⟩ := isOf hZ e979 f975_3
      clear q981b
      obtain ⟨_, _, ⟨T981, L981, k981, n981⟩, -, X981, ⟨Lc981, hQ981, l981, y981, z981⟩, st981⟩ := X979.virtualBack hx (y := own_y14) (z := own_y14) hown (mvT hZ (own_w hw 128 rfl)) (mvT hZ (own_w hw 129 rfl)) (notFace_of_selects (args := #[]) (mvT hZ (own_w hw 131 rfl))) (mvT hZ (own_w hw 131 rfl)) (mvT hZ (own_w hw 130 rfl)) (by decide) (backOf (W := 0) (rm_gborder l Z a0 hw [] b950 thr bb kb (((List.replicate nn.toNatClampNeg .null).set oth.toNatClampNeg (.ref sd949)).set nd.toNatClampNeg (.ref sd948)) nn.toNatClampNeg (.null) T974.heap n0 (Nat.le_trans Z0 K976.1) f975_4 f975_8 (by simp) in_thr at_bb_thr rfl) hZ (own_w hw 132 rfl) (own_w hw 10 rfl) (by decide) (by decide)) q981a q981c (g := (mkF m 304 #[iv p1, iv p2, iv p3, iv p4, iv p5, iv nn, iv nd, iv oth, iv thr, rv sd948, rv sd949, .val (.double (FP.i2d p3)), .second, .val (.double (FP.i2d p4)), .second, .val (.double (FP.i2d p5)), .second, .val (.double (FP.i2d ((p5.toUInt32 >>> ((1 : Int32) &&& 31).toUInt32).toInt32))), .second, rv b950, rv dx969, iv (1 : Int32), rv cx, rv dx966] [(.int thr), (.ref b950)])) rfl (by rw [hml]; rfl) (Steps.refl _) (argsL := [(.int thr)]) (rest := []) (lenOf pd__I_Lcom_example_urania_urania_layered_FlowSide__422 rfl) rfl (by show 2 * 0 + _ ≤ _; exact Nat.le_of_eq rfl) (hb hby at_304) (fun _ _ => ⟨rfl, e979, (by decide : 17 + 0 ≤ _), (by decide : 59 + 0 ≤ _)⟩)
      clear f975_4 f975_8 X979 e979 q981a q981c
      dsimp only [Pt.U, Pt.locs, Pt.cells, Pt.slots] at X981 l981 y981 z981 st981 hQ981
      subst l981 y981 z981
      obtain ⟨rfl, N981q, e981⟩ := hQ981
      skip
      have N981 := Fr.app N979 N981q
      clear N979 N981q
      refine own_tr st981 ?_
      clear st981
      show own_Fin p e below G (T981.setTop (mkF m 307 #[iv p1, iv p2, iv p3, iv p4, iv p5, iv nn, iv nd, iv oth, iv thr, rv sd948, rv sd949, .val (.double (FP.i2d p3)), .second, .val (.double (FP.i2d p4)), .second, .val (.double (FP.i2d p5)), .second, .val (.double (FP.i2d ((p5.toUInt32 >>> ((1 : Int32) &&& 31).toUInt32).toInt32))), .second, rv b950, rv dx969, iv (1 : Int32), rv cx, rv dx966] [.null]))
      refine own_st (fun _ k => XS.ifnonnullNo X981.here hx rfl (hb hby at_307) rfl k) ?_
      show own_Fin p e below G (T981.setTop (mkF m 310 #[iv p1, iv p2, iv p3, iv p4, iv p5, iv nn, iv nd, iv oth, iv thr, rv sd948, rv sd949, .val (.double (FP.i2d p3)), .second, .val (.double (FP.i2d p4)), .second, .val (.double (FP.i2d p5)), .second, .val (.double (FP.i2d ((p5.toUInt32 >>> ((1 : Int32) &&& 31).toUInt32).toInt32))), .second, rv b950, rv dx969, iv (1 : Int32), rv cx, rv dx966] []))
      refine own_st (fun _ k => XS.aload X981.here hx rfl (hb hby at_310) rfl rfl k) ?_
      show own_Fin p e below G (T981.setTop (mkF m 312 #[iv p1, iv p2, iv p3, iv p4, iv p5, iv nn, iv nd, iv oth, iv thr, rv sd948, rv sd949, .val (.double (FP.i2d p3)), .second, .val (.double (FP.i2d p4)), .second, .val (.double (FP.i2d p5)), .second, .val (.double (FP.i2d ((p5.toUInt32 >>> ((1 : Int32) &&& 31).toUInt32).toInt32))), .second, rv b950, rv dx969, iv (1 : Int32), rv cx, rv dx966] [(.ref b950)]))
      refine own_st (fun _ k => XS.iload X981.here hx rfl (hb hby at_312) rfl  k) ?_
      show own_Fin p e below G (T981.setTop (mkF m 314 #[iv p1, iv p2, iv p3, iv p4, iv p5, iv nn, iv nd, iv oth, iv thr, rv sd948, rv sd949, .val (.double (FP.i2d p3)), .second, .val (.double (FP.i2d p4)), .second, .val (.double (FP.i2d p5)), .second, .val (.double (FP.i2d ((p5.toUInt32 >>> ((1 : Int32) &&& 31).toUInt32).toInt32))), .second, rv b950, rv dx969, iv (1 : Int32), rv cx, rv dx966] [(.int thr), (.ref b950)]))
      obtain ⟨cq982, kq982, q982a, q982b, q982c⟩ := isOf hZ e981 f975_3
      clear f975_3 q982b
      obtain ⟨_, _, ⟨T982, L982, k982, n982⟩, -, X982, ⟨Lc982, hQ982, l982, y982, z982⟩, st982⟩ := X981.virtualBack hx (y := own_y15) (z := own_y15) hown (mvT hZ (own_w hw 123 rfl)) (mvT hZ (own_w hw 124 rfl)) (notFace_of_selects (args := #[]) (mvT hZ (own_w hw 126 rfl))) (mvT hZ (own_w hw 126 rfl)) (mvT hZ (own_w hw 125 rfl)) (by decide) (backOf (W := 0) (rm_gborderPort l Z a0 hw [] b950 thr bp kp (((List.replicate nn.toNatClampNeg .null).set oth.toNatClampNeg (.ref dx966)).set nd.toNatClampNeg (.ref dx969)) nn.toNatClampNeg (.null) T974.heap n0 (Nat.le_trans Z0 K976.1) f975_5 f975_9 (by simp) in_thr at_bp_thr rfl) hZ (own_w hw 127 rfl) (own_w hw 10 rfl) (by decide) (by decide)) q982a q982c (g := (mkF m 314 #[iv p1, iv p2, iv p3, iv p4, iv p5, iv nn, iv nd, iv oth, iv thr, rv sd948, rv sd949, .val (.double (FP.i2d p3)), .second, .val (.double (FP.i2d p4)), .second, .val (.double (FP.i2d p5)), .second, .val (.double (FP.i2d ((p5.toUInt32 >>> ((1 : Int32) &&& 31).toUInt32).toInt32))), .second, rv b950, rv dx969, iv (1 : Int32), rv cx, rv dx966] [(.int thr), (.ref b950)])) rfl (by rw [hml]; rfl) (Steps.refl _) (argsL := [(.int thr)]) (rest := []) (lenOf pd__I__D_313 rfl) rfl (by show 2 * 0 + _ ≤ _; exact Nat.le_of_eq rfl) (hb hby at_314) (fun _ _ => ⟨rfl, e981, (by decide : 17 + 0 ≤ _), (by decide : 59 + 0 ≤ _)⟩)
      clear f975_5 f975_9 K976 X981 e981 q982a q982c
      dsimp only [Pt.U, Pt.locs, Pt.cells, Pt.slots] at X982 l982 y982 z982 st982 hQ982
      subst l982 y982 z982
      obtain ⟨rfl, N982q, e982⟩ := hQ982
      skip
      have N982 := Fr.app N981 N982q
      clear N981 N982q
      refine own_tr st982 ?_
      clear st982
      show own_Fin p e below G (T982.setTop (mkF m 317 #[iv p1, iv p2, iv p3, iv p4, iv p5, iv nn, iv nd, iv oth, iv thr, rv sd948, rv sd949, .val (.double (FP.i2d p3)), .second, .val (.double (FP.i2d p4)), .second, .val (.double (FP.i2d p5)), .second, .val (.double (FP.i2d ((p5.toUInt32 >>> ((1 : Int32) &&& 31).toUInt32).toInt32))), .second, rv b950, rv dx969, iv (1 : Int32), rv cx, rv dx966] [.null]))
      refine own_st (fun _ k => XS.ifnonnullNo X982.here hx rfl (hb hby at_317) rfl k) ?_
      show own_Fin p e below G (T982.setTop (mkF m 320 #[iv p1, iv p2, iv p3, iv p4, iv p5, iv nn, iv nd, iv oth, iv thr, rv sd948, rv sd949, .val (.double (FP.i2d p3)), .second, .val (.double (FP.i2d p4)), .second, .val (.double (FP.i2d p5)), .second, .val (.double (FP.i2d ((p5.toUInt32 >>> ((1 : Int32) &&& 31).toUInt32).toInt32))), .second, rv b950, rv dx969, iv (1 : Int32), rv cx, rv dx966] []))
      refine own_st (fun _ k => XS.aload X982.here hx rfl (hb hby at_320) rfl rfl k) ?_
      show own_Fin p e below G (T982.setTop (mkF m 322 #[iv p1, iv p2, iv p3, iv p4, iv p5, iv nn, iv nd, iv oth, iv thr, rv sd948, rv sd949, .val (.double (FP.i2d p3)), .second, .val (.double (FP.i2d p4)), .second, .val (.double (FP.i2d p5)), .second, .val (.double (FP.i2d ((p5.toUInt32 >>> ((1 : Int32) &&& 31).toUInt32).toInt32))), .second, rv b950, rv dx969, iv (1 : Int32), rv cx, rv dx966] [(.ref cx)]))
      refine own_st (fun _ k => XS.iload X982.here hx rfl (hb hby at_322) rfl  k) ?_
      show own_Fin p e below G (T982.setTop (mkF m 324 #[iv p1, iv p2, iv p3, iv p4, iv p5, iv nn, iv nd, iv oth, iv thr, rv sd948, rv sd949, .val (.double (FP.i2d p3)), .second, .val (.double (FP.i2d p4)), .second, .val (.double (FP.i2d p5)), .second, .val (.double (FP.i2d ((p5.toUInt32 >>> ((1 : Int32) &&& 31).toUInt32).toInt32))), .second, rv b950, rv dx969, iv (1 : Int32), rv cx, rv dx966] [(.int thr), (.ref cx)]))
      refine own_st (fun _ k => own_ldR X982 hx hZ e982 gBc (j := thr) (n := nn.toNatClampNeg) (by simp) in_thr rfl (v := .null) at_bb_thr (g := (mkF m 324 #[iv p1, iv p2, iv p3, iv p4, iv p5, iv nn, iv nd, iv oth, iv thr, rv sd948, rv sd949, .val (.double (FP.i2d p3)), .second, .val (.double (FP.i2d p4)), .second, .val (.double (FP.i2d p5)), .second, .val (.double (FP.i2d ((p5.toUInt32 >>> ((1 : Int32) &&& 31).toUInt32).toInt32))), .second, rv b950, rv dx969, iv (1 : Int32), rv cx, rv dx966] [(.int thr), (.ref cx)])) rfl rfl (hb hby at_324) k) ?_
      clear e982
      show own_Fin p e below G (T982.setTop (mkF m 325 #[iv p1, iv p2, iv p3, iv p4, iv p5, iv nn, iv nd, iv oth, iv thr, rv sd948, rv sd949, .val (.double (FP.i2d p3)), .second, .val (.double (FP.i2d p4)), .second, .val (.double (FP.i2d p5)), .second, .val (.double (FP.i2d ((p5.toUInt32 >>> ((1 : Int32) &&& 31).toUInt32).toInt32))), .second, rv b950, rv dx969, iv (1 : Int32), rv cx, rv dx966] [.null]))
      refine own_st (fun _ k => XS.ifnonnullNo X982.here hx rfl (hb hby at_325) rfl k) ?_
      show own_Fin p e below G (T982.setTop (mkF m 328 #[iv p1, iv p2, iv p3, iv p4, iv p5, iv nn, iv nd, iv oth, iv thr, rv sd948, rv sd949, .val (.double (FP.i2d p3)), .second, .val (.double (FP.i2d p4)), .second, .val (.double (FP.i2d p5)), .second, .val (.double (FP.i2d ((p5.toUInt32 >>> ((1 : Int32) &&& 31).toUInt32).toInt32))), .second, rv b950, rv dx969, iv (1 : Int32), rv cx, rv dx966] []))
      refine own_st (fun _ k => XS.iconst X982.here hx rfl (hb hby at_328) k) ?_
      show own_Fin p e below G (T982.setTop (mkF m 329 #[iv p1, iv p2, iv p3, iv p4, iv p5, iv nn, iv nd, iv oth, iv thr, rv sd948, rv sd949, .val (.double (FP.i2d p3)), .second, .val (.double (FP.i2d p4)), .second, .val (.double (FP.i2d p5)), .second, .val (.double (FP.i2d ((p5.toUInt32 >>> ((1 : Int32) &&& 31).toUInt32).toInt32))), .second, rv b950, rv dx969, iv (1 : Int32), rv cx, rv dx966] [(.int (1 : Int32))]))
      refine own_st (fun _ k => XS.goto X982.here hx rfl (pc0 := 329) (pc' := 333) rfl (hb hby at_329) (by decide) (by decide) k) ?_
      show own_Fin p e below G (T982.setTop (mkF m 333 #[iv p1, iv p2, iv p3, iv p4, iv p5, iv nn, iv nd, iv oth, iv thr, rv sd948, rv sd949, .val (.double (FP.i2d p3)), .second, .val (.double (FP.i2d p4)), .second, .val (.double (FP.i2d p5)), .second, .val (.double (FP.i2d ((p5.toUInt32 >>> ((1 : Int32) &&& 31).toUInt32).toInt32))), .second, rv b950, rv dx969, iv (1 : Int32), rv cx, rv dx966] [(.int (1 : Int32))]))
      refine own_st (fun _ k => XS.istore X982.here hx rfl (hb hby at_333) rfl (l' := #[iv p1, iv p2, iv p3, iv p4, iv p5, iv nn, iv nd, iv oth, iv thr, rv sd948, rv sd949, .val (.double (FP.i2d p3)), .second, .val (.double (FP.i2d p4)), .second, .val (.double (FP.i2d p5)), .second, .val (.double (FP.i2d ((p5.toUInt32 >>> ((1 : Int32) &&& 31).toUInt32).toInt32))), .second, rv b950, rv dx969, iv (1 : Int32), rv cx, rv dx966]) rfl k) ?_
      show own_Fin p e below G (T982.setTop (mkF m 335 #[iv p1, iv p2, iv p3, iv p4, iv p5, iv nn, iv nd, iv oth, iv thr, rv sd948, rv sd949, .val (.double (FP.i2d p3)), .second, .val (.double (FP.i2d p4)), .second, .val (.double (FP.i2d p5)), .second, .val (.double (FP.i2d ((p5.toUInt32 >>> ((1 : Int32) &&& 31).toUInt32).toInt32))), .second, rv b950, rv dx969, iv (1 : Int32), rv cx, rv dx966] []))
      refine own_st (fun _ k => XS.iload X982.here hx rfl (hb hby at_335) rfl  k) ?_
      show own_Fin p e below G (T982.setTop (mkF m 337 #[iv p1, iv p2, iv p3, iv p4, iv p5, iv nn, iv nd, iv oth, iv thr, rv sd948, rv sd949, .val (.double (FP.i2d p3)), .second, .val (.double (FP.i2d p4)), .second, .val (.double (FP.i2d p5)), .second, .val (.double (FP.i2d ((p5.toUInt32 >>> ((1 : Int32) &&& 31).toUInt32).toInt32))), .second, rv b950, rv dx969, iv (1 : Int32), rv cx, rv dx966] [(.int (1 : Int32))]))
      refine own_out X982 Bd.notSynchronized (v := (some (.int (1 : Int32)))) (fun h => by rw [Bd.returns] at h; cases h) hG (fun fs hr => retN X982 hx (t := .boolean) Bd.returns (by simp) (hb hby at_337) hr) (by decide) (by decide) ?_
      exact ⟨rfl, N982⟩

set_option maxRecDepth 65536 in
set_option maxHeartbeats 40000000 in
theorem comes_1 {Post : Tables → Env → Array Value → State → Outcome → State → Prop} (hpost : ∀ tb e args s v u, (limb_1_1.after args s (.returned v) u = true ∧ limb_1_2.after args s (.returned v) u = true ∧ True) → FrameEnd s (.returned v) u (Jvm.fieldLocs frame_1_writes args s ++ Jvm.arrayLocs frame_1_arrays args s ++ Jvm.staticLocs frame_1_statics s) 48 192 → Post tb e args s (.returned v) u) :
    ArmFor flags0 classFile x code maxLocals ret World_1 tables_1 room_1 Calls_1 rest_1 Pre_1 Post := by
  intro l hfl _ _ p e ha hc hk s m args below hf hA hF happ hP
  obtain ⟨hcalls, hrest, hpre⟩ := hP
  obtain ⟨-, -, -, hnamed, -, -, -, hat⟩ := (Spec.applies_iff hf).mp happ
  obtain ⟨hg, hn⟩ := and_e (Cond.before_iff.mp (show (Jvm.Cond.and given_1 narrow_1).before args s = true from hpre))
  obtain ⟨hg0, hh0⟩ := and_e hg
  obtain ⟨hg1, hh1⟩ := and_e hh0
  obtain ⟨hg2, hh2⟩ := and_e hh1
  obtain ⟨hg3, hh3⟩ := and_e hh2
  obtain ⟨hg4, hh4⟩ := and_e hh3
  obtain ⟨w0, w1, w2, w3, w4, rfl⟩ : ∃ w0 w1 w2 w3 w4 : Value, args = #[w0, w1, w2, w3, w4] := by
    have hs : args.size = 5 := by simpa [Cond.value, given_1] using hg0
    obtain ⟨L⟩ := args
    match L, hs with
    | [w0, w1, w2, w3, w4], _ => exact ⟨w0, w1, w2, w3, w4, rfl⟩
  have hw := fun d (hd : d ∈ tables_1) => atoms_spec (ws := Jvm.Cond.code x code maxLocals ret :: tables_1) hat d (List.mem_cons_of_mem _ hd)
  have hfit : Fit s := fun {y c} hc i hi => by
    obtain ⟨ha, rfl⟩ := Array.getElem?_eq_some_iff.mp hc
    have q := List.all_eq_true.mp ((Array.all_eq_true_iff_forall_mem.mp hF) _ (Array.getElem_mem ha)) i (List.mem_range.mpr hi)
    simpa [Array.getElem?_eq_getElem hi] using q
  obtain ⟨i0, ei0⟩ := is_v hg1
  obtain rfl : w0 = (.int i0) := Option.some.inj ei0
  obtain ⟨i1, ei1⟩ := is_v hg2
  obtain rfl : w1 = (.int i1) := Option.some.inj ei1
  obtain ⟨i2, ei2⟩ := is_v hg3
  obtain rfl : w2 = (.int i2) := Option.some.inj ei2
  obtain ⟨i3, ei3⟩ := is_v hg4
  obtain rfl : w3 = (.int i3) := Option.some.inj ei3
  obtain ⟨i4, ei4⟩ := is_v hh4
  obtain rfl : w4 = (.int i4) := Option.some.inj ei4
  obtain ⟨hn0, hm0⟩ := and_e hn
  obtain ⟨hn1, hm1⟩ := and_e hm0
  obtain ⟨hn2, hm2⟩ := and_e hm1
  obtain ⟨hn3, hm3⟩ := and_e hm2
  obtain ⟨hn4, hm4⟩ := and_e hm3
  obtain ⟨a_FIRST, ea_FIRST⟩ := exa_v hn0
  have Ea_FIRST := Exa.start ea_FIRST hn0
  have Sa_FIRST := Sta.start ea_FIRST (Or.inr ⟨(own_w hw 6 rfl), (own_w hw 7 rfl)⟩)
  obtain ⟨a_RIGHT, ea_RIGHT⟩ := exa_v hn1
  have Ea_RIGHT := Exa.start ea_RIGHT hn1
  have Sa_RIGHT := Sta.start ea_RIGHT (Or.inr ⟨(own_w hw 12 rfl), (own_w hw 13 rfl)⟩)
  obtain ⟨a_FREE, ea_FREE⟩ := exa_v hn2
  have Ea_FREE := Exa.start ea_FREE hn2
  have Sa_FREE := Sta.start ea_FREE (Or.inr ⟨(own_w hw 55 rfl), (own_w hw 56 rfl)⟩)
  obtain ⟨a_LAST, ea_LAST⟩ := exa_v hn3
  have Ea_LAST := Exa.start ea_LAST hn3
  have Sa_LAST := Sta.start ea_LAST (Or.inr ⟨(own_w hw 6 rfl), (own_w hw 148 rfl)⟩)
  obtain ⟨a_FORWARD, ea_FORWARD⟩ := exa_v hn4
  have Ea_FORWARD := Exa.start ea_FORWARD hn4
  have Sa_FORWARD := Sta.start ea_FORWARD (Or.inr ⟨(own_w hw 6 rfl), (own_w hw 150 rfl)⟩)
  obtain ⟨a_BACKWARD, ea_BACKWARD⟩ := exa_v hm4
  have Ea_BACKWARD := Exa.start ea_BACKWARD hm4
  have Sa_BACKWARD := Sta.start ea_BACKWARD (Or.inr ⟨(own_w hw 6 rfl), (own_w hw 152 rfl)⟩)
  obtain ⟨hsets, hown0⟩ := atoms_of _ (rest_1_c_eq ▸ (show rest_1_c.before _ s = true from hrest))
  have hed6 := Cond.before_iff.mp (hsets _ (List.mem_of_getElem? (i := 6) rfl))
  obtain ⟨ed, eed⟩ := arr_v hed6
  obtain ⟨ced, Aed⟩ := Arr.start eed hed6
  have Sed := Sta.start eed (Or.inr ⟨(own_w hw 22 rfl), hsets _ (List.mem_of_getElem? (i := 2) rfl)⟩)
  have hed8 := Cond.before_iff.mp (hsets _ (List.mem_of_getElem? (i := 8) rfl))
  have Bed : own_AVk s s.heap ed ced.cls (.object "java/lang/Object") [] := by
    refine ⟨ced, Aed, rfl, List.length_eq_zero_iff.mp ?_⟩
    rw [Array.length_toList]
    exact (own_len_of eed Aed hed8 (by decide)).trans rfl
  obtain ⟨n, o, h1, h2, h3, _, L, rfl, ⟨rfl, N⟩, hq⟩ := rm0 l s _ hw tables_1 i0 i1 i2 i3 i4 a_FIRST a_RIGHT a_FREE a_LAST a_FORWARD a_BACKWARD ed ced.cls s.heap s.heap.size (Nat.le_refl _) Ea_FIRST Sa_FIRST Ea_RIGHT Sa_RIGHT Ea_FREE Sa_FREE Ea_LAST Sa_LAST Ea_FORWARD Sa_FORWARD Ea_BACKWARD Sa_BACKWARD Sed Bed p e ha hc hk s m _ below hf ((Spec.applies_iff_loose hf).mp happ).1 ⟨rfl, State.Warmed39.refl s, rfl⟩ trivial
  refine ⟨n, _, h1, h2, h3, hpost _ _ _ _ _ _ ⟨Cond.after_iff.mpr rfl, Cond.after_iff.mpr (eq_i res_at (Term.int_eval (1)) rfl), trivial⟩ ⟨hq.1, hq.2.1, (hq.2.2.sift fun y hy => Or.inr (N y hy)).mono (by decide) (by decide)⟩⟩
theorem main_1_1 : Claimed_1_1 := comes_1 fun _ _ _ _ _ _ h hF => ⟨h.1, hF⟩
theorem main_1_2 : Claimed_1_2 := comes_1 fun _ _ _ _ _ _ h hF => ⟨h.2.1, hF⟩
end Jvm.Pilot.@@N@@
namespace Jvm.Pilot.@@N@@
open Jvm Jvm.ClassFile Sem Op Lib Jvm.Free Jvm.Stand Jvm.Pilot.@@N@@.Jvm.D
/-! MADE BY PROGRAM (witnessworld.py) out of the Statement's table words and the real class files: 28 classes; the members and pool entries that the words name. The judged class is class 1, her method 2. -/
namespace start1
open Jvm.ClassFile
def u (s : String) : CpInfo := .utf8 (stringToUtf16 s)
/-- a pool by its gaps: so many unusable entries, then the entry; so many at the end -/
def gap : Nat → List CpInfo → List CpInfo
  | 0, r => r
  | n + 1, r => .unusable :: gap n r
def poolList (es : List (Nat × CpInfo)) (last : Nat) : List CpInfo := es.foldr (fun e r => gap e.1 (e.2 :: r)) (gap last [])
def pool (es : List (Nat × CpInfo)) (last : Nat) : Array CpInfo := ⟨poolList es last⟩
def fileOf (pool : Array CpInfo) (this : Nat) (attrs : Array Attribute := #[]) (ms : Array MethodInfo := #[]) (fl : Nat := 33) (sup : Nat := 0) (ifs : Array Nat := #[]) (fds : Array FieldInfo := #[]) : ClassFile where
  minorVersion := 0
  majorVersion := 65
  constantPool := pool
  accessFlags := fl
  thisClass := this
  superClass := sup
  interfaces := ifs
  fields := fds
  methods := ms
  attributes := attrs
def plain (name : String) (sup : Option ClassId) : Class where
  name := name
  kind := .ordinary
  loader := none
  accessFlags := 33
  super := sup
  interfaces := #[]
  cf := none
  fields := #[]
  methods := #[]
  instanceTypes := #[]
  staticTypes := #[]
  resolved := #[]
  callSites := []
  init := .initialized
  statics := none
  mirror := none

def pool0 : Array CpInfo := pool [(5, u "<init>"), (0, u "()V"), (1, .class_ 10), (1, u "java/lang/Object"), (85, u "clone"), (0, u "()Ljava/lang/Object;")] 26

def k0c0 : Code := { maxStack := 0, maxLocals := 1, code := object_method_1_code, exceptionTable := #[], attributes := #[] }
def k0m0 : Method := { name := "<init>", desc := "()V", sig := { parameters := [], returnType := none }, accessFlags := 1, code := some k0c0 }
def k0m1 : Method := { name := "clone", desc := "()Ljava/lang/Object;", sig := { parameters := [], returnType := some (.object "java/lang/Object") }, accessFlags := 260, code := none }
/-- java/lang/Object -/
def k0 : Class := { plain "java/lang/Object" none with
  accessFlags := 33
  interfaces := #[]
  cf := some (fileOf pool0 8 #[] #[{ accessFlags := 1, nameIndex := 5, descriptorIndex := 6, attributes := #[] }, { accessFlags := 260, nameIndex := 96, descriptorIndex := 97, attributes := #[] }] 33 0 #[] #[])
  fields := #[]
  methods := #[k0m0, k0m1]
  instanceTypes := #[]
  staticTypes := #[]
  resolved := Array.replicate 124 none
  statics := none }

def pool1 : Array CpInfo := pool [(2, .class_ 4), (1, u "java/lang/Object"), (0, u "<init>"), (0, u "()V"), (0, .fieldref 8 9), (0, .class_ 10), (0, .nameAndType 11 12), (0, u "com/example/urania/urania/layered/FlowSide"), (0, u "FIRST"), (0, u "Lcom/example/urania/urania/layered/FlowSide;"), (0, .fieldref 8 14), (0, .nameAndType 15 12), (0, u "FORWARD"), (0, .fieldref 8 17), (0, .nameAndType 18 12), (0, u "LAST"), (0, .fieldref 8 20), (0, .nameAndType 21 12), (0, u "BACKWARD"), (0, .integer 2147483647), (0, .methodref 24 25), (0, .class_ 26), (0, .nameAndType 27 28), (0, u "com/example/urania/urania/layered/PortsSetBorderPinLaw"), (0, u "sideOf"), (0, u "(I)Lcom/example/urania/urania/layered/FlowSide;"), (0, .class_ 30), (0, u "com/example/urania/urania/layered/Ports"), (0, .fieldref 32 33), (0, .class_ 34), (0, .nameAndType 35 36), (0, u "com/example/urania/urania/Direction"), (0, u "RIGHT"), (0, u "Lcom/example/urania/urania/Direction;"), (0, .methodref 29 38), (0, .nameAndType 5 39), (0, u "(IILcom/example/urania/urania/Direction;)V"), (0, .methodref 29 41), (0, .nameAndType 42 43), (0, u "setBorder"), (0, u "(ILcom/example/urania/urania/layered/FlowSide;DD)V"), (0, .methodref 29 45), (0, .nameAndType 46 47), (0, u "borderPort"), (0, u "(I)[D"), (0, .methodref 29 49), (0, .nameAndType 50 28), (0, u "border"), (0, .methodref 29 52), (0, .nameAndType 53 54), (0, u "borders"), (0, u "()[Lcom/example/urania/urania/layered/FlowSide;"), (3, u "law"), (0, u "(IIIII)Z")] 6

def k1m0 : Method := { name := "<init>", desc := "()V", sig := { parameters := [], returnType := none }, accessFlags := 1, code := none }
def k1c1 : Code := { maxStack := 2, maxLocals := 2, code := method_2_code, exceptionTable := #[], attributes := #[] }
def k1m1 : Method := { name := "sideOf", desc := "(I)Lcom/example/urania/urania/layered/FlowSide;", sig := { parameters := [.int], returnType := some (.object "com/example/urania/urania/layered/FlowSide") }, accessFlags := 10, code := some k1c1 }
def k1c2 : Code := { maxStack := 7, maxLocals := 24, code := code, exceptionTable := #[], attributes := #[] }
def k1m2 : Method := { name := "law", desc := "(IIIII)Z", sig := { parameters := [.int, .int, .int, .int, .int], returnType := some .boolean }, accessFlags := 9, code := some k1c2 }
/-- com/example/urania/urania/layered/PortsSetBorderPinLaw -/
def k1 : Class := { plain "com/example/urania/urania/layered/PortsSetBorderPinLaw" (some 0) with
  accessFlags := 49
  interfaces := #[]
  cf := some (fileOf pool1 24 #[] #[{ accessFlags := 1, nameIndex := 5, descriptorIndex := 6, attributes := #[] }, { accessFlags := 10, nameIndex := 27, descriptorIndex := 28, attributes := #[] }, { accessFlags := 9, nameIndex := 58, descriptorIndex := 59, attributes := #[] }] 49 2 #[] #[])
  fields := #[]
  methods := #[k1m0, k1m1, k1m2]
  instanceTypes := #[]
  staticTypes := #[]
  resolved := Array.replicate 66 none
  statics := none }

def pool2 : Array CpInfo := pool [(1, .class_ 2), (0, u "java/lang/constant/Constable"), (0, .class_ 4), (0, u "java/lang/Object")] 6

/-- java/lang/constant/Constable -/
def k2 : Class := { plain "java/lang/constant/Constable" (some 0) with
  accessFlags := 1537
  interfaces := #[]
  cf := some (fileOf pool2 1 #[] #[] 1537 3 #[] #[])
  fields := #[]
  methods := #[]
  instanceTypes := #[]
  staticTypes := #[]
  resolved := Array.replicate 11 none
  statics := none }

def pool3 : Array CpInfo := pool [(1, .class_ 2), (0, u "java/lang/Comparable"), (0, .class_ 4), (0, u "java/lang/Object")] 7

/-- java/lang/Comparable -/
def k3 : Class := { plain "java/lang/Comparable" (some 0) with
  accessFlags := 1537
  interfaces := #[]
  cf := some (fileOf pool3 1 #[] #[] 1537 3 #[] #[])
  fields := #[]
  methods := #[]
  instanceTypes := #[]
  staticTypes := #[]
  resolved := Array.replicate 12 none
  statics := none }

def pool4 : Array CpInfo := pool [(1, .class_ 2), (0, u "java/io/Serializable"), (0, .class_ 4), (0, u "java/lang/Object")] 2

/-- java/io/Serializable -/
def k4 : Class := { plain "java/io/Serializable" (some 0) with
  accessFlags := 1537
  interfaces := #[]
  cf := some (fileOf pool4 1 #[] #[] 1537 3 #[] #[])
  fields := #[]
  methods := #[]
  instanceTypes := #[]
  staticTypes := #[]
  resolved := Array.replicate 7 none
  statics := none }

def pool5 : Array CpInfo := pool [(2, .class_ 4), (1, u "java/lang/Enum"), (0, u "name"), (0, u "Ljava/lang/String;"), (2, u "ordinal"), (0, u "I"), (1, .class_ 14), (1, u "java/lang/Object"), (4, u "hash"), (86, .class_ 108), (1, u "java/lang/Enum$EnumDesc"), (2, .class_ 112), (0, u "java/lang/constant/Constable"), (0, .class_ 114), (0, u "java/lang/Comparable"), (0, .class_ 116), (0, u "java/io/Serializable")] 87

/-- java/lang/Enum -/
def k5 : Class := { plain "java/lang/Enum" (some 0) with
  accessFlags := 1057
  interfaces := #[2, 3, 4]
  cf := some (fileOf pool5 2 #[.nestMembers #[106]] #[] 1057 12 #[111, 113, 115] #[{ accessFlags := 18, nameIndex := 5, descriptorIndex := 6, attributes := #[] }, { accessFlags := 18, nameIndex := 9, descriptorIndex := 10, attributes := #[] }, { accessFlags := 2, nameIndex := 19, descriptorIndex := 10, attributes := #[] }])
  fields := #[{ name := "name", type := (.object "java/lang/String"), accessFlags := 18, slot := 0, constantValue := 0 }, { name := "ordinal", type := .int, accessFlags := 18, slot := 1, constantValue := 0 }, { name := "hash", type := .int, accessFlags := 2, slot := 2, constantValue := 0 }]
  methods := #[]
  instanceTypes := #[(.object "java/lang/String"), .int, .int]
  staticTypes := #[]
  resolved := Array.replicate 204 none
  statics := none }

def pool6 : Array CpInfo := pool [(1, .class_ 2), (0, u "com/example/urania/urania/layered/FlowSide"), (2, u "FIRST"), (0, u "Lcom/example/urania/urania/layered/FlowSide;"), (2, u "FORWARD"), (2, u "LAST"), (2, u "BACKWARD"), (2, u "$VALUES"), (0, u "[Lcom/example/urania/urania/layered/FlowSide;"), (6, .class_ 28), (1, u "java/lang/Enum"), (8, u "ROUND"), (5, .class_ 45), (1, u "com/example/urania/urania/layered/FlowSide$1")] 74

/-- com/example/urania/urania/layered/FlowSide -/
def k6 : Class := { plain "com/example/urania/urania/layered/FlowSide" (some 5) with
  accessFlags := 16432
  interfaces := #[]
  cf := some (fileOf pool6 1 #[.nestMembers #[43]] #[] 16432 26 #[] #[{ accessFlags := 16409, nameIndex := 5, descriptorIndex := 6, attributes := #[] }, { accessFlags := 16409, nameIndex := 9, descriptorIndex := 6, attributes := #[] }, { accessFlags := 16409, nameIndex := 12, descriptorIndex := 6, attributes := #[] }, { accessFlags := 16409, nameIndex := 15, descriptorIndex := 6, attributes := #[] }, { accessFlags := 26, nameIndex := 37, descriptorIndex := 19, attributes := #[] }, { accessFlags := 4122, nameIndex := 18, descriptorIndex := 19, attributes := #[] }])
  fields := #[{ name := "FIRST", type := (.object "com/example/urania/urania/layered/FlowSide"), accessFlags := 16409, slot := 0, constantValue := 0 }, { name := "FORWARD", type := (.object "com/example/urania/urania/layered/FlowSide"), accessFlags := 16409, slot := 1, constantValue := 0 }, { name := "LAST", type := (.object "com/example/urania/urania/layered/FlowSide"), accessFlags := 16409, slot := 2, constantValue := 0 }, { name := "BACKWARD", type := (.object "com/example/urania/urania/layered/FlowSide"), accessFlags := 16409, slot := 3, constantValue := 0 }, { name := "ROUND", type := (.array (.object "com/example/urania/urania/layered/FlowSide")), accessFlags := 26, slot := 4, constantValue := 0 }, { name := "$VALUES", type := (.array (.object "com/example/urania/urania/layered/FlowSide")), accessFlags := 4122, slot := 5, constantValue := 0 }]
  methods := #[]
  instanceTypes := #[(.object "java/lang/String"), .int, .int]
  staticTypes := #[(.object "com/example/urania/urania/layered/FlowSide"), (.object "com/example/urania/urania/layered/FlowSide"), (.object "com/example/urania/urania/layered/FlowSide"), (.object "com/example/urania/urania/layered/FlowSide"), (.array (.object "com/example/urania/urania/layered/FlowSide")), (.array (.object "com/example/urania/urania/layered/FlowSide"))]
  resolved := Array.replicate 120 none
  statics := some 0 }

def pool7 : Array CpInfo := pool [(1, .methodref 2 3), (0, .class_ 4), (0, .nameAndType 5 6), (0, u "java/lang/Object"), (0, u "<init>"), (0, u "()V"), (0, .class_ 8), (0, u "java/util/ArrayList"), (0, .methodref 7 3), (0, .fieldref 11 12), (0, .class_ 13), (0, .nameAndType 14 15), (0, u "com/example/urania/urania/layered/Ports"), (0, u "ofNode"), (0, u "Ljava/util/List;"), (0, .fieldref 11 17), (0, .nameAndType 18 15), (0, u "specs"), (0, .fieldref 11 20), (0, .nameAndType 21 22), (0, u "direction"), (0, u "Lcom/example/urania/urania/Direction;"), (0, .class_ 24), (0, u "com/example/urania/urania/layered/Ports$Freedom"), (0, .fieldref 11 26), (0, .nameAndType 27 28), (0, u "freedom"), (0, u "[Lcom/example/urania/urania/layered/Ports$Freedom;"), (0, .fieldref 23 30), (0, .nameAndType 31 32), (0, u "FREE"), (0, u "Lcom/example/urania/urania/layered/Ports$Freedom;"), (0, .methodref 34 35), (0, .class_ 36), (0, .nameAndType 37 38), (0, u "java/util/Arrays"), (0, u "fill"), (0, u "([Ljava/lang/Object;Ljava/lang/Object;)V"), (0, .interfaceMethodref 40 41), (0, .class_ 42), (0, .nameAndType 43 44), (0, u "java/util/List"), (0, u "add"), (0, u "(Ljava/lang/Object;)Z"), (0, .class_ 46), (0, u "com/example/urania/urania/layered/FlowSide"), (0, .fieldref 11 48), (0, .nameAndType 49 50), (0, u "border"), (0, u "[Lcom/example/urania/urania/layered/FlowSide;"), (0, .class_ 52), (0, u "[D"), (0, .fieldref 11 54), (0, .nameAndType 55 56), (0, u "borderPort"), (0, u "[[D"), (0, .fieldref 11 58), (0, .nameAndType 59 60), (0, u "sourcePort"), (0, u "[I"), (0, .fieldref 11 62), (0, .nameAndType 63 60), (0, u "targetPort"), (0, .fieldref 11 65), (0, .nameAndType 66 60), (0, u "group"), (0, .methodref 34 68), (0, .nameAndType 37 69), (0, u "([II)V"), (0, .class_ 71), (0, u "com/example/urania/urania/layered/Ports$Spec"), (8, .nameAndType 81 82), (0, u "clone"), (0, u "()Ljava/lang/Object;"), (20, u "places"), (2, u "borderOrderFixed"), (0, u "Z"), (50, .methodref 159 80), (0, .class_ 50), (32, u "(IILcom/example/urania/urania/Direction;)V"), (14, u "setBorder"), (0, u "(ILcom/example/urania/urania/layered/FlowSide;DD)V"), (9, u "(I)Lcom/example/urania/urania/layered/FlowSide;"), (6, u "(I)[D"), (1, u "borders"), (0, u "()[Lcom/example/urania/urania/layered/FlowSide;")] 31

def k7c0 : Code := { maxStack := 3, maxLocals := 5, code := prog_81_method_1_code, exceptionTable := #[], attributes := #[] }
def k7m0 : Method := { name := "<init>", desc := "(IILcom/example/urania/urania/Direction;)V", sig := { parameters := [.int, .int, (.object "com/example/urania/urania/Direction")], returnType := none }, accessFlags := 0, code := some k7c0 }
def k7c1 : Code := { maxStack := 7, maxLocals := 7, code := prog_81_method_8_code, exceptionTable := #[], attributes := #[] }
def k7m1 : Method := { name := "setBorder", desc := "(ILcom/example/urania/urania/layered/FlowSide;DD)V", sig := { parameters := [.int, (.object "com/example/urania/urania/layered/FlowSide"), .double, .double], returnType := none }, accessFlags := 0, code := some k7c1 }
def k7c2 : Code := { maxStack := 2, maxLocals := 2, code := prog_81_method_28_code, exceptionTable := #[], attributes := #[] }
def k7m2 : Method := { name := "border", desc := "(I)Lcom/example/urania/urania/layered/FlowSide;", sig := { parameters := [.int], returnType := some (.object "com/example/urania/urania/layered/FlowSide") }, accessFlags := 0, code := some k7c2 }
def k7c3 : Code := { maxStack := 1, maxLocals := 1, code := prog_81_method_29_code, exceptionTable := #[], attributes := #[] }
def k7m3 : Method := { name := "borders", desc := "()[Lcom/example/urania/urania/layered/FlowSide;", sig := { parameters := [], returnType := some (.array (.object "com/example/urania/urania/layered/FlowSide")) }, accessFlags := 0, code := some k7c3 }
def k7c4 : Code := { maxStack := 2, maxLocals := 2, code := prog_81_method_30_code, exceptionTable := #[], attributes := #[] }
def k7m4 : Method := { name := "borderPort", desc := "(I)[D", sig := { parameters := [.int], returnType := some (.array .double) }, accessFlags := 0, code := some k7c4 }
/-- com/example/urania/urania/layered/Ports -/
def k7 : Class := { plain "com/example/urania/urania/layered/Ports" (some 0) with
  accessFlags := 48
  interfaces := #[]
  cf := some (fileOf pool7 11 #[.nestMembers #[70, 23]] #[{ accessFlags := 0, nameIndex := 5, descriptorIndex := 192, attributes := #[] }, { accessFlags := 0, nameIndex := 207, descriptorIndex := 208, attributes := #[] }, { accessFlags := 0, nameIndex := 49, descriptorIndex := 218, attributes := #[] }, { accessFlags := 0, nameIndex := 227, descriptorIndex := 228, attributes := #[] }, { accessFlags := 0, nameIndex := 55, descriptorIndex := 225, attributes := #[] }] 48 2 #[] #[{ accessFlags := 18, nameIndex := 27, descriptorIndex := 28, attributes := #[] }, { accessFlags := 18, nameIndex := 14, descriptorIndex := 15, attributes := #[] }, { accessFlags := 18, nameIndex := 18, descriptorIndex := 15, attributes := #[] }, { accessFlags := 18, nameIndex := 59, descriptorIndex := 60, attributes := #[] }, { accessFlags := 18, nameIndex := 63, descriptorIndex := 60, attributes := #[] }, { accessFlags := 18, nameIndex := 66, descriptorIndex := 60, attributes := #[] }, { accessFlags := 18, nameIndex := 49, descriptorIndex := 50, attributes := #[] }, { accessFlags := 18, nameIndex := 55, descriptorIndex := 56, attributes := #[] }, { accessFlags := 2, nameIndex := 106, descriptorIndex := 107, attributes := #[] }, { accessFlags := 18, nameIndex := 21, descriptorIndex := 22, attributes := #[] }, { accessFlags := 2, nameIndex := 103, descriptorIndex := 60, attributes := #[] }])
  fields := #[{ name := "freedom", type := (.array (.object "com/example/urania/urania/layered/Ports$Freedom")), accessFlags := 18, slot := 0, constantValue := 0 }, { name := "ofNode", type := (.object "java/util/List"), accessFlags := 18, slot := 1, constantValue := 0 }, { name := "specs", type := (.object "java/util/List"), accessFlags := 18, slot := 2, constantValue := 0 }, { name := "sourcePort", type := (.array .int), accessFlags := 18, slot := 3, constantValue := 0 }, { name := "targetPort", type := (.array .int), accessFlags := 18, slot := 4, constantValue := 0 }, { name := "group", type := (.array .int), accessFlags := 18, slot := 5, constantValue := 0 }, { name := "border", type := (.array (.object "com/example/urania/urania/layered/FlowSide")), accessFlags := 18, slot := 6, constantValue := 0 }, { name := "borderPort", type := (.array (.array .double)), accessFlags := 18, slot := 7, constantValue := 0 }, { name := "borderOrderFixed", type := .boolean, accessFlags := 2, slot := 8, constantValue := 0 }, { name := "direction", type := (.object "com/example/urania/urania/Direction"), accessFlags := 18, slot := 9, constantValue := 0 }, { name := "places", type := (.array .int), accessFlags := 2, slot := 10, constantValue := 0 }]
  methods := #[k7m0, k7m1, k7m2, k7m3, k7m4]
  instanceTypes := #[(.array (.object "com/example/urania/urania/layered/Ports$Freedom")), (.object "java/util/List"), (.object "java/util/List"), (.array .int), (.array .int), (.array .int), (.array (.object "com/example/urania/urania/layered/FlowSide")), (.array (.array .double)), .boolean, (.object "com/example/urania/urania/Direction"), (.array .int)]
  staticTypes := #[]
  resolved := Array.replicate 260 none
  statics := none }

def pool8 : Array CpInfo := pool [(1, .class_ 2), (0, u "com/example/urania/urania/Direction"), (2, u "RIGHT"), (0, u "Lcom/example/urania/urania/Direction;"), (2, u "DOWN"), (2, u "LEFT"), (2, u "UP"), (2, u "$VALUES"), (0, u "[Lcom/example/urania/urania/Direction;"), (6, .class_ 28), (1, u "java/lang/Enum")] 29

/-- com/example/urania/urania/Direction -/
def k8 : Class := { plain "com/example/urania/urania/Direction" (some 5) with
  accessFlags := 16433
  interfaces := #[]
  cf := some (fileOf pool8 1 #[] #[] 16433 26 #[] #[{ accessFlags := 16409, nameIndex := 5, descriptorIndex := 6, attributes := #[] }, { accessFlags := 16409, nameIndex := 9, descriptorIndex := 6, attributes := #[] }, { accessFlags := 16409, nameIndex := 12, descriptorIndex := 6, attributes := #[] }, { accessFlags := 16409, nameIndex := 15, descriptorIndex := 6, attributes := #[] }, { accessFlags := 4122, nameIndex := 18, descriptorIndex := 19, attributes := #[] }])
  fields := #[{ name := "RIGHT", type := (.object "com/example/urania/urania/Direction"), accessFlags := 16409, slot := 0, constantValue := 0 }, { name := "DOWN", type := (.object "com/example/urania/urania/Direction"), accessFlags := 16409, slot := 1, constantValue := 0 }, { name := "LEFT", type := (.object "com/example/urania/urania/Direction"), accessFlags := 16409, slot := 2, constantValue := 0 }, { name := "UP", type := (.object "com/example/urania/urania/Direction"), accessFlags := 16409, slot := 3, constantValue := 0 }, { name := "$VALUES", type := (.array (.object "com/example/urania/urania/Direction")), accessFlags := 4122, slot := 4, constantValue := 0 }]
  methods := #[]
  instanceTypes := #[(.object "java/lang/String"), .int, .int]
  staticTypes := #[(.object "com/example/urania/urania/Direction"), (.object "com/example/urania/urania/Direction"), (.object "com/example/urania/urania/Direction"), (.object "com/example/urania/urania/Direction"), (.array (.object "com/example/urania/urania/Direction"))]
  resolved := Array.replicate 58 none
  statics := some 1 }

def pool9 : Array CpInfo := pool [(8, .class_ 10), (1, u "java/lang/Iterable"), (24, .class_ 36), (0, u "java/lang/Object")] 25

/-- java/lang/Iterable -/
def k9 : Class := { plain "java/lang/Iterable" (some 0) with
  accessFlags := 1537
  interfaces := #[]
  cf := some (fileOf pool9 8 #[] #[] 1537 35 #[] #[])
  fields := #[]
  methods := #[]
  instanceTypes := #[]
  staticTypes := #[]
  resolved := Array.replicate 62 none
  statics := none }

def pool10 : Array CpInfo := pool [(10, .class_ 12), (1, u "java/util/Collection"), (47, .class_ 61), (0, u "java/lang/Object"), (0, .class_ 63), (0, u "java/lang/Iterable")] 51

/-- java/util/Collection -/
def k10 : Class := { plain "java/util/Collection" (some 0) with
  accessFlags := 1537
  interfaces := #[9]
  cf := some (fileOf pool10 10 #[] #[] 1537 60 #[62] #[])
  fields := #[]
  methods := #[]
  instanceTypes := #[]
  staticTypes := #[]
  resolved := Array.replicate 115 none
  statics := none }

def pool11 : Array CpInfo := pool [(1, .methodref 2 3), (0, .class_ 4), (0, .nameAndType 5 6), (0, u "java/lang/Object"), (0, u "<init>"), (0, u "()V"), (1, .class_ 10), (1, u "java/util/AbstractCollection"), (66, .class_ 78), (0, u "java/util/Collection")] 81

def k11c0 : Code := { maxStack := 1, maxLocals := 1, code := jdk_22_method_1_code, exceptionTable := #[], attributes := #[] }
def k11m0 : Method := { name := "<init>", desc := "()V", sig := { parameters := [], returnType := none }, accessFlags := 4, code := some k11c0 }
/-- java/util/AbstractCollection -/
def k11 : Class := { plain "java/util/AbstractCollection" (some 0) with
  accessFlags := 1057
  interfaces := #[10]
  cf := some (fileOf pool11 8 #[] #[{ accessFlags := 4, nameIndex := 5, descriptorIndex := 6, attributes := #[] }] 1057 2 #[77] #[])
  fields := #[]
  methods := #[k11m0]
  instanceTypes := #[]
  staticTypes := #[]
  resolved := Array.replicate 160 none
  statics := none }

def pool12 : Array CpInfo := pool [(8, .class_ 10), (1, u "java/util/SequencedCollection"), (15, .class_ 27), (0, u "java/lang/Object"), (0, .class_ 29), (0, u "java/util/Collection")] 27

/-- java/util/SequencedCollection -/
def k12 : Class := { plain "java/util/SequencedCollection" (some 0) with
  accessFlags := 1537
  interfaces := #[10]
  cf := some (fileOf pool12 8 #[] #[] 1537 26 #[28] #[])
  fields := #[]
  methods := #[]
  instanceTypes := #[]
  staticTypes := #[]
  resolved := Array.replicate 57 none
  statics := none }

def pool13 : Array CpInfo := pool [(8, .class_ 10), (1, u "java/util/List"), (49, u "add"), (3, u "(Ljava/lang/Object;)Z"), (38, .class_ 104), (0, u "java/lang/Object"), (15, .class_ 121), (0, u "java/util/SequencedCollection")] 129

def k13m0 : Method := { name := "add", desc := "(Ljava/lang/Object;)Z", sig := { parameters := [(.object "java/lang/Object")], returnType := some .boolean }, accessFlags := 1025, code := none }
/-- java/util/List -/
def k13 : Class := { plain "java/util/List" (some 0) with
  accessFlags := 1537
  interfaces := #[12]
  cf := some (fileOf pool13 8 #[] #[{ accessFlags := 1025, nameIndex := 60, descriptorIndex := 64, attributes := #[] }] 1537 103 #[120] #[])
  fields := #[]
  methods := #[k13m0]
  instanceTypes := #[]
  staticTypes := #[]
  resolved := Array.replicate 251 none
  statics := none }

def pool14 : Array CpInfo := pool [(1, .methodref 2 3), (0, .class_ 4), (0, .nameAndType 5 6), (0, u "java/util/AbstractCollection"), (0, u "<init>"), (0, u "()V"), (0, .fieldref 8 9), (0, .class_ 10), (0, .nameAndType 11 12), (0, u "java/util/AbstractList"), (0, u "modCount"), (0, u "I"), (64, .class_ 78), (0, u "java/util/AbstractList$Itr"), (3, .class_ 83), (0, u "java/util/AbstractList$ListItr"), (9, .class_ 94), (0, u "java/util/AbstractList$RandomAccessSubList"), (3, .class_ 99), (0, u "java/util/AbstractList$SubList"), (33, .class_ 134), (0, u "java/util/List"), (73, .class_ 209), (0, u "java/util/AbstractList$SubList$1"), (0, .class_ 211), (0, u "java/util/AbstractList$RandomAccessSpliterator")] 6

def k14c0 : Code := { maxStack := 2, maxLocals := 1, code := jdk_39_method_1_code, exceptionTable := #[], attributes := #[] }
def k14m0 : Method := { name := "<init>", desc := "()V", sig := { parameters := [], returnType := none }, accessFlags := 4, code := some k14c0 }
/-- java/util/AbstractList -/
def k14 : Class := { plain "java/util/AbstractList" (some 11) with
  accessFlags := 1057
  interfaces := #[13]
  cf := some (fileOf pool14 8 #[.nestMembers #[93, 98, 208, 210, 82, 77]] #[{ accessFlags := 4, nameIndex := 5, descriptorIndex := 6, attributes := #[] }] 1057 2 #[133] #[{ accessFlags := 132, nameIndex := 11, descriptorIndex := 12, attributes := #[] }])
  fields := #[{ name := "modCount", type := .int, accessFlags := 132, slot := 0, constantValue := 0 }]
  methods := #[k14m0]
  instanceTypes := #[.int]
  staticTypes := #[]
  resolved := Array.replicate 218 none
  statics := none }

def pool15 : Array CpInfo := pool [(1, .class_ 2), (0, u "java/util/RandomAccess"), (0, .class_ 4), (0, u "java/lang/Object")] 2

/-- java/util/RandomAccess -/
def k15 : Class := { plain "java/util/RandomAccess" (some 0) with
  accessFlags := 1537
  interfaces := #[]
  cf := some (fileOf pool15 1 #[] #[] 1537 3 #[] #[])
  fields := #[]
  methods := #[]
  instanceTypes := #[]
  staticTypes := #[]
  resolved := Array.replicate 7 none
  statics := none }

def pool16 : Array CpInfo := pool [(1, .class_ 2), (0, u "java/lang/Cloneable"), (0, .class_ 4), (0, u "java/lang/Object")] 2

/-- java/lang/Cloneable -/
def k16 : Class := { plain "java/lang/Cloneable" (some 0) with
  accessFlags := 1537
  interfaces := #[]
  cf := some (fileOf pool16 1 #[] #[] 1537 3 #[] #[])
  fields := #[]
  methods := #[]
  instanceTypes := #[]
  staticTypes := #[]
  resolved := Array.replicate 7 none
  statics := none }

def pool17 : Array CpInfo := pool [(1, .methodref 2 3), (0, .class_ 4), (0, .nameAndType 5 6), (0, u "java/util/AbstractList"), (0, u "<init>"), (0, u "()V"), (0, .class_ 8), (0, u "java/lang/Object"), (0, .fieldref 10 11), (0, .class_ 12), (0, .nameAndType 13 14), (0, u "java/util/ArrayList"), (0, u "elementData"), (0, u "[Ljava/lang/Object;"), (2, u "EMPTY_ELEMENTDATA"), (21, .fieldref 10 40), (0, .nameAndType 41 14), (0, u "DEFAULTCAPACITY_EMPTY_ELEMENTDATA"), (5, u "()[Ljava/lang/Object;"), (0, .fieldref 10 49), (0, .nameAndType 50 51), (0, u "size"), (0, u "I"), (11, .fieldref 10 64), (0, .nameAndType 65 51), (0, u "modCount"), (3, .methodref 10 70), (0, .nameAndType 71 72), (0, u "grow"), (0, u "(I)[Ljava/lang/Object;"), (6, .methodref 80 81), (0, .class_ 82), (0, .nameAndType 83 84), (0, u "java/lang/Math"), (0, u "max"), (0, u "(II)I"), (11, u "(Ljava/lang/Object;)Z"), (32, .methodref 10 130), (0, .nameAndType 71 47), (0, .methodref 10 132), (0, .nameAndType 133 134), (0, u "add"), (0, u "(Ljava/lang/Object;[Ljava/lang/Object;I)V"), (13, .class_ 149), (0, u "java/util/List"), (112, .class_ 263), (0, u "java/util/ArrayList$ListItr"), (3, .class_ 268), (0, u "java/util/ArrayList$Itr"), (7, .class_ 277), (0, u "java/util/ArrayList$SubList"), (12, .class_ 291), (0, u "java/util/ArrayList$ArrayListSpliterator"), (37, .class_ 330), (0, u "java/util/RandomAccess"), (0, .class_ 332), (0, u "java/lang/Cloneable"), (0, .class_ 334), (0, u "java/io/Serializable"), (0, u "serialVersionUID"), (0, u "J"), (3, u "DEFAULT_CAPACITY"), (159, .class_ 501), (0, u "java/util/ArrayList$SubList$2"), (0, .class_ 503), (0, u "java/util/ArrayList$SubList$1")] 5

def k17c0 : Code := { maxStack := 2, maxLocals := 1, code := jdk_38_method_2_code, exceptionTable := #[], attributes := #[] }
def k17m0 : Method := { name := "<init>", desc := "()V", sig := { parameters := [], returnType := none }, accessFlags := 1, code := some k17c0 }
def k17c1 : Code := { maxStack := 4, maxLocals := 4, code := jdk_38_method_6_code, exceptionTable := #[], attributes := #[] }
def k17m1 : Method := { name := "grow", desc := "(I)[Ljava/lang/Object;", sig := { parameters := [.int], returnType := some (.array (.object "java/lang/Object")) }, accessFlags := 2, code := some k17c1 }
def k17c2 : Code := { maxStack := 3, maxLocals := 1, code := jdk_38_method_7_code, exceptionTable := #[], attributes := #[] }
def k17m2 : Method := { name := "grow", desc := "()[Ljava/lang/Object;", sig := { parameters := [], returnType := some (.array (.object "java/lang/Object")) }, accessFlags := 2, code := some k17c2 }
def k17c3 : Code := { maxStack := 3, maxLocals := 4, code := jdk_38_method_24_code, exceptionTable := #[], attributes := #[] }
def k17m3 : Method := { name := "add", desc := "(Ljava/lang/Object;[Ljava/lang/Object;I)V", sig := { parameters := [(.object "java/lang/Object"), (.array (.object "java/lang/Object")), .int], returnType := none }, accessFlags := 2, code := some k17c3 }
def k17c4 : Code := { maxStack := 4, maxLocals := 2, code := jdk_38_method_25_code, exceptionTable := #[], attributes := #[] }
def k17m4 : Method := { name := "add", desc := "(Ljava/lang/Object;)Z", sig := { parameters := [(.object "java/lang/Object")], returnType := some .boolean }, accessFlags := 1, code := some k17c4 }
/-- java/util/ArrayList -/
def k17 : Class := { plain "java/util/ArrayList" (some 14) with
  accessFlags := 33
  interfaces := #[13, 15, 16, 4]
  cf := some (fileOf pool17 10 #[.nestMembers #[290, 276, 500, 502, 262, 267]] #[{ accessFlags := 1, nameIndex := 5, descriptorIndex := 6, attributes := #[] }, { accessFlags := 2, nameIndex := 71, descriptorIndex := 72, attributes := #[] }, { accessFlags := 2, nameIndex := 71, descriptorIndex := 47, attributes := #[] }, { accessFlags := 2, nameIndex := 133, descriptorIndex := 134, attributes := #[] }, { accessFlags := 1, nameIndex := 133, descriptorIndex := 96, attributes := #[] }] 33 2 #[148, 329, 331, 333] #[{ accessFlags := 26, nameIndex := 335, descriptorIndex := 336, attributes := #[] }, { accessFlags := 26, nameIndex := 340, descriptorIndex := 51, attributes := #[] }, { accessFlags := 26, nameIndex := 17, descriptorIndex := 14, attributes := #[] }, { accessFlags := 26, nameIndex := 41, descriptorIndex := 14, attributes := #[] }, { accessFlags := 128, nameIndex := 13, descriptorIndex := 14, attributes := #[] }, { accessFlags := 2, nameIndex := 50, descriptorIndex := 51, attributes := #[] }])
  fields := #[{ name := "serialVersionUID", type := .long, accessFlags := 26, slot := 0, constantValue := 0 }, { name := "DEFAULT_CAPACITY", type := .int, accessFlags := 26, slot := 1, constantValue := 0 }, { name := "EMPTY_ELEMENTDATA", type := (.array (.object "java/lang/Object")), accessFlags := 26, slot := 2, constantValue := 0 }, { name := "DEFAULTCAPACITY_EMPTY_ELEMENTDATA", type := (.array (.object "java/lang/Object")), accessFlags := 26, slot := 3, constantValue := 0 }, { name := "elementData", type := (.array (.object "java/lang/Object")), accessFlags := 128, slot := 1, constantValue := 0 }, { name := "size", type := .int, accessFlags := 2, slot := 2, constantValue := 0 }]
  methods := #[k17m0, k17m1, k17m2, k17m3, k17m4]
  instanceTypes := #[.int, (.array (.object "java/lang/Object")), .int]
  staticTypes := #[.long, .int, (.array (.object "java/lang/Object")), (.array (.object "java/lang/Object"))]
  resolved := Array.replicate 509 none
  statics := some 2 }

def pool18 : Array CpInfo := pool [(1, .class_ 2), (0, u "com/example/urania/urania/layered/Ports$Freedom"), (2, u "FREE"), (0, u "Lcom/example/urania/urania/layered/Ports$Freedom;"), (2, u "SIDE"), (2, u "ORDER"), (2, u "POSITION"), (2, u "$VALUES"), (0, u "[Lcom/example/urania/urania/layered/Ports$Freedom;"), (6, .class_ 28), (1, u "java/lang/Enum"), (27, .class_ 57), (0, u "com/example/urania/urania/layered/Ports")] 2

/-- com/example/urania/urania/layered/Ports$Freedom -/
def k18 : Class := { plain "com/example/urania/urania/layered/Ports$Freedom" (some 5) with
  accessFlags := 16432
  interfaces := #[]
  cf := some (fileOf pool18 1 #[.nestHost 56] #[] 16432 26 #[] #[{ accessFlags := 16409, nameIndex := 5, descriptorIndex := 6, attributes := #[] }, { accessFlags := 16409, nameIndex := 9, descriptorIndex := 6, attributes := #[] }, { accessFlags := 16409, nameIndex := 12, descriptorIndex := 6, attributes := #[] }, { accessFlags := 16409, nameIndex := 15, descriptorIndex := 6, attributes := #[] }, { accessFlags := 4122, nameIndex := 18, descriptorIndex := 19, attributes := #[] }])
  fields := #[{ name := "FREE", type := (.object "com/example/urania/urania/layered/Ports$Freedom"), accessFlags := 16409, slot := 0, constantValue := 0 }, { name := "SIDE", type := (.object "com/example/urania/urania/layered/Ports$Freedom"), accessFlags := 16409, slot := 1, constantValue := 0 }, { name := "ORDER", type := (.object "com/example/urania/urania/layered/Ports$Freedom"), accessFlags := 16409, slot := 2, constantValue := 0 }, { name := "POSITION", type := (.object "com/example/urania/urania/layered/Ports$Freedom"), accessFlags := 16409, slot := 3, constantValue := 0 }, { name := "$VALUES", type := (.array (.object "com/example/urania/urania/layered/Ports$Freedom")), accessFlags := 4122, slot := 4, constantValue := 0 }]
  methods := #[]
  instanceTypes := #[(.object "java/lang/String"), .int, .int]
  staticTypes := #[(.object "com/example/urania/urania/layered/Ports$Freedom"), (.object "com/example/urania/urania/layered/Ports$Freedom"), (.object "com/example/urania/urania/layered/Ports$Freedom"), (.object "com/example/urania/urania/layered/Ports$Freedom"), (.array (.object "com/example/urania/urania/layered/Ports$Freedom"))]
  resolved := Array.replicate 60 none
  statics := some 3 }

def pool19 : Array CpInfo := pool [(2, .class_ 4), (1, u "java/lang/Object"), (0, u "<init>"), (0, u "()V"), (7, .class_ 16), (1, u "java/util/Arrays"), (57, .class_ 76), (1, u "java/util/Arrays$NaturalOrder"), (36, .class_ 115), (1, u "java/util/Arrays$LegacyMergeSort"), (1, u "Z"), (257, .class_ 376), (0, u "java/util/Arrays$ArrayList"), (68, u "$assertionsDisabled"), (269, u "MIN_ARRAY_SORT_GRAN"), (0, u "I"), (2, u "INSERTIONSORT_THRESHOLD"), (120, u "fill"), (4, u "([II)V"), (12, u "([Ljava/lang/Object;Ljava/lang/Object;)V"), (116, .class_ 976), (0, u "java/util/Arrays$ArrayItr")] 52

def k19m0 : Method := { name := "<init>", desc := "()V", sig := { parameters := [], returnType := none }, accessFlags := 2, code := none }
def k19c1 : Code := { maxStack := 3, maxLocals := 4, code := jdk_65_method_103_code, exceptionTable := #[], attributes := #[] }
def k19m1 : Method := { name := "fill", desc := "([II)V", sig := { parameters := [(.array .int), .int], returnType := none }, accessFlags := 9, code := some k19c1 }
def k19c2 : Code := { maxStack := 3, maxLocals := 4, code := jdk_65_method_117_code, exceptionTable := #[], attributes := #[] }
def k19m2 : Method := { name := "fill", desc := "([Ljava/lang/Object;Ljava/lang/Object;)V", sig := { parameters := [(.array (.object "java/lang/Object")), (.object "java/lang/Object")], returnType := none }, accessFlags := 9, code := some k19c2 }
/-- java/util/Arrays -/
def k19 : Class := { plain "java/util/Arrays" (some 0) with
  accessFlags := 49
  interfaces := #[]
  cf := some (fileOf pool19 14 #[.nestMembers #[975, 375, 113, 74]] #[{ accessFlags := 2, nameIndex := 5, descriptorIndex := 6, attributes := #[] }, { accessFlags := 9, nameIndex := 840, descriptorIndex := 845, attributes := #[] }, { accessFlags := 9, nameIndex := 840, descriptorIndex := 858, attributes := #[] }] 49 2 #[] #[{ accessFlags := 26, nameIndex := 715, descriptorIndex := 716, attributes := #[] }, { accessFlags := 26, nameIndex := 719, descriptorIndex := 716, attributes := #[] }, { accessFlags := 4120, nameIndex := 445, descriptorIndex := 117, attributes := #[] }])
  fields := #[{ name := "MIN_ARRAY_SORT_GRAN", type := .int, accessFlags := 26, slot := 0, constantValue := 0 }, { name := "INSERTIONSORT_THRESHOLD", type := .int, accessFlags := 26, slot := 1, constantValue := 0 }, { name := "$assertionsDisabled", type := .boolean, accessFlags := 4120, slot := 2, constantValue := 0 }]
  methods := #[k19m0, k19m1, k19m2]
  instanceTypes := #[]
  staticTypes := #[.int, .int, .boolean]
  resolved := Array.replicate 1029 none
  statics := none }

def pool20 : Array CpInfo := pool [(1, .class_ 2), (0, u "java/lang/Math"), (1, .class_ 6), (1, u "java/lang/Object"), (0, u "<init>"), (0, u "()V"), (89, .class_ 100), (1, u "java/lang/Math$RandomNumberGeneratorHolder"), (71, u "negativeZeroFloatBits"), (0, u "J"), (2, u "negativeZeroDoubleBits"), (21, u "max"), (46, u "$assertionsDisabled"), (0, u "Z"), (88, u "(II)I"), (2, u "twoToTheDoubleScaleDown"), (0, u "D"), (4, u "twoToTheDoubleScaleUp"), (9, u "E"), (3, u "PI"), (2, u "TAU"), (2, u "DEGREES_TO_RADIANS"), (0, u "RADIANS_TO_DEGREES")] 94

def k20m0 : Method := { name := "<init>", desc := "()V", sig := { parameters := [], returnType := none }, accessFlags := 2, code := none }
def k20c1 : Code := { maxStack := 2, maxLocals := 2, code := jdk_29_method_65_code, exceptionTable := #[], attributes := #[] }
def k20m1 : Method := { name := "max", desc := "(II)I", sig := { parameters := [.int, .int], returnType := some .int }, accessFlags := 9, code := some k20c1 }
/-- java/lang/Math -/
def k20 : Class := { plain "java/lang/Math" (some 0) with
  accessFlags := 49
  interfaces := #[]
  cf := some (fileOf pool20 1 #[.nestMembers #[98]] #[{ accessFlags := 2, nameIndex := 7, descriptorIndex := 8, attributes := #[] }, { accessFlags := 9, nameIndex := 198, descriptorIndex := 335, attributes := #[] }] 49 4 #[] #[{ accessFlags := 25, nameIndex := 354, descriptorIndex := 339, attributes := #[] }, { accessFlags := 25, nameIndex := 358, descriptorIndex := 339, attributes := #[] }, { accessFlags := 25, nameIndex := 361, descriptorIndex := 339, attributes := #[] }, { accessFlags := 26, nameIndex := 364, descriptorIndex := 339, attributes := #[] }, { accessFlags := 26, nameIndex := 365, descriptorIndex := 339, attributes := #[] }, { accessFlags := 26, nameIndex := 172, descriptorIndex := 173, attributes := #[] }, { accessFlags := 26, nameIndex := 176, descriptorIndex := 173, attributes := #[] }, { accessFlags := 8, nameIndex := 344, descriptorIndex := 339, attributes := #[] }, { accessFlags := 8, nameIndex := 338, descriptorIndex := 339, attributes := #[] }, { accessFlags := 4120, nameIndex := 245, descriptorIndex := 246, attributes := #[] }])
  fields := #[{ name := "E", type := .double, accessFlags := 25, slot := 0, constantValue := 0 }, { name := "PI", type := .double, accessFlags := 25, slot := 1, constantValue := 0 }, { name := "TAU", type := .double, accessFlags := 25, slot := 2, constantValue := 0 }, { name := "DEGREES_TO_RADIANS", type := .double, accessFlags := 26, slot := 3, constantValue := 0 }, { name := "RADIANS_TO_DEGREES", type := .double, accessFlags := 26, slot := 4, constantValue := 0 }, { name := "negativeZeroFloatBits", type := .long, accessFlags := 26, slot := 5, constantValue := 0 }, { name := "negativeZeroDoubleBits", type := .long, accessFlags := 26, slot := 6, constantValue := 0 }, { name := "twoToTheDoubleScaleUp", type := .double, accessFlags := 8, slot := 7, constantValue := 0 }, { name := "twoToTheDoubleScaleDown", type := .double, accessFlags := 8, slot := 8, constantValue := 0 }, { name := "$assertionsDisabled", type := .boolean, accessFlags := 4120, slot := 9, constantValue := 0 }]
  methods := #[k20m0, k20m1]
  instanceTypes := #[]
  staticTypes := #[.double, .double, .double, .double, .double, .long, .long, .double, .double, .boolean]
  resolved := Array.replicate 460 none
  statics := none }

/-- the primitive byte -/
def k21 : Class := { plain "byte" none with kind := .primitive 'B', accessFlags := 0x411 }
/-- [B -/
def k22 : Class := { plain "[B" (some 0) with kind := .array 21 .byte, interfaces := #[16, 4], accessFlags := 1041 }

/-- the primitive int -/
def k23 : Class := { plain "int" none with kind := .primitive 'I', accessFlags := 0x411 }
/-- [I -/
def k24 : Class := { plain "[I" (some 0) with kind := .array 23 .int, interfaces := #[16, 4], accessFlags := 1041 }

/-- [Lcom/example/urania/urania/layered/FlowSide; -/
def k25 : Class := { plain "[Lcom/example/urania/urania/layered/FlowSide;" (some 0) with kind := .array 6 (.object "com/example/urania/urania/layered/FlowSide"), interfaces := #[16, 4], accessFlags := 1041 }

/-- [Lcom/example/urania/urania/layered/Ports$Freedom; -/
def k26 : Class := { plain "[Lcom/example/urania/urania/layered/Ports$Freedom;" (some 0) with kind := .array 18 (.object "com/example/urania/urania/layered/Ports$Freedom"), interfaces := #[16, 4], accessFlags := 1041 }

/-- [Ljava/lang/Object; -/
def k27 : Class := { plain "[Ljava/lang/Object;" (some 0) with kind := .array 0 (.object "java/lang/Object"), interfaces := #[16, 4], accessFlags := 1041 }

/-- the primitive double, [D and [[D -/
def k28 : Class := { plain "double" none with kind := .primitive 'D', accessFlags := 0x411 }
def k29 : Class := { plain "[D" (some 0) with kind := .array 28 .double, interfaces := #[16, 4], accessFlags := 1041 }
def k30 : Class := { plain "[[D" (some 0) with kind := .array 29 (.array .double), interfaces := #[16, 4], accessFlags := 1041 }
def heap : Heap := #[{ cls := 6, slots := #[.ref 4, .ref 8, .ref 7, .ref 9, .null, .null], vm := .statics 6 },
  { cls := 8, slots := #[.ref 5, .null, .null, .null, .null], vm := .statics 8 },
  { cls := 17, slots := #[.long 0, .int 0, .ref 10, .ref 11], vm := .statics 17 },
  { cls := 18, slots := #[.ref 6, .null, .null, .null, .null], vm := .statics 18 },
  { cls := 6, slots := #[.null, .int 0, .int 0], vm := .none },
  { cls := 8, slots := #[.null, .int 0, .int 0], vm := .none },
  { cls := 18, slots := #[.null, .int 0, .int 0], vm := .none },
  { cls := 6, slots := #[.null, .int 0, .int 0], vm := .none },
  { cls := 6, slots := #[.null, .int 0, .int 0], vm := .none },
  { cls := 6, slots := #[.null, .int 0, .int 0], vm := .none },
  { cls := 27, slots := #[], vm := .none },
  { cls := 27, slots := #[], vm := .none }]
def classes : Array Class := #[k0, k1, k2, k3, k4, k5, k6, k7, k8, k9, k10, k11, k12, k13, k14, k15, k16, k17, k18, k19, k20, k21, k22, k23, k24, k25, k26, k27, k28, k29, k30]
def interned : List (Array UInt16 × Addr) := []
def slotsUsed : Nat := 38
def theMethod : MethodId := ⟨1, 2⟩
def args0 : Array Value := #[.int 5, .int 8, .int 11, .int 14, .int 17]
def aboutOver (below : List Frame) : State where
  vm := { classes := classes, interned := interned.toArray }
  heap := heap
  slotsUsed := slotsUsed
  threads := #[{ frames := .invoking theMethod args0 :: below }]
def below0 : List Frame := [.native { method := ⟨0, 0⟩, args := #[] }]
def about1 : State := aboutOver below0
def p0 : Program := .bare "" "" ""
def e0 : Env := launch0.env 0 0 0
theorem w_frames : about1.frames = Frame.invoking theMethod args0 :: below0 := rfl
set_option maxRecDepth 65536 in
theorem w_args : argsFit about1.vm theMethod args0 = true := by decide +kernel
set_option maxRecDepth 65536 in
theorem w_heap : heapFits about1 = true := by decide +kernel
set_option maxRecDepth 65536 in
theorem w_runnable : about1.curStatus? = some .runnable := by decide +kernel
set_option maxRecDepth 65536 in
theorem w_alone : about1.alone = true := by decide +kernel
set_option maxRecDepth 65536 in
theorem w_named : about1.methodNamed? x = some theMethod := by decide +kernel
set_option maxRecDepth 65536 in
theorem w_hears : about1.hears theMethod below0 = true := by decide +kernel
set_option maxRecDepth 65536 in
theorem w_ripe : about1.ripe theMethod args0 below0 = true := by decide +kernel
theorem w_running : about1.status = .running := rfl
set_option maxRecDepth 65536 in
theorem w_room : about1.hasRoom e0.platform room_1 = true :=
  launch0.hasRoom_least _ room_1 (by decide +kernel) (by decide +kernel) (by decide +kernel) (by decide +kernel) (by decide +kernel) (by decide +kernel)
theorem allAtoms_all (ts : List Jvm.Cond) (a : Array Jvm.Value) (st : Jvm.State) : (allAtoms ts).before a st = ts.all (fun c => c.before a st) := by
  induction ts with
  | nil => rfl
  | cons c t ih =>
    show (Jvm.Cond.and c (allAtoms t)).before a st = _
    rw [Jvm.Cond.before_and, ih, List.all_cons]
def words1 : List Jvm.Cond := Jvm.Cond.code x code maxLocals ret :: tables_1
/-- a 'code' word, met by the world's own term for the bytes: nothing is compared byte by byte -/
theorem code_word {y : MethodName} {bytes : ByteArray} {mx : Nat} {rt : Option FieldType} {a : Array Value} {s : State} {m : MethodId} {meth : Method} {c : Code} (h1 : s.methodNamed? y = some m) (h2 : s.vm.method? m = some meth) (h3 : meth.code = some c) (h4 : c.code = bytes)
    (h5 : (c.maxLocals == mx && c.exceptionTable.isEmpty && decide (c.maxStack ≤ mostOperands) && decide (meth.sig.returnType = rt) && !meth.locks && decide (parseMethodDescriptor y.desc = some meth.sig)) = true) : (Jvm.Cond.code y bytes mx rt).before a s = true := by
  simp only [Bool.and_eq_true, beq_iff_eq, Bool.not_eq_true', decide_eq_true_eq] at h5
  obtain ⟨⟨⟨⟨⟨g1, g2⟩, g3⟩, g4⟩, g5⟩, g6⟩ := h5
  simp [Cond.before, Cond.holds, Cond.value, h1, h2, h3, h4, g1, g2, g3, g4, g5, g6]
def isCode : Jvm.Cond → Bool
  | .code _ _ _ _ => true
  | _ => false
theorem all_split {L : List Jvm.Cond} {P : Jvm.Cond → Bool} (h1 : L.all (fun c => isCode c || P c) = true) (h2 : ∀ c ∈ L.filter isCode, P c = true) : L.all P = true := by
  refine List.all_eq_true.mpr fun c hc => ?_
  have h := List.all_eq_true.mp h1 c hc
  rcases Bool.eq_false_or_eq_true (isCode c) with hi | hi
  · exact h2 c (List.mem_filter.mpr ⟨hc, hi⟩)
  · simpa [hi] using h
set_option maxRecDepth 65536 in
theorem w_c0 : (Jvm.Cond.code x code maxLocals ret).before args0 about1 = true := code_word (m := ⟨1, 2⟩) (meth := k1m2) (c := k1c2) (by decide +kernel) rfl rfl rfl (by decide +kernel)
set_option maxRecDepth 65536 in
theorem w_c1 : (Jvm.Cond.code ({ cls := "com/example/urania/urania/layered/PortsSetBorderPinLaw", name := "sideOf", desc := "(I)Lcom/example/urania/urania/layered/FlowSide;" } : Jvm.MethodName) method_2_code (2 : Nat) (Option.some (Jvm.ClassFile.FieldType.object "com/example/urania/urania/layered/FlowSide"))).before args0 about1 = true := code_word (m := ⟨1, 1⟩) (meth := k1m1) (c := k1c1) (by decide +kernel) rfl rfl rfl (by decide +kernel)
set_option maxRecDepth 65536 in
theorem w_c2 : (Jvm.Cond.code ({ cls := "com/example/urania/urania/layered/Ports", name := "<init>", desc := "(IILcom/example/urania/urania/Direction;)V" } : Jvm.MethodName) prog_81_method_1_code (5 : Nat) (Option.none : Option Jvm.ClassFile.FieldType)).before args0 about1 = true := code_word (m := ⟨7, 0⟩) (meth := k7m0) (c := k7c0) (by decide +kernel) rfl rfl rfl (by decide +kernel)
set_option maxRecDepth 65536 in
theorem w_c3 : (Jvm.Cond.code ({ cls := "java/lang/Object", name := "<init>", desc := "()V" } : Jvm.MethodName) object_method_1_code (1 : Nat) (Option.none : Option Jvm.ClassFile.FieldType)).before args0 about1 = true := code_word (m := ⟨0, 0⟩) (meth := k0m0) (c := k0c0) (by decide +kernel) rfl rfl rfl (by decide +kernel)
set_option maxRecDepth 65536 in
theorem w_c4 : (Jvm.Cond.code ({ cls := "java/util/ArrayList", name := "<init>", desc := "()V" } : Jvm.MethodName) jdk_38_method_2_code (1 : Nat) (Option.none : Option Jvm.ClassFile.FieldType)).before args0 about1 = true := code_word (m := ⟨17, 0⟩) (meth := k17m0) (c := k17c0) (by decide +kernel) rfl rfl rfl (by decide +kernel)
set_option maxRecDepth 65536 in
theorem w_c5 : (Jvm.Cond.code ({ cls := "java/util/AbstractList", name := "<init>", desc := "()V" } : Jvm.MethodName) jdk_39_method_1_code (1 : Nat) (Option.none : Option Jvm.ClassFile.FieldType)).before args0 about1 = true := code_word (m := ⟨14, 0⟩) (meth := k14m0) (c := k14c0) (by decide +kernel) rfl rfl rfl (by decide +kernel)
set_option maxRecDepth 65536 in
theorem w_c6 : (Jvm.Cond.code ({ cls := "java/util/AbstractCollection", name := "<init>", desc := "()V" } : Jvm.MethodName) jdk_22_method_1_code (1 : Nat) (Option.none : Option Jvm.ClassFile.FieldType)).before args0 about1 = true := code_word (m := ⟨11, 0⟩) (meth := k11m0) (c := k11c0) (by decide +kernel) rfl rfl rfl (by decide +kernel)
set_option maxRecDepth 65536 in
theorem w_c7 : (Jvm.Cond.code ({ cls := "java/util/Arrays", name := "fill", desc := "([Ljava/lang/Object;Ljava/lang/Object;)V" } : Jvm.MethodName) jdk_65_method_117_code (4 : Nat) (Option.none : Option Jvm.ClassFile.FieldType)).before args0 about1 = true := code_word (m := ⟨19, 2⟩) (meth := k19m2) (c := k19c2) (by decide +kernel) rfl rfl rfl (by decide +kernel)
set_option maxRecDepth 65536 in
theorem w_c8 : (Jvm.Cond.code ({ cls := "java/util/ArrayList", name := "add", desc := "(Ljava/lang/Object;)Z" } : Jvm.MethodName) jdk_38_method_25_code (2 : Nat) (Option.some Jvm.ClassFile.FieldType.boolean)).before args0 about1 = true := code_word (m := ⟨17, 4⟩) (meth := k17m4) (c := k17c4) (by decide +kernel) rfl rfl rfl (by decide +kernel)
set_option maxRecDepth 65536 in
theorem w_c9 : (Jvm.Cond.code ({ cls := "java/util/ArrayList", name := "add", desc := "(Ljava/lang/Object;[Ljava/lang/Object;I)V" } : Jvm.MethodName) jdk_38_method_24_code (4 : Nat) (Option.none : Option Jvm.ClassFile.FieldType)).before args0 about1 = true := code_word (m := ⟨17, 3⟩) (meth := k17m3) (c := k17c3) (by decide +kernel) rfl rfl rfl (by decide +kernel)
set_option maxRecDepth 65536 in
theorem w_c10 : (Jvm.Cond.code ({ cls := "java/util/ArrayList", name := "grow", desc := "()[Ljava/lang/Object;" } : Jvm.MethodName) jdk_38_method_7_code (1 : Nat) (Option.some (Jvm.ClassFile.FieldType.array (Jvm.ClassFile.FieldType.object "java/lang/Object")))).before args0 about1 = true := code_word (m := ⟨17, 2⟩) (meth := k17m2) (c := k17c2) (by decide +kernel) rfl rfl rfl (by decide +kernel)
set_option maxRecDepth 65536 in
theorem w_c11 : (Jvm.Cond.code ({ cls := "java/util/ArrayList", name := "grow", desc := "(I)[Ljava/lang/Object;" } : Jvm.MethodName) jdk_38_method_6_code (4 : Nat) (Option.some (Jvm.ClassFile.FieldType.array (Jvm.ClassFile.FieldType.object "java/lang/Object")))).before args0 about1 = true := code_word (m := ⟨17, 1⟩) (meth := k17m1) (c := k17c1) (by decide +kernel) rfl rfl rfl (by decide +kernel)
set_option maxRecDepth 65536 in
theorem w_c12 : (Jvm.Cond.code ({ cls := "java/lang/Math", name := "max", desc := "(II)I" } : Jvm.MethodName) jdk_29_method_65_code (2 : Nat) (Option.some Jvm.ClassFile.FieldType.int)).before args0 about1 = true := code_word (m := ⟨20, 1⟩) (meth := k20m1) (c := k20c1) (by decide +kernel) rfl rfl rfl (by decide +kernel)
set_option maxRecDepth 65536 in
theorem w_c13 : (Jvm.Cond.code ({ cls := "java/util/Arrays", name := "fill", desc := "([II)V" } : Jvm.MethodName) jdk_65_method_103_code (4 : Nat) (Option.none : Option Jvm.ClassFile.FieldType)).before args0 about1 = true := code_word (m := ⟨19, 1⟩) (meth := k19m1) (c := k19c1) (by decide +kernel) rfl rfl rfl (by decide +kernel)
set_option maxRecDepth 65536 in
theorem w_c14 : (Jvm.Cond.code ({ cls := "com/example/urania/urania/layered/Ports", name := "setBorder", desc := "(ILcom/example/urania/urania/layered/FlowSide;DD)V" } : Jvm.MethodName) prog_81_method_8_code (7 : Nat) (Option.none : Option Jvm.ClassFile.FieldType)).before args0 about1 = true := code_word (m := ⟨7, 1⟩) (meth := k7m1) (c := k7c1) (by decide +kernel) rfl rfl rfl (by decide +kernel)
set_option maxRecDepth 65536 in
theorem w_c15 : (Jvm.Cond.code ({ cls := "com/example/urania/urania/layered/Ports", name := "borderPort", desc := "(I)[D" } : Jvm.MethodName) prog_81_method_30_code (2 : Nat) (Option.some (Jvm.ClassFile.FieldType.array Jvm.ClassFile.FieldType.double))).before args0 about1 = true := code_word (m := ⟨7, 4⟩) (meth := k7m4) (c := k7c4) (by decide +kernel) rfl rfl rfl (by decide +kernel)
set_option maxRecDepth 65536 in
theorem w_c16 : (Jvm.Cond.code ({ cls := "com/example/urania/urania/layered/Ports", name := "border", desc := "(I)Lcom/example/urania/urania/layered/FlowSide;" } : Jvm.MethodName) prog_81_method_28_code (2 : Nat) (Option.some (Jvm.ClassFile.FieldType.object "com/example/urania/urania/layered/FlowSide"))).before args0 about1 = true := code_word (m := ⟨7, 2⟩) (meth := k7m2) (c := k7c2) (by decide +kernel) rfl rfl rfl (by decide +kernel)
set_option maxRecDepth 65536 in
theorem w_c17 : (Jvm.Cond.code ({ cls := "com/example/urania/urania/layered/Ports", name := "borders", desc := "()[Lcom/example/urania/urania/layered/FlowSide;" } : Jvm.MethodName) prog_81_method_29_code (1 : Nat) (Option.some (Jvm.ClassFile.FieldType.array (Jvm.ClassFile.FieldType.object "com/example/urania/urania/layered/FlowSide")))).before args0 about1 = true := code_word (m := ⟨7, 3⟩) (meth := k7m3) (c := k7c3) (by decide +kernel) rfl rfl rfl (by decide +kernel)
def codes1 : List Jvm.Cond := [Jvm.Cond.code x code maxLocals ret, Jvm.Cond.code ({ cls := "com/example/urania/urania/layered/PortsSetBorderPinLaw", name := "sideOf", desc := "(I)Lcom/example/urania/urania/layered/FlowSide;" } : Jvm.MethodName) method_2_code (2 : Nat) (Option.some (Jvm.ClassFile.FieldType.object "com/example/urania/urania/layered/FlowSide")), Jvm.Cond.code ({ cls := "com/example/urania/urania/layered/Ports", name := "<init>", desc := "(IILcom/example/urania/urania/Direction;)V" } : Jvm.MethodName) prog_81_method_1_code (5 : Nat) (Option.none : Option Jvm.ClassFile.FieldType), Jvm.Cond.code ({ cls := "java/lang/Object", name := "<init>", desc := "()V" } : Jvm.MethodName) object_method_1_code (1 : Nat) (Option.none : Option Jvm.ClassFile.FieldType), Jvm.Cond.code ({ cls := "java/util/ArrayList", name := "<init>", desc := "()V" } : Jvm.MethodName) jdk_38_method_2_code (1 : Nat) (Option.none : Option Jvm.ClassFile.FieldType), Jvm.Cond.code ({ cls := "java/util/AbstractList", name := "<init>", desc := "()V" } : Jvm.MethodName) jdk_39_method_1_code (1 : Nat) (Option.none : Option Jvm.ClassFile.FieldType), Jvm.Cond.code ({ cls := "java/util/AbstractCollection", name := "<init>", desc := "()V" } : Jvm.MethodName) jdk_22_method_1_code (1 : Nat) (Option.none : Option Jvm.ClassFile.FieldType), Jvm.Cond.code ({ cls := "java/util/Arrays", name := "fill", desc := "([Ljava/lang/Object;Ljava/lang/Object;)V" } : Jvm.MethodName) jdk_65_method_117_code (4 : Nat) (Option.none : Option Jvm.ClassFile.FieldType), Jvm.Cond.code ({ cls := "java/util/ArrayList", name := "add", desc := "(Ljava/lang/Object;)Z" } : Jvm.MethodName) jdk_38_method_25_code (2 : Nat) (Option.some Jvm.ClassFile.FieldType.boolean), Jvm.Cond.code ({ cls := "java/util/ArrayList", name := "add", desc := "(Ljava/lang/Object;[Ljava/lang/Object;I)V" } : Jvm.MethodName) jdk_38_method_24_code (4 : Nat) (Option.none : Option Jvm.ClassFile.FieldType), Jvm.Cond.code ({ cls := "java/util/ArrayList", name := "grow", desc := "()[Ljava/lang/Object;" } : Jvm.MethodName) jdk_38_method_7_code (1 : Nat) (Option.some (Jvm.ClassFile.FieldType.array (Jvm.ClassFile.FieldType.object "java/lang/Object"))), Jvm.Cond.code ({ cls := "java/util/ArrayList", name := "grow", desc := "(I)[Ljava/lang/Object;" } : Jvm.MethodName) jdk_38_method_6_code (4 : Nat) (Option.some (Jvm.ClassFile.FieldType.array (Jvm.ClassFile.FieldType.object "java/lang/Object"))), Jvm.Cond.code ({ cls := "java/lang/Math", name := "max", desc := "(II)I" } : Jvm.MethodName) jdk_29_method_65_code (2 : Nat) (Option.some Jvm.ClassFile.FieldType.int), Jvm.Cond.code ({ cls := "java/util/Arrays", name := "fill", desc := "([II)V" } : Jvm.MethodName) jdk_65_method_103_code (4 : Nat) (Option.none : Option Jvm.ClassFile.FieldType), Jvm.Cond.code ({ cls := "com/example/urania/urania/layered/Ports", name := "setBorder", desc := "(ILcom/example/urania/urania/layered/FlowSide;DD)V" } : Jvm.MethodName) prog_81_method_8_code (7 : Nat) (Option.none : Option Jvm.ClassFile.FieldType), Jvm.Cond.code ({ cls := "com/example/urania/urania/layered/Ports", name := "borderPort", desc := "(I)[D" } : Jvm.MethodName) prog_81_method_30_code (2 : Nat) (Option.some (Jvm.ClassFile.FieldType.array Jvm.ClassFile.FieldType.double)), Jvm.Cond.code ({ cls := "com/example/urania/urania/layered/Ports", name := "border", desc := "(I)Lcom/example/urania/urania/layered/FlowSide;" } : Jvm.MethodName) prog_81_method_28_code (2 : Nat) (Option.some (Jvm.ClassFile.FieldType.object "com/example/urania/urania/layered/FlowSide")), Jvm.Cond.code ({ cls := "com/example/urania/urania/layered/Ports", name := "borders", desc := "()[Lcom/example/urania/urania/layered/FlowSide;" } : Jvm.MethodName) prog_81_method_29_code (1 : Nat) (Option.some (Jvm.ClassFile.FieldType.array (Jvm.ClassFile.FieldType.object "com/example/urania/urania/layered/FlowSide")))]
set_option maxRecDepth 65536 in
theorem codes_eq : words1.filter isCode = codes1 := rfl
theorem w_codes : ∀ c ∈ words1.filter isCode, c.before args0 about1 = true := by
  rw [codes_eq]
  intro c hc
  simp only [codes1, List.mem_cons, List.not_mem_nil, or_false] at hc
  rcases hc with rfl | rfl | rfl | rfl | rfl | rfl | rfl | rfl | rfl | rfl | rfl | rfl | rfl | rfl | rfl | rfl | rfl | rfl
  · exact w_c0
  · exact w_c1
  · exact w_c2
  · exact w_c3
  · exact w_c4
  · exact w_c5
  · exact w_c6
  · exact w_c7
  · exact w_c8
  · exact w_c9
  · exact w_c10
  · exact w_c11
  · exact w_c12
  · exact w_c13
  · exact w_c14
  · exact w_c15
  · exact w_c16
  · exact w_c17
set_option maxRecDepth 65536 in
theorem w_t1 : (words1.take 24).all (fun c => isCode c || c.before args0 about1) = true := by decide +kernel
set_option maxRecDepth 65536 in
theorem w_t2 : ((words1.drop 24).take 24).all (fun c => isCode c || c.before args0 about1) = true := by decide +kernel
set_option maxRecDepth 65536 in
theorem w_t3 : (((words1.drop 24).drop 24).take 24).all (fun c => isCode c || c.before args0 about1) = true := by decide +kernel
set_option maxRecDepth 65536 in
theorem w_t4 : ((((words1.drop 24).drop 24).drop 24).take 24).all (fun c => isCode c || c.before args0 about1) = true := by decide +kernel
set_option maxRecDepth 65536 in
theorem w_t5 : (((((words1.drop 24).drop 24).drop 24).drop 24).take 24).all (fun c => isCode c || c.before args0 about1) = true := by decide +kernel
set_option maxRecDepth 65536 in
theorem w_t6 : ((((((words1.drop 24).drop 24).drop 24).drop 24).drop 24).take 24).all (fun c => isCode c || c.before args0 about1) = true := by decide +kernel
set_option maxRecDepth 65536 in
theorem w_t7 : ((((((words1.drop 24).drop 24).drop 24).drop 24).drop 24).drop 24).all (fun c => isCode c || c.before args0 about1) = true := by decide +kernel
theorem w_tables : (allAtoms (Jvm.Cond.code x code maxLocals ret :: tables_1)).before args0 about1 = true := by
  rw [allAtoms_all]
  show words1.all (fun c => c.before args0 about1) = true
  refine all_split ?_ w_codes
  rw [← List.take_append_drop 24 words1, List.all_append, w_t1, ← List.take_append_drop 24 (words1.drop 24), List.all_append, w_t2, ← List.take_append_drop 24 ((words1.drop 24).drop 24), List.all_append, w_t3, ← List.take_append_drop 24 (((words1.drop 24).drop 24).drop 24), List.all_append, w_t4, ← List.take_append_drop 24 ((((words1.drop 24).drop 24).drop 24).drop 24), List.all_append, w_t5, ← List.take_append_drop 24 (((((words1.drop 24).drop 24).drop 24).drop 24).drop 24), List.all_append, w_t6, w_t7]
  rfl
set_option maxRecDepth 65536 in
theorem w_rest : rest_1_c.before args0 about1 = true := by decide +kernel
set_option maxRecDepth 65536 in
theorem w_case : (Jvm.Cond.and given_1 narrow_1).before args0 about1 = true := by decide +kernel
theorem w_applies : (headSpec (Jvm.Cond.code x code maxLocals ret :: tables_1) room_1).applies x e0.platform about1 = true :=
  (Spec.applies_iff w_frames).mpr ⟨w_running, w_runnable, w_alone, w_named, w_hears, w_ripe, w_room, w_tables⟩
theorem atStart : AtStart classFile x code maxLocals ret World_1 tables_1 room_1 Calls_1 rest_1 Pre_1 launch0 p0 e0 about1 theMethod args0 below0 :=
  ⟨lists_1, trivial, launch0.admits_env _ _ _, launch0.least_env, fairChoices_fair.cas, fairChoices_fair.clock, w_frames, w_args, w_heap, w_applies, trivial, w_rest, w_case⟩
end start1
theorem witness_1 : WitnessClaimed_1 := ⟨start1.p0, start1.e0, start1.about1, start1.theMethod, start1.args0, start1.below0, start1.atStart⟩
end Jvm.Pilot.@@N@@
