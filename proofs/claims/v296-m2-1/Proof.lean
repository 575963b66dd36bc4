import JvmDerived
import JvmDerived.Pilot.@@N@@Statement
import JvmDerived.Pilot.@@N@@Code
set_option linter.unusedVariables false
set_option linter.unusedSimpArgs false
namespace Jvm.Pilot.@@N@@
open Jvm Jvm.ClassFile Sem Op Lib Jvm.Free Jvm.Stand Jvm.LawKit Jvm.RoadKit Bundle Jvm.Pilot.@@N@@.Jvm.D

theorem own_w {Z : State} {a0 : Array Value} (hw : ∀ d ∈ tables_1, d.before a0 Z = true) (i : Nat) {d : Jvm.Cond} (h : tables_1[i]? = some d) : d.before a0 Z = true := hw d (List.mem_of_getElem? h)
def own_Fin (p : Program) (e : Env) (below : List Frame) (G : Outcome → State → Prop) (st : State) : Prop := ∃ t o, Steps p.tables e below st t ∧ t.status = .running ∧ Ended t below o ∧ G o t
section OwnKit
variable {p : Program} {l : Launch} {e : Env} {R : Room} {s : State} {m : MethodId} {args : Array Value} {below : List Frame} {meth : Method} {c : Code} {T : State} {locs : List Loc} {cells slots : Nat} {Z : State} {a0 : Array Value} {h h' : Heap} {G : Outcome → State → Prop} {st st' : State} {Qk : Option Value → Heap → List Loc → Prop} {K N : Nat} {a b : Addr} {ty : FieldType} {vs : List Value} {ws : List Addr} {sl : Nat} {v : Value}
theorem own_st (k : ∀ target, Steps p.tables e below st' target → Steps p.tables e below st target) (q : own_Fin p e below G st') : own_Fin p e below G st := by
  obtain ⟨t, o, h1, h2⟩ := q; exact ⟨t, o, k t h1, h2⟩
theorem own_tr (k : Steps p.tables e below st st') (q : own_Fin p e below G st') : own_Fin p e below G st := by
  obtain ⟨t, o, h1, h2⟩ := q; exact ⟨t, o, k.trans h1, h2⟩
theorem own_start (q : ∀ G : Outcome → State → Prop, (∀ v L t, Qk v t.heap L → FrameEnd s (.returned v) t L K N → G (.returned v) t) → own_Fin p e below G st) : ∃ s₂ o, Steps p.tables e below st s₂ ∧ s₂.status = .running ∧ Ended s₂ below o ∧ ∃ v L, o = .returned v ∧ Qk v s₂.heap L ∧ FrameEnd s o s₂ L K N :=
  q _ (fun v L t q f => ⟨v, L, rfl, q, f⟩)
theorem own_out (X : Stand p l e R s m args below meth c T locs cells slots) (hlocks : meth.locks = false) {v : Option Value} (hv : meth.sig.returnType = none → v = none) (hG : ∀ v L t, Qk v t.heap L → FrameEnd s (.returned v) t L K N → G (.returned v) t)
    (hstep : ∀ fs, (∀ (f : JFrame) (acts : List Action), f.method = m → f.locked = none → f.entered = [] → (doReturn e (T.setTop f) acts v).1 = T.setFrames fs) → Steps p.tables e below st (T.setFrames fs)) (hc : cells ≤ K) (hn : slots ≤ N) (hQ : Qk v T.heap locs) : own_Fin p e below G st := by
  obtain ⟨fs, hr, hrun, hended, hW, hsame⟩ := X.leave hv hlocks
  exact ⟨_, _, hstep fs hr, hrun, hended, hG _ _ _ hQ ⟨⟨_, rfl⟩, hW, hsame.mono hc hn⟩⟩
theorem own_ldc (X : Stand p l e R s m args below meth c T locs cells slots) (hx : p.tables.exec = Jvm.exec) (hZ : Z.Warmed39 s.vm) {own : String} {index : Nat} {v : Int32} (hown : s.vm.findClass own = some m.cls) (w : (Cond.constant own index v).before a0 Z = true) {g : JFrame} (hg : g.method = m) (hd : decode c.code g.pc = .ok (.ldc index, 2)) {target : State}
    (kk : Steps p.tables e below (T.setTop { g with pc := g.pc + 2, stack := .int v :: g.stack }) target) : Steps p.tables e below (T.setTop g) target := X.ldcInt hx hown (mvT hZ w) hg hd target kk
theorem own_ldcJ (X : Stand p l e R s m args below meth c T locs cells slots) (hx : p.tables.exec = Jvm.exec) (hZ : Z.Warmed39 s.vm) {own : String} {index : Nat} {v : Int64} (hown : s.vm.findClass own = some m.cls) (w : (Cond.constantLong own index v).before a0 Z = true) {g : JFrame} (hg : g.method = m) (hd : decode c.code g.pc = .ok (.ldc2_w index, 3)) {target : State}
    (kk : Steps p.tables e below (T.setTop { g with pc := g.pc + 3, stack := .long v :: g.stack }) target) : Steps p.tables e below (T.setTop g) target := X.ldc2Long hx hown (mvT hZ w) hg hd target kk
theorem own_ldcF (X : Stand p l e R s m args below meth c T locs cells slots) (hx : p.tables.exec = Jvm.exec) (hZ : Z.Warmed39 s.vm) {own : String} {index : Nat} {v : UInt32} (hown : s.vm.findClass own = some m.cls) (w : (Cond.constantFloat own index v).before a0 Z = true) {g : JFrame} (hg : g.method = m) (hd : decode c.code g.pc = .ok (.ldc index, 2)) {target : State}
    (kk : Steps p.tables e below (T.setTop { g with pc := g.pc + 2, stack := .float v :: g.stack }) target) : Steps p.tables e below (T.setTop g) target := X.ldcFloatC hx hown (mvT hZ w) hg hd target kk
def own_AV (Z : State) (h : Heap) (a : Addr) (ty : FieldType) (vs : List Value) : Prop := ∃ c : Cell, Arr Z h a c ty ∧ c.slots.toList = vs
def own_is (xs : List Int32) : List Value := xs.map Value.int
def own_js (xs : List Int64) : List Value := xs.map Value.long
theorem own_AV.lt (A : own_AV Z h a ty vs) : a < h.size := by obtain ⟨c, A, -⟩ := A; exact A.lt
theorem own_AV.ext (A : own_AV Z h a ty vs) (E : Ext h h') : own_AV Z h' a ty vs := by obtain ⟨c, A, r⟩ := A; exact ⟨c, A.ext E, r⟩
theorem own_AV.other (A : own_AV Z h b ty vs) (W : Wr h h' a sl v) (q : b ≠ a) : own_AV Z h' b ty vs := by obtain ⟨c, A, r⟩ := A; exact ⟨c, A.other W q, r⟩
theorem own_AV.keep (A : own_AV Z h a ty vs) (K : Keep h h' ws) (q : a ∉ ws) : own_AV Z h' a ty vs := by obtain ⟨c, A, r⟩ := A; exact ⟨c, ⟨K.2.1 a c A.1 q, A.2⟩, r⟩
theorem own_AV_new {k : ClassId} {z : Int32} (A : Arr Z h a (newA k ty z) ty) : own_AV Z h a ty (List.replicate z.toNatClampNeg (defaultValue ty)) := ⟨_, A, by simp [newA]⟩
theorem own_AV_newI {k : ClassId} {z : Int32} (A : Arr Z h a (newA k .int z) .int) : own_AV Z h a .int (own_is (List.replicate z.toNatClampNeg 0)) := ⟨_, A, by simp [newA, own_is, defaultValue]⟩
theorem own_AV_newJ {k : ClassId} {z : Int32} (A : Arr Z h a (newA k .long z) .long) : own_AV Z h a .long (own_js (List.replicate z.toNatClampNeg 0)) := ⟨_, A, by simp [newA, own_js, defaultValue]⟩
theorem own_in {c : Cell} {n : Nat} {j : Int32} (r : c.slots.toList = vs) (hn : vs.length = n) (hj : ¬ (j < 0 ∨ n ≤ j.toNatClampNeg)) : ¬ (j < 0 ∨ c.slots.size ≤ j.toNatClampNeg) := by
  rw [← Array.length_toList, r, hn]; exact hj
theorem own_nat {n : Nat} {j : Int32} (hj : ¬ (j < 0 ∨ n ≤ j.toNatClampNeg)) : j.toNatClampNeg < n := Nat.lt_of_not_le fun q => hj (Or.inr q)
theorem own_ldI (X : Stand p l e R s m args below meth c T locs cells slots) (hx : p.tables.exec = Jvm.exec) (hZ : Z.Warmed39 s.vm) (eT : T.heap = h) {xs : List Int32} (A : own_AV Z h a .int (own_is xs)) {j : Int32} {n : Nat} (hn : xs.length = n) (hj : ¬ (j < 0 ∨ n ≤ j.toNatClampNeg))
    {g : JFrame} (hg : g.method = m) {rest : List Value} (hs : g.stack = .int j :: .ref a :: rest) (hd : decode c.code g.pc = .ok (.iaload, 1)) {target : State} (kk : Steps p.tables e below (T.setTop { g with pc := g.pc + 1, stack := .int (xs.getD j.toNatClampNeg 0) :: rest }) target) : Steps p.tables e below (T.setTop g) target := by
  obtain ⟨cl, A, r⟩ := A
  have hlt := own_nat hj
  refine X.iaload hx (by rw [eT]; exact A.1) (State.isArrayOf_alike hZ.alike A.2.1) A.2.2 (own_in r (by simp [own_is, hn]) hj) ?_ hg hs hd _ kk
  rw [← Array.getElem?_toList, r]
  simp [own_is, List.getD_eq_getElem?_getD, List.getElem?_eq_getElem (hn ▸ hlt)]
theorem own_ldJ (X : Stand p l e R s m args below meth c T locs cells slots) (hx : p.tables.exec = Jvm.exec) (hZ : Z.Warmed39 s.vm) (eT : T.heap = h) {xs : List Int64} (A : own_AV Z h a .long (own_js xs)) {j : Int32} {n : Nat} (hn : xs.length = n) (hj : ¬ (j < 0 ∨ n ≤ j.toNatClampNeg))
    {g : JFrame} (hg : g.method = m) {rest : List Value} (hs : g.stack = .int j :: .ref a :: rest) (hd : decode c.code g.pc = .ok (.laload, 1)) {target : State} (kk : Steps p.tables e below (T.setTop { g with pc := g.pc + 1, stack := .long (xs.getD j.toNatClampNeg 0) :: rest }) target) : Steps p.tables e below (T.setTop g) target := by
  obtain ⟨cl, A, r⟩ := A
  have hlt := own_nat hj
  refine X.laload hx (by rw [eT]; exact A.1) (State.isArrayOf_alike hZ.alike A.2.1) A.2.2 (own_in r (by simp [own_js, hn]) hj) ?_ hg hs hd _ kk
  rw [← Array.getElem?_toList, r]
  simp [own_js, List.getD_eq_getElem?_getD, List.getElem?_eq_getElem (hn ▸ hlt)]
theorem own_set {cl : Cell} {j : Nat} (A : Arr Z h a cl ty) (r : cl.slots.toList = vs) (W : Wr h h' a j v) : own_AV Z h' a ty (vs.set j v) := ⟨_, A.same W, by simp [Cell.setSlot, ← r]⟩
theorem own_stI (X : Stand p l e R s m args below meth c T locs cells slots) (hx : p.tables.exec = Jvm.exec) (hZ : Z.Warmed39 s.vm) (eT : T.heap = h) {xs : List Int32} (A : own_AV Z h a .int (own_is xs)) {j x : Int32} {n : Nat} (hn : xs.length = n) (hj : ¬ (j < 0 ∨ n ≤ j.toNatClampNeg))
    {g : JFrame} (hg : g.method = m) {rest : List Value} (hs : g.stack = .int x :: .int j :: .ref a :: rest) (hd : decode c.code g.pc = .ok (.iastore, 1)) :
    ∃ T' h', Stand p l e R s m args below meth c T' (locs ++ [⟨a, j.toNatClampNeg⟩]) cells slots ∧ T'.heap = h' ∧ Wr h h' a j.toNatClampNeg (.int x) ∧ own_AV Z h' a .int (own_is (xs.set j.toNatClampNeg x)) ∧ ∀ target, Steps p.tables e below (T'.setTop { g with pc := g.pc + 1, stack := rest }) target → Steps p.tables e below (T.setTop g) target := by
  obtain ⟨cl, A, r⟩ := A
  obtain ⟨T', h', X', e', W, st⟩ := stI X hx hZ eT A (own_in r (by simp [own_is, hn]) hj) hg hs hd
  exact ⟨T', h', X', e', W, by have q := own_set A r W; simpa [own_is, List.map_set] using q, st⟩
theorem own_stJ (X : Stand p l e R s m args below meth c T locs cells slots) (hx : p.tables.exec = Jvm.exec) (hZ : Z.Warmed39 s.vm) (eT : T.heap = h) {xs : List Int64} (A : own_AV Z h a .long (own_js xs)) {j : Int32} {x : Int64} {n : Nat} (hn : xs.length = n) (hj : ¬ (j < 0 ∨ n ≤ j.toNatClampNeg))
    {g : JFrame} (hg : g.method = m) {rest : List Value} (hs : g.stack = .long x :: .int j :: .ref a :: rest) (hd : decode c.code g.pc = .ok (.lastore, 1)) :
    ∃ T' h', Stand p l e R s m args below meth c T' (locs ++ [⟨a, j.toNatClampNeg⟩]) cells slots ∧ T'.heap = h' ∧ Wr h h' a j.toNatClampNeg (.long x) ∧ own_AV Z h' a .long (own_js (xs.set j.toNatClampNeg x)) ∧ ∀ target, Steps p.tables e below (T'.setTop { g with pc := g.pc + 1, stack := rest }) target → Steps p.tables e below (T.setTop g) target := by
  obtain ⟨cl, A, r⟩ := A
  obtain ⟨T', h', X', e', W, st⟩ := stJ X hx hZ eT A (own_in r (by simp [own_js, hn]) hj) hg hs hd
  exact ⟨T', h', X', e', W, by have q := own_set A r W; simpa [own_js, List.map_set] using q, st⟩
theorem own_len (X : Stand p l e R s m args below meth c T locs cells slots) (hx : p.tables.exec = Jvm.exec) (hZ : Z.Warmed39 s.vm) (eT : T.heap = h) (A : own_AV Z h a ty vs) {z : Int32} (hz : vs.length.toInt32 = z)
    {g : JFrame} (hg : g.method = m) {rest : List Value} (hs : g.stack = .ref a :: rest) (hd : decode c.code g.pc = .ok (.arraylength, 1)) {target : State} (kk : Steps p.tables e below (T.setTop { g with pc := g.pc + 1, stack := .int z :: rest }) target) : Steps p.tables e below (T.setTop g) target := by
  obtain ⟨cl, A, r⟩ := A
  refine X.arraylength hx (by rw [eT]; exact A.1) (State.isArrayOf_alike hZ.alike A.2.1) hg hs hd target ?_
  rw [← Array.length_toList, r, hz]; exact kk
def own_ds (xs : List UInt64) : List Value := xs.map Value.double
theorem own_AV_newD {k : ClassId} {z : Int32} (A : Arr Z h a (newA k .double z) .double) : own_AV Z h a .double (own_ds (List.replicate z.toNatClampNeg 0)) := ⟨_, A, by simp [newA, own_ds, defaultValue]⟩
theorem own_stD (X : Stand p l e R s m args below meth c T locs cells slots) (hx : p.tables.exec = Jvm.exec) (hZ : Z.Warmed39 s.vm) (eT : T.heap = h) {xs : List UInt64} (A : own_AV Z h a .double (own_ds xs)) {j : Int32} {x : UInt64} {n : Nat} (hn : xs.length = n) (hj : ¬ (j < 0 ∨ n ≤ j.toNatClampNeg))
    {g : JFrame} (hg : g.method = m) {rest : List Value} (hs : g.stack = .double x :: .int j :: .ref a :: rest) (hd : decode c.code g.pc = .ok (.dastore, 1)) :
    ∃ T' h', Stand p l e R s m args below meth c T' (locs ++ [⟨a, j.toNatClampNeg⟩]) cells slots ∧ T'.heap = h' ∧ Wr h h' a j.toNatClampNeg (.double x) ∧ own_AV Z h' a .double (own_ds (xs.set j.toNatClampNeg x)) ∧ ∀ target, Steps p.tables e below (T'.setTop { g with pc := g.pc + 1, stack := rest }) target → Steps p.tables e below (T.setTop g) target := by
  obtain ⟨cl, A, r⟩ := A
  obtain ⟨T', h', X', e', W, st⟩ := stD X hx hZ eT A (own_in r (by simp [own_ds, hn]) hj) hg hs hd
  exact ⟨T', h', X', e', W, by have q := own_set A r W; simpa [own_ds, List.map_set] using q, st⟩
theorem own_ldD (X : Stand p l e R s m args below meth c T locs cells slots) (hx : p.tables.exec = Jvm.exec) (hZ : Z.Warmed39 s.vm) (eT : T.heap = h) {xs : List UInt64} (A : own_AV Z h a .double (own_ds xs)) {j : Int32} {n : Nat} (hn : xs.length = n) (hj : ¬ (j < 0 ∨ n ≤ j.toNatClampNeg))
    {g : JFrame} (hg : g.method = m) {rest : List Value} (hs : g.stack = .int j :: .ref a :: rest) (hd : decode c.code g.pc = .ok (.daload, 1)) {target : State} (kk : Steps p.tables e below (T.setTop { g with pc := g.pc + 1, stack := .double (xs.getD j.toNatClampNeg 0) :: rest }) target) : Steps p.tables e below (T.setTop g) target := by
  obtain ⟨cl, A, r⟩ := A
  have hlt := own_nat hj
  refine X.daload hx (by rw [eT]; exact A.1) (State.isArrayOf_alike hZ.alike A.2.1) A.2.2 (own_in r (by simp [own_ds, hn]) hj) ?_ hg hs hd _ kk
  rw [← Array.getElem?_toList, r]
  simp [own_ds, List.getD_eq_getElem?_getD, List.getElem?_eq_getElem (hn ▸ hlt)]
def own_AVk (Z : State) (h : Heap) (a : Addr) (k : ClassId) (ty : FieldType) (vs : List Value) : Prop := ∃ c : Cell, Arr Z h a c ty ∧ c.cls = k ∧ c.slots.toList = vs
variable {k : ClassId}
theorem own_AVk.lt (A : own_AVk Z h a k ty vs) : a < h.size := by obtain ⟨c, A, -⟩ := A; exact A.lt
theorem own_AVk.ext (A : own_AVk Z h a k ty vs) (E : Ext h h') : own_AVk Z h' a k ty vs := by obtain ⟨c, A, r⟩ := A; exact ⟨c, A.ext E, r⟩
theorem own_AVk.other (A : own_AVk Z h b k ty vs) (W : Wr h h' a sl v) (q : b ≠ a) : own_AVk Z h' b k ty vs := by obtain ⟨c, A, r⟩ := A; exact ⟨c, A.other W q, r⟩
theorem own_AVk.keep (A : own_AVk Z h a k ty vs) (K : Keep h h' ws) (q : a ∉ ws) : own_AVk Z h' a k ty vs := by obtain ⟨c, A, r⟩ := A; exact ⟨c, ⟨K.2.1 a c A.1 q, A.2⟩, r⟩
theorem own_AVk.av (A : own_AVk Z h a k ty vs) : own_AV Z h a ty vs := by obtain ⟨c, A, -, r⟩ := A; exact ⟨c, A, r⟩
theorem own_AVk_new {z : Int32} (A : Arr Z h a (newA k ty z) ty) : own_AVk Z h a k ty (List.replicate z.toNatClampNeg (defaultValue ty)) := ⟨_, A, rfl, by simp [newA]⟩
theorem own_stR (X : Stand p l e R s m args below meth c T locs cells slots) (hx : p.tables.exec = Jvm.exec) (hZ : Z.Warmed39 s.vm) (eT : T.heap = h) (A : own_AVk Z h a k ty vs) {j : Int32} {n : Nat} (hn : vs.length = n) (hj : ¬ (j < 0 ∨ n ≤ j.toNatClampNeg)) (hty : ty.isReference = true)
    (F : ∀ {c : Cell}, Arr Z h a c ty → c.cls = k → Sto Z h a v) {g : JFrame} (hg : g.method = m) {rest : List Value} (hs : g.stack = v :: .int j :: .ref a :: rest) (hd : decode c.code g.pc = .ok (.aastore, 1)) :
    ∃ T' h', Stand p l e R s m args below meth c T' (locs ++ [⟨a, j.toNatClampNeg⟩]) cells slots ∧ T'.heap = h' ∧ Wr h h' a j.toNatClampNeg v ∧ own_AVk Z h' a k ty (vs.set j.toNatClampNeg v) ∧ ∀ target, Steps p.tables e below (T'.setTop { g with pc := g.pc + 1, stack := rest }) target → Steps p.tables e below (T.setTop g) target := by
  obtain ⟨cl, A, q, r⟩ := A
  obtain ⟨T', h', X', e', W, st⟩ := stR X hx hZ eT A (own_in r hn hj) hty (F A q) hg hs hd
  exact ⟨T', h', X', e', W, ⟨_, A.same W, q, by simp [Cell.setSlot, ← r]⟩, st⟩
theorem own_ldR (X : Stand p l e R s m args below meth c T locs cells slots) (hx : p.tables.exec = Jvm.exec) (hZ : Z.Warmed39 s.vm) (eT : T.heap = h) (A : own_AVk Z h a k ty vs) {j : Int32} {n : Nat} (hn : vs.length = n) (hj : ¬ (j < 0 ∨ n ≤ j.toNatClampNeg)) (hty : ty.isReference = true) (hv : vs[j.toNatClampNeg]? = some v)
    {g : JFrame} (hg : g.method = m) {rest : List Value} (hs : g.stack = .int j :: .ref a :: rest) (hd : decode c.code g.pc = .ok (.aaload, 1)) {target : State} (kk : Steps p.tables e below (T.setTop { g with pc := g.pc + 1, stack := v :: rest }) target) : Steps p.tables e below (T.setTop g) target := by
  obtain ⟨cl, A, -, r⟩ := A
  exact X.aaload hx (by rw [eT]; exact A.1) (State.isArrayOf_alike hZ.alike A.2.1) hty A.2.2 (own_in r hn hj) (by rw [← Array.getElem?_toList, r]; exact hv) hg hs hd _ kk
theorem own_ldB (X : Stand p l e R s m args below meth c T locs cells slots) (hx : p.tables.exec = Jvm.exec) (hZ : Z.Warmed39 s.vm) (eT : T.heap = h) {xs : List Int32} (A : own_AV Z h a .byte (own_is xs)) {j : Int32} {n : Nat} (hn : xs.length = n) (hj : ¬ (j < 0 ∨ n ≤ j.toNatClampNeg))
    {g : JFrame} (hg : g.method = m) {rest : List Value} (hs : g.stack = .int j :: .ref a :: rest) (hd : decode c.code g.pc = .ok (.baload, 1)) {target : State} (kk : Steps p.tables e below (T.setTop { g with pc := g.pc + 1, stack := .int (xs.getD j.toNatClampNeg 0) :: rest }) target) : Steps p.tables e below (T.setTop g) target := by
  obtain ⟨cl, A, r⟩ := A
  have hlt := own_nat hj
  refine X.baloadBytes hx (by rw [eT]; exact A.1) (State.isArrayOf_alike hZ.alike A.2.1) A.2.2 (own_in r (by simp [own_is, hn]) hj) ?_ hg hs hd _ kk
  rw [← Array.getElem?_toList, r]
  simp [own_is, List.getD_eq_getElem?_getD, List.getElem?_eq_getElem (hn ▸ hlt)]
theorem own_eqI {args : Array Value} {s : State} {t : Term} {n : Int32} (q : (Jvm.Cond.eq t (Term.int n)).value args s none s [] = some true) : t.eval args s none [] s = some (.int n) := by
  obtain ⟨x, y, h1, h2, h3, h4⟩ := cmp_v (Or.inl q)
  cases h2.symm.trans (Term.int_eval n)
  obtain ⟨z, rfl⟩ := h4
  simp only [Cond.value, h1, h2] at q
  simpa [h1] using q
theorem own_AV.cell (A : own_AV Z h a ty vs) : ∃ c : Cell, h[a]? = some c ∧ ∀ q, c.vm ≠ .statics q := by obtain ⟨c, A, -⟩ := A; exact ⟨c, A.1, A.2.1.1⟩
theorem own_AVk.cell (A : own_AVk Z h a k ty vs) : ∃ c : Cell, h[a]? = some c ∧ ∀ q, c.vm ≠ .statics q := A.av.cell
theorem own_Sta_keep {C n d : String} {v : Value} (F : Sta Z h C n d v) (K : Keep h h' ws) (q : ∀ x ∈ ws, ∃ c : Cell, h[x]? = some c ∧ ∀ q, c.vm ≠ .statics q) : Sta Z h' C n d v := by
  obtain ⟨cf, i, k, f, st, cell, h1, h2, h3, h4, h5, h6, h7⟩ := F
  refine ⟨cf, i, k, f, st, cell, h1, h2, h3, h4, K.2.1 st cell h5 fun m => ?_, h6, h7⟩
  obtain ⟨c', g1, g2⟩ := q st m
  cases h5.symm.trans g1
  cases hv : cell.vm <;> first | exact g2 _ hv | (rw [hv] at h6; cases h6)
end OwnKit
abbrev own_y0 : MethodName := ⟨"com/example/rollkeeper/rollkeeper/core/FormatIsNumberPinLaw", "pick", "(I)Lcom/example/rollkeeper/rollkeeper/core/Setting$Format;"⟩
abbrev own_y1 : MethodName := ⟨"com/example/rollkeeper/rollkeeper/core/FormatIsNumberPinLaw", "expected", "(Lcom/example/rollkeeper/rollkeeper/core/Setting$Format;)Z"⟩
abbrev own_y2 : MethodName := ⟨"com/example/rollkeeper/rollkeeper/core/Setting$Format", "isNumber", "()Z"⟩
def own_pick (p : Int32) (a_FLAG a_COUNT a_PAGE_SIZE a_PASSWORD_LENGTH a_DAYS a_SECONDS a_PORT a_IP_ADDRESS a_OTP_CODE a_TENANT a_JDBC_URL a_HTTP_URL a_AES_KEY a_TEXT a_SECRET : Addr) : Addr := if p = 0 then a_FLAG else if p = 1 then a_COUNT else if p = 2 then a_PAGE_SIZE else if p = 3 then a_PASSWORD_LENGTH else if p = 4 then a_DAYS else if p = 5 then a_SECONDS else if p = 6 then a_PORT else if p = 7 then a_IP_ADDRESS else if p = 8 then a_OTP_CODE else if p = 9 then a_TENANT else if p = 10 then a_JDBC_URL else if p = 11 then a_HTTP_URL else if p = 12 then a_AES_KEY else if p = 13 then a_TEXT else a_SECRET
def own_six (a a_COUNT a_PAGE_SIZE a_PASSWORD_LENGTH a_DAYS a_SECONDS a_PORT : Addr) : Int32 := if a = a_COUNT then 1 else if a = a_PAGE_SIZE then 1 else if a = a_PASSWORD_LENGTH then 1 else if a = a_DAYS then 1 else if a = a_SECONDS then 1 else if a = a_PORT then 1 else 0
def own_num (p q : Int32) : Int32 := if q < p then 0 else 1
theorem own_r15 (x : Int32) : 0 ≤ ((x &&& 2147483647) % 15).toInt ∧ ((x &&& 2147483647) % 15).toInt < 15 := by
  have e1 := c_mask x 2147483647 31 (by decide) (by decide)
  have q1 : 0 ≤ (x &&& 2147483647).toInt := by rw [e1]; omega
  have e2 := (c_irem (x &&& 2147483647) 15 15 rfl).1 q1
  omega
theorem own_c15 {v : Int32} (h : 0 ≤ v.toInt ∧ v.toInt < 15) : v = 0 ∨ v = 1 ∨ v = 2 ∨ v = 3 ∨ v = 4 ∨ v = 5 ∨ v = 6 ∨ v = 7 ∨ v = 8 ∨ v = 9 ∨ v = 10 ∨ v = 11 ∨ v = 12 ∨ v = 13 ∨ v = 14 := by
  simp only [← Int32.toInt_inj]
  have a0 : (0 : Int32).toInt = 0 := rfl
  have a1 : (1 : Int32).toInt = 1 := rfl
  have a2 : (2 : Int32).toInt = 2 := rfl
  have a3 : (3 : Int32).toInt = 3 := rfl
  have a4 : (4 : Int32).toInt = 4 := rfl
  have a5 : (5 : Int32).toInt = 5 := rfl
  have a6 : (6 : Int32).toInt = 6 := rfl
  have a7 : (7 : Int32).toInt = 7 := rfl
  have a8 : (8 : Int32).toInt = 8 := rfl
  have a9 : (9 : Int32).toInt = 9 := rfl
  have a10 : (10 : Int32).toInt = 10 := rfl
  have a11 : (11 : Int32).toInt = 11 := rfl
  have a12 : (12 : Int32).toInt = 12 := rfl
  have a13 : (13 : Int32).toInt = 13 := rfl
  have a14 : (14 : Int32).toInt = 14 := rfl
  omega
theorem d1_0 : decode method_2_code 0 = .ok (.iload_n 0, 1) := by decide +kernel
theorem d1_1 : decode method_2_code 1 = .ok (.ifCond .ne 7, 3) := by decide +kernel
theorem d1_4 : decode method_2_code 4 = .ok (.getstatic 7, 3) := by decide +kernel
theorem d1_7 : decode method_2_code 7 = .ok (.areturn, 1) := by decide +kernel
theorem d1_8 : decode method_2_code 8 = .ok (.iload_n 0, 1) := by decide +kernel
theorem d1_9 : decode method_2_code 9 = .ok (.iconst 1, 1) := by decide +kernel
theorem d1_10 : decode method_2_code 10 = .ok (.if_icmp .ne 7, 3) := by decide +kernel
theorem d1_13 : decode method_2_code 13 = .ok (.getstatic 13, 3) := by decide +kernel
theorem d1_16 : decode method_2_code 16 = .ok (.areturn, 1) := by decide +kernel
theorem d1_17 : decode method_2_code 17 = .ok (.iload_n 0, 1) := by decide +kernel
theorem d1_18 : decode method_2_code 18 = .ok (.iconst 2, 1) := by decide +kernel
theorem d1_19 : decode method_2_code 19 = .ok (.if_icmp .ne 7, 3) := by decide +kernel
theorem d1_22 : decode method_2_code 22 = .ok (.getstatic 16, 3) := by decide +kernel
theorem d1_25 : decode method_2_code 25 = .ok (.areturn, 1) := by decide +kernel
theorem d1_26 : decode method_2_code 26 = .ok (.iload_n 0, 1) := by decide +kernel
theorem d1_27 : decode method_2_code 27 = .ok (.iconst 3, 1) := by decide +kernel
theorem d1_28 : decode method_2_code 28 = .ok (.if_icmp .ne 7, 3) := by decide +kernel
theorem d1_31 : decode method_2_code 31 = .ok (.getstatic 19, 3) := by decide +kernel
theorem d1_34 : decode method_2_code 34 = .ok (.areturn, 1) := by decide +kernel
theorem d1_35 : decode method_2_code 35 = .ok (.iload_n 0, 1) := by decide +kernel
theorem d1_36 : decode method_2_code 36 = .ok (.iconst 4, 1) := by decide +kernel
theorem d1_37 : decode method_2_code 37 = .ok (.if_icmp .ne 7, 3) := by decide +kernel
theorem d1_40 : decode method_2_code 40 = .ok (.getstatic 22, 3) := by decide +kernel
theorem d1_43 : decode method_2_code 43 = .ok (.areturn, 1) := by decide +kernel
theorem d1_44 : decode method_2_code 44 = .ok (.iload_n 0, 1) := by decide +kernel
theorem d1_45 : decode method_2_code 45 = .ok (.iconst 5, 1) := by decide +kernel
theorem d1_46 : decode method_2_code 46 = .ok (.if_icmp .ne 7, 3) := by decide +kernel
theorem d1_49 : decode method_2_code 49 = .ok (.getstatic 25, 3) := by decide +kernel
theorem d1_52 : decode method_2_code 52 = .ok (.areturn, 1) := by decide +kernel
theorem d1_53 : decode method_2_code 53 = .ok (.iload_n 0, 1) := by decide +kernel
theorem d1_54 : decode method_2_code 54 = .ok (.bipush 6, 2) := by decide +kernel
theorem d1_56 : decode method_2_code 56 = .ok (.if_icmp .ne 7, 3) := by decide +kernel
theorem d1_59 : decode method_2_code 59 = .ok (.getstatic 28, 3) := by decide +kernel
theorem d1_62 : decode method_2_code 62 = .ok (.areturn, 1) := by decide +kernel
theorem d1_63 : decode method_2_code 63 = .ok (.iload_n 0, 1) := by decide +kernel
theorem d1_64 : decode method_2_code 64 = .ok (.bipush 7, 2) := by decide +kernel
theorem d1_66 : decode method_2_code 66 = .ok (.if_icmp .ne 7, 3) := by decide +kernel
theorem d1_69 : decode method_2_code 69 = .ok (.getstatic 31, 3) := by decide +kernel
theorem d1_72 : decode method_2_code 72 = .ok (.areturn, 1) := by decide +kernel
theorem d1_73 : decode method_2_code 73 = .ok (.iload_n 0, 1) := by decide +kernel
theorem d1_74 : decode method_2_code 74 = .ok (.bipush 8, 2) := by decide +kernel
theorem d1_76 : decode method_2_code 76 = .ok (.if_icmp .ne 7, 3) := by decide +kernel
theorem d1_79 : decode method_2_code 79 = .ok (.getstatic 34, 3) := by decide +kernel
theorem d1_82 : decode method_2_code 82 = .ok (.areturn, 1) := by decide +kernel
theorem d1_83 : decode method_2_code 83 = .ok (.iload_n 0, 1) := by decide +kernel
theorem d1_84 : decode method_2_code 84 = .ok (.bipush 9, 2) := by decide +kernel
theorem d1_86 : decode method_2_code 86 = .ok (.if_icmp .ne 7, 3) := by decide +kernel
theorem d1_89 : decode method_2_code 89 = .ok (.getstatic 37, 3) := by decide +kernel
theorem d1_92 : decode method_2_code 92 = .ok (.areturn, 1) := by decide +kernel
theorem d1_93 : decode method_2_code 93 = .ok (.iload_n 0, 1) := by decide +kernel
theorem d1_94 : decode method_2_code 94 = .ok (.bipush 10, 2) := by decide +kernel
theorem d1_96 : decode method_2_code 96 = .ok (.if_icmp .ne 7, 3) := by decide +kernel
theorem d1_99 : decode method_2_code 99 = .ok (.getstatic 40, 3) := by decide +kernel
theorem d1_102 : decode method_2_code 102 = .ok (.areturn, 1) := by decide +kernel
theorem d1_103 : decode method_2_code 103 = .ok (.iload_n 0, 1) := by decide +kernel
theorem d1_104 : decode method_2_code 104 = .ok (.bipush 11, 2) := by decide +kernel
theorem d1_106 : decode method_2_code 106 = .ok (.if_icmp .ne 7, 3) := by decide +kernel
theorem d1_109 : decode method_2_code 109 = .ok (.getstatic 43, 3) := by decide +kernel
theorem d1_112 : decode method_2_code 112 = .ok (.areturn, 1) := by decide +kernel
theorem d1_113 : decode method_2_code 113 = .ok (.iload_n 0, 1) := by decide +kernel
theorem d1_114 : decode method_2_code 114 = .ok (.bipush 12, 2) := by decide +kernel
theorem d1_116 : decode method_2_code 116 = .ok (.if_icmp .ne 7, 3) := by decide +kernel
theorem d1_119 : decode method_2_code 119 = .ok (.getstatic 46, 3) := by decide +kernel
theorem d1_122 : decode method_2_code 122 = .ok (.areturn, 1) := by decide +kernel
theorem d1_123 : decode method_2_code 123 = .ok (.iload_n 0, 1) := by decide +kernel
theorem d1_124 : decode method_2_code 124 = .ok (.bipush 13, 2) := by decide +kernel
theorem d1_126 : decode method_2_code 126 = .ok (.if_icmp .ne 7, 3) := by decide +kernel
theorem d1_129 : decode method_2_code 129 = .ok (.getstatic 49, 3) := by decide +kernel
theorem d1_132 : decode method_2_code 132 = .ok (.areturn, 1) := by decide +kernel
theorem d1_133 : decode method_2_code 133 = .ok (.getstatic 52, 3) := by decide +kernel
theorem d1_136 : decode method_2_code 136 = .ok (.areturn, 1) := by decide +kernel
theorem pn_com_example_rollkeeper_rollkeeper_core_FormatIsNumberPinLaw : plainName "com/example/rollkeeper/rollkeeper/core/FormatIsNumberPinLaw" = true := by first | (simp [plainName, overriddenIn]; done) | decide +kernel
theorem ef_1_I (m : MethodId) (x0 : Int32) : entryFrame m #[(.int x0)] 1 = mkF m 0 #[iv x0] [] := by first | (simp [entryFrame, mkF, argsToLocals, Value.category]; done) | rfl
def Qrm_pick (Z : State) (p1 : Int32) (a_FLAG : Addr) (a_COUNT : Addr) (a_PAGE_SIZE : Addr) (a_PASSWORD_LENGTH : Addr) (a_DAYS : Addr) (a_SECONDS : Addr) (a_PORT : Addr) (a_IP_ADDRESS : Addr) (a_OTP_CODE : Addr) (a_TENANT : Addr) (a_JDBC_URL : Addr) (a_HTTP_URL : Addr) (a_AES_KEY : Addr) (a_TEXT : Addr) (a_SECRET : Addr) (h0 : Heap) (n0 : Nat) (v : Option Value) (h : Heap) (L : List Loc) : Prop := v = some (.ref (own_pick p1 a_FLAG a_COUNT a_PAGE_SIZE a_PASSWORD_LENGTH a_DAYS a_SECONDS a_PORT a_IP_ADDRESS a_OTP_CODE a_TENANT a_JDBC_URL a_HTTP_URL a_AES_KEY a_TEXT a_SECRET)) ∧ Fr n0 L ∧ h = h0
set_option maxRecDepth 65536 in
set_option maxHeartbeats 40000000 in
theorem rm_pick (l : Launch) (Z : State) (a0 : Array Value) (hw : ∀ d ∈ tables_1, d.before a0 Z = true) (ws : List Jvm.Cond) (p1 : Int32) (a_FLAG : Addr) (a_COUNT : Addr) (a_PAGE_SIZE : Addr) (a_PASSWORD_LENGTH : Addr) (a_DAYS : Addr) (a_SECONDS : Addr) (a_PORT : Addr) (a_IP_ADDRESS : Addr) (a_OTP_CODE : Addr) (a_TENANT : Addr) (a_JDBC_URL : Addr) (a_HTTP_URL : Addr) (a_AES_KEY : Addr) (a_TEXT : Addr) (a_SECRET : Addr) (h0 : Heap) (n0 : Nat) (Z0 : n0 ≤ h0.size) (Sa_FLAG : Sta Z h0 "com/example/rollkeeper/rollkeeper/core/Setting$Format" "FLAG" "Lcom/example/rollkeeper/rollkeeper/core/Setting$Format;" (.ref a_FLAG)) (Sa_COUNT : Sta Z h0 "com/example/rollkeeper/rollkeeper/core/Setting$Format" "COUNT" "Lcom/example/rollkeeper/rollkeeper/core/Setting$Format;" (.ref a_COUNT)) (Sa_PAGE_SIZE : Sta Z h0 "com/example/rollkeeper/rollkeeper/core/Setting$Format" "PAGE_SIZE" "Lcom/example/rollkeeper/rollkeeper/core/Setting$Format;" (.ref a_PAGE_SIZE)) (Sa_PASSWORD_LENGTH : Sta Z h0 "com/example/rollkeeper/rollkeeper/core/Setting$Format" "PASSWORD_LENGTH" "Lcom/example/rollkeeper/rollkeeper/core/Setting$Format;" (.ref a_PASSWORD_LENGTH)) (Sa_DAYS : Sta Z h0 "com/example/rollkeeper/rollkeeper/core/Setting$Format" "DAYS" "Lcom/example/rollkeeper/rollkeeper/core/Setting$Format;" (.ref a_DAYS)) (Sa_SECONDS : Sta Z h0 "com/example/rollkeeper/rollkeeper/core/Setting$Format" "SECONDS" "Lcom/example/rollkeeper/rollkeeper/core/Setting$Format;" (.ref a_SECONDS)) (Sa_PORT : Sta Z h0 "com/example/rollkeeper/rollkeeper/core/Setting$Format" "PORT" "Lcom/example/rollkeeper/rollkeeper/core/Setting$Format;" (.ref a_PORT)) (Sa_IP_ADDRESS : Sta Z h0 "com/example/rollkeeper/rollkeeper/core/Setting$Format" "IP_ADDRESS" "Lcom/example/rollkeeper/rollkeeper/core/Setting$Format;" (.ref a_IP_ADDRESS)) (Sa_OTP_CODE : Sta Z h0 "com/example/rollkeeper/rollkeeper/core/Setting$Format" "OTP_CODE" "Lcom/example/rollkeeper/rollkeeper/core/Setting$Format;" (.ref a_OTP_CODE)) (Sa_TENANT : Sta Z h0 "com/example/rollkeeper/rollkeeper/core/Setting$Format" "TENANT" "Lcom/example/rollkeeper/rollkeeper/core/Setting$Format;" (.ref a_TENANT)) (Sa_JDBC_URL : Sta Z h0 "com/example/rollkeeper/rollkeeper/core/Setting$Format" "JDBC_URL" "Lcom/example/rollkeeper/rollkeeper/core/Setting$Format;" (.ref a_JDBC_URL)) (Sa_HTTP_URL : Sta Z h0 "com/example/rollkeeper/rollkeeper/core/Setting$Format" "HTTP_URL" "Lcom/example/rollkeeper/rollkeeper/core/Setting$Format;" (.ref a_HTTP_URL)) (Sa_AES_KEY : Sta Z h0 "com/example/rollkeeper/rollkeeper/core/Setting$Format" "AES_KEY" "Lcom/example/rollkeeper/rollkeeper/core/Setting$Format;" (.ref a_AES_KEY)) (Sa_TEXT : Sta Z h0 "com/example/rollkeeper/rollkeeper/core/Setting$Format" "TEXT" "Lcom/example/rollkeeper/rollkeeper/core/Setting$Format;" (.ref a_TEXT)) (Sa_SECRET : Sta Z h0 "com/example/rollkeeper/rollkeeper/core/Setting$Format" "SECRET" "Lcom/example/rollkeeper/rollkeeper/core/Setting$Format;" (.ref a_SECRET)) :
    MetFree l own_y0 (head1 (Jvm.Cond.code own_y0 method_2_code 1 (some (.object "com/example/rollkeeper/rollkeeper/core/Setting$Format")) :: ws) ({ frames := 0, cells := 0, slots := 0, locals := 0 } : Room)) (fun a U => a = #[(.int p1)] ∧ Z.Warmed39 U.vm ∧ U.heap = h0) (fun _ _ _ _ _ => True) (fun _ U o U' => ∃ v L, o = .returned v ∧ Qrm_pick Z p1 a_FLAG a_COUNT a_PAGE_SIZE a_PASSWORD_LENGTH a_DAYS a_SECONDS a_PORT a_IP_ADDRESS a_OTP_CODE a_TENANT a_JDBC_URL a_HTTP_URL a_AES_KEY a_TEXT a_SECRET h0 n0 v U'.heap L ∧ FrameEnd U o U' L ({ frames := 0, cells := 0, slots := 0, locals := 0 } : Room).cells ({ frames := 0, cells := 0, slots := 0, locals := 0 } : Room).slots) := by
  refine MetFree.of_bodySF (plainFor_of_name pn_com_example_rollkeeper_rollkeeper_core_FormatIsNumberPinLaw) hisR ?_
  intro p e s m args below meth c s₁ Bd hml0 hP hK
  obtain ⟨rfl, hZ, hh⟩ := hP
  have hx := Bd.exec
  have hby := Bd.bytes
  have hml : c.maxLocals = 1 := hml0
  have hown : s.vm.findClass "com/example/rollkeeper/rollkeeper/core/FormatIsNumberPinLaw" = some m.cls := findClass_of_methodNamed Bd.named
  have hnm := (name_of_methodNamed Bd.named Bd.method).1
  have X0 : Stand p l e ({ frames := 0, cells := 0, slots := 0, locals := 0 } : Room) s m #[(.int p1)] below meth c s₁ [] 0 0 := Stand.of_body Bd
  have e0 : s₁.heap = h0 := by rw [← hh, Bd.state]; rfl
  have N0 := Fr.nil n0
  have K0 : Keep h0 h0 [] := Keep.refl _ _
  refine own_start (Qk := Qrm_pick Z p1 a_FLAG a_COUNT a_PAGE_SIZE a_PASSWORD_LENGTH a_DAYS a_SECONDS a_PORT a_IP_ADDRESS a_OTP_CODE a_TENANT a_JDBC_URL a_HTTP_URL a_AES_KEY a_TEXT a_SECRET h0 n0) (fun G hG => ?_)
  refine own_st (fun _ k => castTop (ef_1_I m p1) k) ?_
  show own_Fin p e below G (s₁.setTop (mkF m 0 #[iv p1] []))
  refine own_st (fun _ k => XS.iloadN X0.here hx rfl (hb hby d1_0) rfl  k) ?_
  show own_Fin p e below G (s₁.setTop (mkF m 1 #[iv p1] [(.int p1)]))
  by_cases hc1_1 : p1 = (0 : Int32)
  · refine own_st (fun _ k => XS.ifNo X0.here hx rfl (hb hby d1_1) rfl ((if0 _ _).trans (teq hc1_1).2) k) ?_
    show own_Fin p e below G (s₁.setTop (mkF m 4 #[iv p1] []))
    obtain ⟨T2, X2, e2, st2⟩ := getS2 X0 hx hZ hown (host := "") (Or.inl (own_w hw 5 rfl)) Via.refl e0 Sa_FLAG (g := (mkF m 4 #[iv p1] [])) rfl (hb hby d1_4)
    refine own_st st2 ?_
    show own_Fin p e below G (T2.setTop (mkF m 7 #[iv p1] [(.ref a_FLAG)]))
    refine own_out X2 Bd.notSynchronized (v := (some (.ref a_FLAG))) (fun h => by rw [Bd.returns] at h; cases h) hG (fun fs hr => retOut X2 hx Bd.returns rfl (Or.inr (Or.inr (Or.inr (Or.inr ⟨rfl, rfl, rfl⟩)))) (hb hby d1_7) hr) (by decide) (by decide) ?_
    exact ⟨by unfold own_pick; rw [if_pos hc1_1], N0, e2⟩
  · refine own_st (fun _ k => XS.ifYes X0.here hx rfl (pc0 := 1) (pc' := 8) rfl (hb hby d1_1) rfl ((if0 _ _).trans (feq hc1_1).2) (by decide) (by decide) k) ?_
    show own_Fin p e below G (s₁.setTop (mkF m 8 #[iv p1] []))
    refine own_st (fun _ k => XS.iloadN X0.here hx rfl (hb hby d1_8) rfl  k) ?_
    show own_Fin p e below G (s₁.setTop (mkF m 9 #[iv p1] [(.int p1)]))
    refine own_st (fun _ k => XS.iconst X0.here hx rfl (hb hby d1_9) k) ?_
    show own_Fin p e below G (s₁.setTop (mkF m 10 #[iv p1] [(.int (1 : Int32)), (.int p1)]))
    by_cases hc10_3 : p1 = (1 : Int32)
    · refine own_st (fun _ k => XS.icmpNo X0.here hx rfl (hb hby d1_10) rfl (teq hc10_3).2 k) ?_
      show own_Fin p e below G (s₁.setTop (mkF m 13 #[iv p1] []))
      obtain ⟨T4, X4, e4, st4⟩ := getS2 X0 hx hZ hown (host := "") (Or.inl (own_w hw 20 rfl)) Via.refl e0 Sa_COUNT (g := (mkF m 13 #[iv p1] [])) rfl (hb hby d1_13)
      refine own_st st4 ?_
      show own_Fin p e below G (T4.setTop (mkF m 16 #[iv p1] [(.ref a_COUNT)]))
      refine own_out X4 Bd.notSynchronized (v := (some (.ref a_COUNT))) (fun h => by rw [Bd.returns] at h; cases h) hG (fun fs hr => retOut X4 hx Bd.returns rfl (Or.inr (Or.inr (Or.inr (Or.inr ⟨rfl, rfl, rfl⟩)))) (hb hby d1_16) hr) (by decide) (by decide) ?_
      exact ⟨by unfold own_pick; rw [if_neg hc1_1, if_pos hc10_3], N0, e4⟩
    · refine own_st (fun _ k => XS.icmpYes X0.here hx rfl (pc0 := 10) (pc' := 17) rfl (hb hby d1_10) rfl (feq hc10_3).2 (by decide) (by decide) k) ?_
      show own_Fin p e below G (s₁.setTop (mkF m 17 #[iv p1] []))
      refine own_st (fun _ k => XS.iloadN X0.here hx rfl (hb hby d1_17) rfl  k) ?_
      show own_Fin p e below G (s₁.setTop (mkF m 18 #[iv p1] [(.int p1)]))
      refine own_st (fun _ k => XS.iconst X0.here hx rfl (hb hby d1_18) k) ?_
      show own_Fin p e below G (s₁.setTop (mkF m 19 #[iv p1] [(.int (2 : Int32)), (.int p1)]))
      by_cases hc19_5 : p1 = (2 : Int32)
      · refine own_st (fun _ k => XS.icmpNo X0.here hx rfl (hb hby d1_19) rfl (teq hc19_5).2 k) ?_
        show own_Fin p e below G (s₁.setTop (mkF m 22 #[iv p1] []))
        obtain ⟨T6, X6, e6, st6⟩ := getS2 X0 hx hZ hown (host := "") (Or.inl (own_w hw 22 rfl)) Via.refl e0 Sa_PAGE_SIZE (g := (mkF m 22 #[iv p1] [])) rfl (hb hby d1_22)
        refine own_st st6 ?_
        show own_Fin p e below G (T6.setTop (mkF m 25 #[iv p1] [(.ref a_PAGE_SIZE)]))
        refine own_out X6 Bd.notSynchronized (v := (some (.ref a_PAGE_SIZE))) (fun h => by rw [Bd.returns] at h; cases h) hG (fun fs hr => retOut X6 hx Bd.returns rfl (Or.inr (Or.inr (Or.inr (Or.inr ⟨rfl, rfl, rfl⟩)))) (hb hby d1_25) hr) (by decide) (by decide) ?_
        exact ⟨by unfold own_pick; rw [if_neg hc1_1, if_neg hc10_3, if_pos hc19_5], N0, e6⟩
      · refine own_st (fun _ k => XS.icmpYes X0.here hx rfl (pc0 := 19) (pc' := 26) rfl (hb hby d1_19) rfl (feq hc19_5).2 (by decide) (by decide) k) ?_
        show own_Fin p e below G (s₁.setTop (mkF m 26 #[iv p1] []))
        refine own_st (fun _ k => XS.iloadN X0.here hx rfl (hb hby d1_26) rfl  k) ?_
        show own_Fin p e below G (s₁.setTop (mkF m 27 #[iv p1] [(.int p1)]))
        refine own_st (fun _ k => XS.iconst X0.here hx rfl (hb hby d1_27) k) ?_
        show own_Fin p e below G (s₁.setTop (mkF m 28 #[iv p1] [(.int (3 : Int32)), (.int p1)]))
        by_cases hc28_7 : p1 = (3 : Int32)
        · refine own_st (fun _ k => XS.icmpNo X0.here hx rfl (hb hby d1_28) rfl (teq hc28_7).2 k) ?_
          show own_Fin p e below G (s₁.setTop (mkF m 31 #[iv p1] []))
          obtain ⟨T8, X8, e8, st8⟩ := getS2 X0 hx hZ hown (host := "") (Or.inl (own_w hw 24 rfl)) Via.refl e0 Sa_PASSWORD_LENGTH (g := (mkF m 31 #[iv p1] [])) rfl (hb hby d1_31)
          refine own_st st8 ?_
          show own_Fin p e below G (T8.setTop (mkF m 34 #[iv p1] [(.ref a_PASSWORD_LENGTH)]))
          refine own_out X8 Bd.notSynchronized (v := (some (.ref a_PASSWORD_LENGTH))) (fun h => by rw [Bd.returns] at h; cases h) hG (fun fs hr => retOut X8 hx Bd.returns rfl (Or.inr (Or.inr (Or.inr (Or.inr ⟨rfl, rfl, rfl⟩)))) (hb hby d1_34) hr) (by decide) (by decide) ?_
          exact ⟨by unfold own_pick; rw [if_neg hc1_1, if_neg hc10_3, if_neg hc19_5, if_pos hc28_7], N0, e8⟩
        · refine own_st (fun _ k => XS.icmpYes X0.here hx rfl (pc0 := 28) (pc' := 35) rfl (hb hby d1_28) rfl (feq hc28_7).2 (by decide) (by decide) k) ?_
          show own_Fin p e below G (s₁.setTop (mkF m 35 #[iv p1] []))
          refine own_st (fun _ k => XS.iloadN X0.here hx rfl (hb hby d1_35) rfl  k) ?_
          show own_Fin p e below G (s₁.setTop (mkF m 36 #[iv p1] [(.int p1)]))
          refine own_st (fun _ k => XS.iconst X0.here hx rfl (hb hby d1_36) k) ?_
          show own_Fin p e below G (s₁.setTop (mkF m 37 #[iv p1] [(.int (4 : Int32)), (.int p1)]))
          by_cases hc37_9 : p1 = (4 : Int32)
          · refine own_st (fun _ k => XS.icmpNo X0.here hx rfl (hb hby d1_37) rfl (teq hc37_9).2 k) ?_
            show own_Fin p e below G (s₁.setTop (mkF m 40 #[iv p1] []))
            obtain ⟨T10, X10, e10, st10⟩ := getS2 X0 hx hZ hown (host := "") (Or.inl (own_w hw 26 rfl)) Via.refl e0 Sa_DAYS (g := (mkF m 40 #[iv p1] [])) rfl (hb hby d1_40)
            refine own_st st10 ?_
            show own_Fin p e below G (T10.setTop (mkF m 43 #[iv p1] [(.ref a_DAYS)]))
            refine own_out X10 Bd.notSynchronized (v := (some (.ref a_DAYS))) (fun h => by rw [Bd.returns] at h; cases h) hG (fun fs hr => retOut X10 hx Bd.returns rfl (Or.inr (Or.inr (Or.inr (Or.inr ⟨rfl, rfl, rfl⟩)))) (hb hby d1_43) hr) (by decide) (by decide) ?_
            exact ⟨by unfold own_pick; rw [if_neg hc1_1, if_neg hc10_3, if_neg hc19_5, if_neg hc28_7, if_pos hc37_9], N0, e10⟩
          · refine own_st (fun _ k => XS.icmpYes X0.here hx rfl (pc0 := 37) (pc' := 44) rfl (hb hby d1_37) rfl (feq hc37_9).2 (by decide) (by decide) k) ?_
            show own_Fin p e below G (s₁.setTop (mkF m 44 #[iv p1] []))
            refine own_st (fun _ k => XS.iloadN X0.here hx rfl (hb hby d1_44) rfl  k) ?_
            show own_Fin p e below G (s₁.setTop (mkF m 45 #[iv p1] [(.int p1)]))
            refine own_st (fun _ k => XS.iconst X0.here hx rfl (hb hby d1_45) k) ?_
            show own_Fin p e below G (s₁.setTop (mkF m 46 #[iv p1] [(.int (5 : Int32)), (.int p1)]))
            by_cases hc46_11 : p1 = (5 : Int32)
            · refine own_st (fun _ k => XS.icmpNo X0.here hx rfl (hb hby d1_46) rfl (teq hc46_11).2 k) ?_
              show own_Fin p e below G (s₁.setTop (mkF m 49 #[iv p1] []))
              obtain ⟨T12, X12, e12, st12⟩ := getS2 X0 hx hZ hown (host := "") (Or.inl (own_w hw 28 rfl)) Via.refl e0 Sa_SECONDS (g := (mkF m 49 #[iv p1] [])) rfl (hb hby d1_49)
              refine own_st st12 ?_
              show own_Fin p e below G (T12.setTop (mkF m 52 #[iv p1] [(.ref a_SECONDS)]))
              refine own_out X12 Bd.notSynchronized (v := (some (.ref a_SECONDS))) (fun h => by rw [Bd.returns] at h; cases h) hG (fun fs hr => retOut X12 hx Bd.returns rfl (Or.inr (Or.inr (Or.inr (Or.inr ⟨rfl, rfl, rfl⟩)))) (hb hby d1_52) hr) (by decide) (by decide) ?_
              exact ⟨by unfold own_pick; rw [if_neg hc1_1, if_neg hc10_3, if_neg hc19_5, if_neg hc28_7, if_neg hc37_9, if_pos hc46_11], N0, e12⟩
            · refine own_st (fun _ k => XS.icmpYes X0.here hx rfl (pc0 := 46) (pc' := 53) rfl (hb hby d1_46) rfl (feq hc46_11).2 (by decide) (by decide) k) ?_
              show own_Fin p e below G (s₁.setTop (mkF m 53 #[iv p1] []))
              refine own_st (fun _ k => XS.iloadN X0.here hx rfl (hb hby d1_53) rfl  k) ?_
              show own_Fin p e below G (s₁.setTop (mkF m 54 #[iv p1] [(.int p1)]))
              refine own_st (fun _ k => XS.bipush X0.here hx rfl (hb hby d1_54) k) ?_
              show own_Fin p e below G (s₁.setTop (mkF m 56 #[iv p1] [(.int (6 : Int32)), (.int p1)]))
              by_cases hc56_13 : p1 = (6 : Int32)
              · refine own_st (fun _ k => XS.icmpNo X0.here hx rfl (hb hby d1_56) rfl (teq hc56_13).2 k) ?_
                show own_Fin p e below G (s₁.setTop (mkF m 59 #[iv p1] []))
                obtain ⟨T14, X14, e14, st14⟩ := getS2 X0 hx hZ hown (host := "") (Or.inl (own_w hw 30 rfl)) Via.refl e0 Sa_PORT (g := (mkF m 59 #[iv p1] [])) rfl (hb hby d1_59)
                refine own_st st14 ?_
                show own_Fin p e below G (T14.setTop (mkF m 62 #[iv p1] [(.ref a_PORT)]))
                refine own_out X14 Bd.notSynchronized (v := (some (.ref a_PORT))) (fun h => by rw [Bd.returns] at h; cases h) hG (fun fs hr => retOut X14 hx Bd.returns rfl (Or.inr (Or.inr (Or.inr (Or.inr ⟨rfl, rfl, rfl⟩)))) (hb hby d1_62) hr) (by decide) (by decide) ?_
                exact ⟨by unfold own_pick; rw [if_neg hc1_1, if_neg hc10_3, if_neg hc19_5, if_neg hc28_7, if_neg hc37_9, if_neg hc46_11, if_pos hc56_13], N0, e14⟩
              · refine own_st (fun _ k => XS.icmpYes X0.here hx rfl (pc0 := 56) (pc' := 63) rfl (hb hby d1_56) rfl (feq hc56_13).2 (by decide) (by decide) k) ?_
                show own_Fin p e below G (s₁.setTop (mkF m 63 #[iv p1] []))
                refine own_st (fun _ k => XS.iloadN X0.here hx rfl (hb hby d1_63) rfl  k) ?_
                show own_Fin p e below G (s₁.setTop (mkF m 64 #[iv p1] [(.int p1)]))
                refine own_st (fun _ k => XS.bipush X0.here hx rfl (hb hby d1_64) k) ?_
                show own_Fin p e below G (s₁.setTop (mkF m 66 #[iv p1] [(.int (7 : Int32)), (.int p1)]))
                by_cases hc66_15 : p1 = (7 : Int32)
                · refine own_st (fun _ k => XS.icmpNo X0.here hx rfl (hb hby d1_66) rfl (teq hc66_15).2 k) ?_
                  show own_Fin p e below G (s₁.setTop (mkF m 69 #[iv p1] []))
                  obtain ⟨T16, X16, e16, st16⟩ := getS2 X0 hx hZ hown (host := "") (Or.inl (own_w hw 36 rfl)) Via.refl e0 Sa_IP_ADDRESS (g := (mkF m 69 #[iv p1] [])) rfl (hb hby d1_69)
                  refine own_st st16 ?_
                  show own_Fin p e below G (T16.setTop (mkF m 72 #[iv p1] [(.ref a_IP_ADDRESS)]))
                  refine own_out X16 Bd.notSynchronized (v := (some (.ref a_IP_ADDRESS))) (fun h => by rw [Bd.returns] at h; cases h) hG (fun fs hr => retOut X16 hx Bd.returns rfl (Or.inr (Or.inr (Or.inr (Or.inr ⟨rfl, rfl, rfl⟩)))) (hb hby d1_72) hr) (by decide) (by decide) ?_
                  exact ⟨by unfold own_pick; rw [if_neg hc1_1, if_neg hc10_3, if_neg hc19_5, if_neg hc28_7, if_neg hc37_9, if_neg hc46_11, if_neg hc56_13, if_pos hc66_15], N0, e16⟩
                · refine own_st (fun _ k => XS.icmpYes X0.here hx rfl (pc0 := 66) (pc' := 73) rfl (hb hby d1_66) rfl (feq hc66_15).2 (by decide) (by decide) k) ?_
                  show own_Fin p e below G (s₁.setTop (mkF m 73 #[iv p1] []))
                  refine own_st (fun _ k => XS.iloadN X0.here hx rfl (hb hby d1_73) rfl  k) ?_
                  show own_Fin p e below G (s₁.setTop (mkF m 74 #[iv p1] [(.int p1)]))
                  refine own_st (fun _ k => XS.bipush X0.here hx rfl (hb hby d1_74) k) ?_
                  show own_Fin p e below G (s₁.setTop (mkF m 76 #[iv p1] [(.int (8 : Int32)), (.int p1)]))
                  by_cases hc76_17 : p1 = (8 : Int32)
                  · refine own_st (fun _ k => XS.icmpNo X0.here hx rfl (hb hby d1_76) rfl (teq hc76_17).2 k) ?_
                    show own_Fin p e below G (s₁.setTop (mkF m 79 #[iv p1] []))
                    obtain ⟨T18, X18, e18, st18⟩ := getS2 X0 hx hZ hown (host := "") (Or.inl (own_w hw 42 rfl)) Via.refl e0 Sa_OTP_CODE (g := (mkF m 79 #[iv p1] [])) rfl (hb hby d1_79)
                    refine own_st st18 ?_
                    show own_Fin p e below G (T18.setTop (mkF m 82 #[iv p1] [(.ref a_OTP_CODE)]))
                    refine own_out X18 Bd.notSynchronized (v := (some (.ref a_OTP_CODE))) (fun h => by rw [Bd.returns] at h; cases h) hG (fun fs hr => retOut X18 hx Bd.returns rfl (Or.inr (Or.inr (Or.inr (Or.inr ⟨rfl, rfl, rfl⟩)))) (hb hby d1_82) hr) (by decide) (by decide) ?_
                    exact ⟨by unfold own_pick; rw [if_neg hc1_1, if_neg hc10_3, if_neg hc19_5, if_neg hc28_7, if_neg hc37_9, if_neg hc46_11, if_neg hc56_13, if_neg hc66_15, if_pos hc76_17], N0, e18⟩
                  · refine own_st (fun _ k => XS.icmpYes X0.here hx rfl (pc0 := 76) (pc' := 83) rfl (hb hby d1_76) rfl (feq hc76_17).2 (by decide) (by decide) k) ?_
                    show own_Fin p e below G (s₁.setTop (mkF m 83 #[iv p1] []))
                    refine own_st (fun _ k => XS.iloadN X0.here hx rfl (hb hby d1_83) rfl  k) ?_
                    show own_Fin p e below G (s₁.setTop (mkF m 84 #[iv p1] [(.int p1)]))
                    refine own_st (fun _ k => XS.bipush X0.here hx rfl (hb hby d1_84) k) ?_
                    show own_Fin p e below G (s₁.setTop (mkF m 86 #[iv p1] [(.int (9 : Int32)), (.int p1)]))
                    by_cases hc86_19 : p1 = (9 : Int32)
                    · refine own_st (fun _ k => XS.icmpNo X0.here hx rfl (hb hby d1_86) rfl (teq hc86_19).2 k) ?_
                      show own_Fin p e below G (s₁.setTop (mkF m 89 #[iv p1] []))
                      obtain ⟨T20, X20, e20, st20⟩ := getS2 X0 hx hZ hown (host := "") (Or.inl (own_w hw 46 rfl)) Via.refl e0 Sa_TENANT (g := (mkF m 89 #[iv p1] [])) rfl (hb hby d1_89)
                      refine own_st st20 ?_
                      show own_Fin p e below G (T20.setTop (mkF m 92 #[iv p1] [(.ref a_TENANT)]))
                      refine own_out X20 Bd.notSynchronized (v := (some (.ref a_TENANT))) (fun h => by rw [Bd.returns] at h; cases h) hG (fun fs hr => retOut X20 hx Bd.returns rfl (Or.inr (Or.inr (Or.inr (Or.inr ⟨rfl, rfl, rfl⟩)))) (hb hby d1_92) hr) (by decide) (by decide) ?_
                      exact ⟨by unfold own_pick; rw [if_neg hc1_1, if_neg hc10_3, if_neg hc19_5, if_neg hc28_7, if_neg hc37_9, if_neg hc46_11, if_neg hc56_13, if_neg hc66_15, if_neg hc76_17, if_pos hc86_19], N0, e20⟩
                    · refine own_st (fun _ k => XS.icmpYes X0.here hx rfl (pc0 := 86) (pc' := 93) rfl (hb hby d1_86) rfl (feq hc86_19).2 (by decide) (by decide) k) ?_
                      show own_Fin p e below G (s₁.setTop (mkF m 93 #[iv p1] []))
                      refine own_st (fun _ k => XS.iloadN X0.here hx rfl (hb hby d1_93) rfl  k) ?_
                      show own_Fin p e below G (s₁.setTop (mkF m 94 #[iv p1] [(.int p1)]))
                      refine own_st (fun _ k => XS.bipush X0.here hx rfl (hb hby d1_94) k) ?_
                      show own_Fin p e below G (s₁.setTop (mkF m 96 #[iv p1] [(.int (10 : Int32)), (.int p1)]))
                      by_cases hc96_21 : p1 = (10 : Int32)
                      · refine own_st (fun _ k => XS.icmpNo X0.here hx rfl (hb hby d1_96) rfl (teq hc96_21).2 k) ?_
                        show own_Fin p e below G (s₁.setTop (mkF m 99 #[iv p1] []))
                        obtain ⟨T22, X22, e22, st22⟩ := getS2 X0 hx hZ hown (host := "") (Or.inl (own_w hw 40 rfl)) Via.refl e0 Sa_JDBC_URL (g := (mkF m 99 #[iv p1] [])) rfl (hb hby d1_99)
                        refine own_st st22 ?_
                        show own_Fin p e below G (T22.setTop (mkF m 102 #[iv p1] [(.ref a_JDBC_URL)]))
                        refine own_out X22 Bd.notSynchronized (v := (some (.ref a_JDBC_URL))) (fun h => by rw [Bd.returns] at h; cases h) hG (fun fs hr => retOut X22 hx Bd.returns rfl (Or.inr (Or.inr (Or.inr (Or.inr ⟨rfl, rfl, rfl⟩)))) (hb hby d1_102) hr) (by decide) (by decide) ?_
                        exact ⟨by unfold own_pick; rw [if_neg hc1_1, if_neg hc10_3, if_neg hc19_5, if_neg hc28_7, if_neg hc37_9, if_neg hc46_11, if_neg hc56_13, if_neg hc66_15, if_neg hc76_17, if_neg hc86_19, if_pos hc96_21], N0, e22⟩
                      · refine own_st (fun _ k => XS.icmpYes X0.here hx rfl (pc0 := 96) (pc' := 103) rfl (hb hby d1_96) rfl (feq hc96_21).2 (by decide) (by decide) k) ?_
                        show own_Fin p e below G (s₁.setTop (mkF m 103 #[iv p1] []))
                        refine own_st (fun _ k => XS.iloadN X0.here hx rfl (hb hby d1_103) rfl  k) ?_
                        show own_Fin p e below G (s₁.setTop (mkF m 104 #[iv p1] [(.int p1)]))
                        refine own_st (fun _ k => XS.bipush X0.here hx rfl (hb hby d1_104) k) ?_
                        show own_Fin p e below G (s₁.setTop (mkF m 106 #[iv p1] [(.int (11 : Int32)), (.int p1)]))
                        by_cases hc106_23 : p1 = (11 : Int32)
                        · refine own_st (fun _ k => XS.icmpNo X0.here hx rfl (hb hby d1_106) rfl (teq hc106_23).2 k) ?_
                          show own_Fin p e below G (s₁.setTop (mkF m 109 #[iv p1] []))
                          obtain ⟨T24, X24, e24, st24⟩ := getS2 X0 hx hZ hown (host := "") (Or.inl (own_w hw 38 rfl)) Via.refl e0 Sa_HTTP_URL (g := (mkF m 109 #[iv p1] [])) rfl (hb hby d1_109)
                          refine own_st st24 ?_
                          show own_Fin p e below G (T24.setTop (mkF m 112 #[iv p1] [(.ref a_HTTP_URL)]))
                          refine own_out X24 Bd.notSynchronized (v := (some (.ref a_HTTP_URL))) (fun h => by rw [Bd.returns] at h; cases h) hG (fun fs hr => retOut X24 hx Bd.returns rfl (Or.inr (Or.inr (Or.inr (Or.inr ⟨rfl, rfl, rfl⟩)))) (hb hby d1_112) hr) (by decide) (by decide) ?_
                          exact ⟨by unfold own_pick; rw [if_neg hc1_1, if_neg hc10_3, if_neg hc19_5, if_neg hc28_7, if_neg hc37_9, if_neg hc46_11, if_neg hc56_13, if_neg hc66_15, if_neg hc76_17, if_neg hc86_19, if_neg hc96_21, if_pos hc106_23], N0, e24⟩
                        · refine own_st (fun _ k => XS.icmpYes X0.here hx rfl (pc0 := 106) (pc' := 113) rfl (hb hby d1_106) rfl (feq hc106_23).2 (by decide) (by decide) k) ?_
                          show own_Fin p e below G (s₁.setTop (mkF m 113 #[iv p1] []))
                          refine own_st (fun _ k => XS.iloadN X0.here hx rfl (hb hby d1_113) rfl  k) ?_
                          show own_Fin p e below G (s₁.setTop (mkF m 114 #[iv p1] [(.int p1)]))
                          refine own_st (fun _ k => XS.bipush X0.here hx rfl (hb hby d1_114) k) ?_
                          show own_Fin p e below G (s₁.setTop (mkF m 116 #[iv p1] [(.int (12 : Int32)), (.int p1)]))
                          by_cases hc116_25 : p1 = (12 : Int32)
                          · refine own_st (fun _ k => XS.icmpNo X0.here hx rfl (hb hby d1_116) rfl (teq hc116_25).2 k) ?_
                            show own_Fin p e below G (s₁.setTop (mkF m 119 #[iv p1] []))
                            obtain ⟨T26, X26, e26, st26⟩ := getS2 X0 hx hZ hown (host := "") (Or.inl (own_w hw 44 rfl)) Via.refl e0 Sa_AES_KEY (g := (mkF m 119 #[iv p1] [])) rfl (hb hby d1_119)
                            refine own_st st26 ?_
                            show own_Fin p e below G (T26.setTop (mkF m 122 #[iv p1] [(.ref a_AES_KEY)]))
                            refine own_out X26 Bd.notSynchronized (v := (some (.ref a_AES_KEY))) (fun h => by rw [Bd.returns] at h; cases h) hG (fun fs hr => retOut X26 hx Bd.returns rfl (Or.inr (Or.inr (Or.inr (Or.inr ⟨rfl, rfl, rfl⟩)))) (hb hby d1_122) hr) (by decide) (by decide) ?_
                            exact ⟨by unfold own_pick; rw [if_neg hc1_1, if_neg hc10_3, if_neg hc19_5, if_neg hc28_7, if_neg hc37_9, if_neg hc46_11, if_neg hc56_13, if_neg hc66_15, if_neg hc76_17, if_neg hc86_19, if_neg hc96_21, if_neg hc106_23, if_pos hc116_25], N0, e26⟩
                          · refine own_st (fun _ k => XS.icmpYes X0.here hx rfl (pc0 := 116) (pc' := 123) rfl (hb hby d1_116) rfl (feq hc116_25).2 (by decide) (by decide) k) ?_
                            show own_Fin p e below G (s₁.setTop (mkF m 123 #[iv p1] []))
                            refine own_st (fun _ k => XS.iloadN X0.here hx rfl (hb hby d1_123) rfl  k) ?_
                            show own_Fin p e below G (s₁.setTop (mkF m 124 #[iv p1] [(.int p1)]))
                            refine own_st (fun _ k => XS.bipush X0.here hx rfl (hb hby d1_124) k) ?_
                            show own_Fin p e below G (s₁.setTop (mkF m 126 #[iv p1] [(.int (13 : Int32)), (.int p1)]))
                            by_cases hc126_27 : p1 = (13 : Int32)
                            · refine own_st (fun _ k => XS.icmpNo X0.here hx rfl (hb hby d1_126) rfl (teq hc126_27).2 k) ?_
                              show own_Fin p e below G (s₁.setTop (mkF m 129 #[iv p1] []))
                              obtain ⟨T28, X28, e28, st28⟩ := getS2 X0 hx hZ hown (host := "") (Or.inl (own_w hw 32 rfl)) Via.refl e0 Sa_TEXT (g := (mkF m 129 #[iv p1] [])) rfl (hb hby d1_129)
                              refine own_st st28 ?_
                              show own_Fin p e below G (T28.setTop (mkF m 132 #[iv p1] [(.ref a_TEXT)]))
                              refine own_out X28 Bd.notSynchronized (v := (some (.ref a_TEXT))) (fun h => by rw [Bd.returns] at h; cases h) hG (fun fs hr => retOut X28 hx Bd.returns rfl (Or.inr (Or.inr (Or.inr (Or.inr ⟨rfl, rfl, rfl⟩)))) (hb hby d1_132) hr) (by decide) (by decide) ?_
                              exact ⟨by unfold own_pick; rw [if_neg hc1_1, if_neg hc10_3, if_neg hc19_5, if_neg hc28_7, if_neg hc37_9, if_neg hc46_11, if_neg hc56_13, if_neg hc66_15, if_neg hc76_17, if_neg hc86_19, if_neg hc96_21, if_neg hc106_23, if_neg hc116_25, if_pos hc126_27], N0, e28⟩
                            · refine own_st (fun _ k => XS.icmpYes X0.here hx rfl (pc0 := 126) (pc' := 133) rfl (hb hby d1_126) rfl (feq hc126_27).2 (by decide) (by decide) k) ?_
                              show own_Fin p e below G (s₁.setTop (mkF m 133 #[iv p1] []))
                              obtain ⟨T29, X29, e29, st29⟩ := getS2 X0 hx hZ hown (host := "") (Or.inl (own_w hw 34 rfl)) Via.refl e0 Sa_SECRET (g := (mkF m 133 #[iv p1] [])) rfl (hb hby d1_133)
                              refine own_st st29 ?_
                              show own_Fin p e below G (T29.setTop (mkF m 136 #[iv p1] [(.ref a_SECRET)]))
                              refine own_out X29 Bd.notSynchronized (v := (some (.ref a_SECRET))) (fun h => by rw [Bd.returns] at h; cases h) hG (fun fs hr => retOut X29 hx Bd.returns rfl (Or.inr (Or.inr (Or.inr (Or.inr ⟨rfl, rfl, rfl⟩)))) (hb hby d1_136) hr) (by decide) (by decide) ?_
                              exact ⟨by unfold own_pick; rw [if_neg hc1_1, if_neg hc10_3, if_neg hc19_5, if_neg hc28_7, if_neg hc37_9, if_neg hc46_11, if_neg hc56_13, if_neg hc66_15, if_neg hc76_17, if_neg hc86_19, if_neg hc96_21, if_neg hc106_23, if_neg hc116_25, if_neg hc126_27], N0, e29⟩

theorem d3_0 : decode method_3_code 0 = .ok (.aload_n 0, 1) := by decide +kernel
theorem d3_1 : decode method_3_code 1 = .ok (.getstatic 13, 3) := by decide +kernel
theorem d3_4 : decode method_3_code 4 = .ok (.if_acmp .eq 38, 3) := by decide +kernel
theorem d3_42 : decode method_3_code 42 = .ok (.iconst 1, 1) := by decide +kernel
theorem d3_43 : decode method_3_code 43 = .ok (.goto 4, 3) := by decide +kernel
theorem d3_47 : decode method_3_code 47 = .ok (.ireturn, 1) := by decide +kernel
theorem d3_7 : decode method_3_code 7 = .ok (.aload_n 0, 1) := by decide +kernel
theorem d3_8 : decode method_3_code 8 = .ok (.getstatic 16, 3) := by decide +kernel
theorem d3_11 : decode method_3_code 11 = .ok (.if_acmp .eq 31, 3) := by decide +kernel
theorem d3_14 : decode method_3_code 14 = .ok (.aload_n 0, 1) := by decide +kernel
theorem d3_15 : decode method_3_code 15 = .ok (.getstatic 19, 3) := by decide +kernel
theorem d3_18 : decode method_3_code 18 = .ok (.if_acmp .eq 24, 3) := by decide +kernel
theorem d3_21 : decode method_3_code 21 = .ok (.aload_n 0, 1) := by decide +kernel
theorem d3_22 : decode method_3_code 22 = .ok (.getstatic 22, 3) := by decide +kernel
theorem d3_25 : decode method_3_code 25 = .ok (.if_acmp .eq 17, 3) := by decide +kernel
theorem d3_28 : decode method_3_code 28 = .ok (.aload_n 0, 1) := by decide +kernel
theorem d3_29 : decode method_3_code 29 = .ok (.getstatic 25, 3) := by decide +kernel
theorem d3_32 : decode method_3_code 32 = .ok (.if_acmp .eq 10, 3) := by decide +kernel
theorem d3_35 : decode method_3_code 35 = .ok (.aload_n 0, 1) := by decide +kernel
theorem d3_36 : decode method_3_code 36 = .ok (.getstatic 28, 3) := by decide +kernel
theorem d3_39 : decode method_3_code 39 = .ok (.if_acmp .ne 7, 3) := by decide +kernel
theorem d3_46 : decode method_3_code 46 = .ok (.iconst 0, 1) := by decide +kernel
theorem ef_3_R (m : MethodId) (x0 : Addr) : entryFrame m #[(.ref x0)] 1 = mkF m 0 #[rv x0] [] := by first | (simp [entryFrame, mkF, argsToLocals, Value.category]; done) | rfl
def Qrm_six (Z : State) (a1 : Addr) (a_COUNT : Addr) (a_PAGE_SIZE : Addr) (a_PASSWORD_LENGTH : Addr) (a_DAYS : Addr) (a_SECONDS : Addr) (a_PORT : Addr) (h0 : Heap) (n0 : Nat) (v : Option Value) (h : Heap) (L : List Loc) : Prop := v = some (.int (own_six a1 a_COUNT a_PAGE_SIZE a_PASSWORD_LENGTH a_DAYS a_SECONDS a_PORT)) ∧ Fr n0 L ∧ h = h0
set_option maxRecDepth 65536 in
set_option maxHeartbeats 40000000 in
theorem rm_six (l : Launch) (Z : State) (a0 : Array Value) (hw : ∀ d ∈ tables_1, d.before a0 Z = true) (ws : List Jvm.Cond) (a1 : Addr) (a_COUNT : Addr) (a_PAGE_SIZE : Addr) (a_PASSWORD_LENGTH : Addr) (a_DAYS : Addr) (a_SECONDS : Addr) (a_PORT : Addr) (h0 : Heap) (n0 : Nat) (Z0 : n0 ≤ h0.size) (Sa_COUNT : Sta Z h0 "com/example/rollkeeper/rollkeeper/core/Setting$Format" "COUNT" "Lcom/example/rollkeeper/rollkeeper/core/Setting$Format;" (.ref a_COUNT)) (Sa_PAGE_SIZE : Sta Z h0 "com/example/rollkeeper/rollkeeper/core/Setting$Format" "PAGE_SIZE" "Lcom/example/rollkeeper/rollkeeper/core/Setting$Format;" (.ref a_PAGE_SIZE)) (Sa_PASSWORD_LENGTH : Sta Z h0 "com/example/rollkeeper/rollkeeper/core/Setting$Format" "PASSWORD_LENGTH" "Lcom/example/rollkeeper/rollkeeper/core/Setting$Format;" (.ref a_PASSWORD_LENGTH)) (Sa_DAYS : Sta Z h0 "com/example/rollkeeper/rollkeeper/core/Setting$Format" "DAYS" "Lcom/example/rollkeeper/rollkeeper/core/Setting$Format;" (.ref a_DAYS)) (Sa_SECONDS : Sta Z h0 "com/example/rollkeeper/rollkeeper/core/Setting$Format" "SECONDS" "Lcom/example/rollkeeper/rollkeeper/core/Setting$Format;" (.ref a_SECONDS)) (Sa_PORT : Sta Z h0 "com/example/rollkeeper/rollkeeper/core/Setting$Format" "PORT" "Lcom/example/rollkeeper/rollkeeper/core/Setting$Format;" (.ref a_PORT)) :
    MetFree l own_y1 (head1 (Jvm.Cond.code own_y1 method_3_code 1 (some .boolean) :: ws) ({ frames := 0, cells := 0, slots := 0, locals := 0 } : Room)) (fun a U => a = #[(.ref a1)] ∧ Z.Warmed39 U.vm ∧ U.heap = h0) (fun _ _ _ _ _ => True) (fun _ U o U' => ∃ v L, o = .returned v ∧ Qrm_six Z a1 a_COUNT a_PAGE_SIZE a_PASSWORD_LENGTH a_DAYS a_SECONDS a_PORT h0 n0 v U'.heap L ∧ FrameEnd U o U' L ({ frames := 0, cells := 0, slots := 0, locals := 0 } : Room).cells ({ frames := 0, cells := 0, slots := 0, locals := 0 } : Room).slots) := by
  refine MetFree.of_bodySF (plainFor_of_name pn_com_example_rollkeeper_rollkeeper_core_FormatIsNumberPinLaw) hisR ?_
  intro p e s m args below meth c s₁ Bd hml0 hP hK
  obtain ⟨rfl, hZ, hh⟩ := hP
  have hx := Bd.exec
  have hby := Bd.bytes
  have hml : c.maxLocals = 1 := hml0
  have hown : s.vm.findClass "com/example/rollkeeper/rollkeeper/core/FormatIsNumberPinLaw" = some m.cls := findClass_of_methodNamed Bd.named
  have hnm := (name_of_methodNamed Bd.named Bd.method).1
  have X0 : Stand p l e ({ frames := 0, cells := 0, slots := 0, locals := 0 } : Room) s m #[(.ref a1)] below meth c s₁ [] 0 0 := Stand.of_body Bd
  have e0 : s₁.heap = h0 := by rw [← hh, Bd.state]; rfl
  have N0 := Fr.nil n0
  have K0 : Keep h0 h0 [] := Keep.refl _ _
  refine own_start (Qk := Qrm_six Z a1 a_COUNT a_PAGE_SIZE a_PASSWORD_LENGTH a_DAYS a_SECONDS a_PORT h0 n0) (fun G hG => ?_)
  refine own_st (fun _ k => castTop (ef_3_R m a1) k) ?_
  show own_Fin p e below G (s₁.setTop (mkF m 0 #[rv a1] []))
  refine own_st (fun _ k => XS.aloadN X0.here hx rfl (hb hby d3_0) rfl rfl k) ?_
  show own_Fin p e below G (s₁.setTop (mkF m 1 #[rv a1] [(.ref a1)]))
  obtain ⟨T30, X30, e30, st30⟩ := getS2 X0 hx hZ hown (host := "") (Or.inl (own_w hw 20 rfl)) Via.refl e0 Sa_COUNT (g := (mkF m 1 #[rv a1] [(.ref a1)])) rfl (hb hby d3_1)
  refine own_st st30 ?_
  show own_Fin p e below G (T30.setTop (mkF m 4 #[rv a1] [(.ref a_COUNT), (.ref a1)]))
  by_cases ha4_31 : a1 = a_COUNT
  · refine own_st (fun _ k => Jvm.RoadKit.acmp (g := (mkF m 4 #[rv a1] [(.ref a_COUNT), (.ref a1)])) X30 hx rfl rfl rfl (pc0 := 4) (pc' := 42) (same := true) rfl (hb hby d3_4) rfl (decide_eq_true (congrArg Value.ref ha4_31)) (by decide) (by decide) k) ?_
    show own_Fin p e below G (T30.setTop (mkF m 42 #[rv a1] []))
    refine own_st (fun _ k => XS.iconst X30.here hx rfl (hb hby d3_42) k) ?_
    show own_Fin p e below G (T30.setTop (mkF m 43 #[rv a1] [(.int (1 : Int32))]))
    refine own_st (fun _ k => XS.goto X30.here hx rfl (pc0 := 43) (pc' := 47) rfl (hb hby d3_43) (by decide) (by decide) k) ?_
    show own_Fin p e below G (T30.setTop (mkF m 47 #[rv a1] [(.int (1 : Int32))]))
    refine own_out X30 Bd.notSynchronized (v := (some (.int (1 : Int32)))) (fun h => by rw [Bd.returns] at h; cases h) hG (fun fs hr => retN X30 hx (t := .boolean) Bd.returns (by simp) (hb hby d3_47) hr) (by decide) (by decide) ?_
    exact ⟨by unfold own_six; rw [if_pos ha4_31], N0, e30⟩
  · refine own_st (fun _ k => Jvm.RoadKit.acmp (g := (mkF m 4 #[rv a1] [(.ref a_COUNT), (.ref a1)])) X30 hx rfl rfl rfl (pc0 := 4) (pc' := 7) (same := false) rfl (hb hby d3_4) rfl (decide_eq_false fun q => ha4_31 (Value.ref.inj q)) (by decide) (by decide) k) ?_
    show own_Fin p e below G (T30.setTop (mkF m 7 #[rv a1] []))
    refine own_st (fun _ k => XS.aloadN X30.here hx rfl (hb hby d3_7) rfl rfl k) ?_
    show own_Fin p e below G (T30.setTop (mkF m 8 #[rv a1] [(.ref a1)]))
    obtain ⟨T32, X32, e32, st32⟩ := getS2 X30 hx hZ hown (host := "") (Or.inl (own_w hw 22 rfl)) Via.refl e30 Sa_PAGE_SIZE (g := (mkF m 8 #[rv a1] [(.ref a1)])) rfl (hb hby d3_8)
    refine own_st st32 ?_
    show own_Fin p e below G (T32.setTop (mkF m 11 #[rv a1] [(.ref a_PAGE_SIZE), (.ref a1)]))
    by_cases ha11_33 : a1 = a_PAGE_SIZE
    · refine own_st (fun _ k => Jvm.RoadKit.acmp (g := (mkF m 11 #[rv a1] [(.ref a_PAGE_SIZE), (.ref a1)])) X32 hx rfl rfl rfl (pc0 := 11) (pc' := 42) (same := true) rfl (hb hby d3_11) rfl (decide_eq_true (congrArg Value.ref ha11_33)) (by decide) (by decide) k) ?_
      show own_Fin p e below G (T32.setTop (mkF m 42 #[rv a1] []))
      refine own_st (fun _ k => XS.iconst X32.here hx rfl (hb hby d3_42) k) ?_
      show own_Fin p e below G (T32.setTop (mkF m 43 #[rv a1] [(.int (1 : Int32))]))
      refine own_st (fun _ k => XS.goto X32.here hx rfl (pc0 := 43) (pc' := 47) rfl (hb hby d3_43) (by decide) (by decide) k) ?_
      show own_Fin p e below G (T32.setTop (mkF m 47 #[rv a1] [(.int (1 : Int32))]))
      refine own_out X32 Bd.notSynchronized (v := (some (.int (1 : Int32)))) (fun h => by rw [Bd.returns] at h; cases h) hG (fun fs hr => retN X32 hx (t := .boolean) Bd.returns (by simp) (hb hby d3_47) hr) (by decide) (by decide) ?_
      exact ⟨by unfold own_six; rw [if_neg ha4_31, if_pos ha11_33], N0, e32⟩
    · refine own_st (fun _ k => Jvm.RoadKit.acmp (g := (mkF m 11 #[rv a1] [(.ref a_PAGE_SIZE), (.ref a1)])) X32 hx rfl rfl rfl (pc0 := 11) (pc' := 14) (same := false) rfl (hb hby d3_11) rfl (decide_eq_false fun q => ha11_33 (Value.ref.inj q)) (by decide) (by decide) k) ?_
      show own_Fin p e below G (T32.setTop (mkF m 14 #[rv a1] []))
      refine own_st (fun _ k => XS.aloadN X32.here hx rfl (hb hby d3_14) rfl rfl k) ?_
      show own_Fin p e below G (T32.setTop (mkF m 15 #[rv a1] [(.ref a1)]))
      obtain ⟨T34, X34, e34, st34⟩ := getS2 X32 hx hZ hown (host := "") (Or.inl (own_w hw 24 rfl)) Via.refl e32 Sa_PASSWORD_LENGTH (g := (mkF m 15 #[rv a1] [(.ref a1)])) rfl (hb hby d3_15)
      refine own_st st34 ?_
      show own_Fin p e below G (T34.setTop (mkF m 18 #[rv a1] [(.ref a_PASSWORD_LENGTH), (.ref a1)]))
      by_cases ha18_35 : a1 = a_PASSWORD_LENGTH
      · refine own_st (fun _ k => Jvm.RoadKit.acmp (g := (mkF m 18 #[rv a1] [(.ref a_PASSWORD_LENGTH), (.ref a1)])) X34 hx rfl rfl rfl (pc0 := 18) (pc' := 42) (same := true) rfl (hb hby d3_18) rfl (decide_eq_true (congrArg Value.ref ha18_35)) (by decide) (by decide) k) ?_
        show own_Fin p e below G (T34.setTop (mkF m 42 #[rv a1] []))
        refine own_st (fun _ k => XS.iconst X34.here hx rfl (hb hby d3_42) k) ?_
        show own_Fin p e below G (T34.setTop (mkF m 43 #[rv a1] [(.int (1 : Int32))]))
        refine own_st (fun _ k => XS.goto X34.here hx rfl (pc0 := 43) (pc' := 47) rfl (hb hby d3_43) (by decide) (by decide) k) ?_
        show own_Fin p e below G (T34.setTop (mkF m 47 #[rv a1] [(.int (1 : Int32))]))
        refine own_out X34 Bd.notSynchronized (v := (some (.int (1 : Int32)))) (fun h => by rw [Bd.returns] at h; cases h) hG (fun fs hr => retN X34 hx (t := .boolean) Bd.returns (by simp) (hb hby d3_47) hr) (by decide) (by decide) ?_
        exact ⟨by unfold own_six; rw [if_neg ha4_31, if_neg ha11_33, if_pos ha18_35], N0, e34⟩
      · refine own_st (fun _ k => Jvm.RoadKit.acmp (g := (mkF m 18 #[rv a1] [(.ref a_PASSWORD_LENGTH), (.ref a1)])) X34 hx rfl rfl rfl (pc0 := 18) (pc' := 21) (same := false) rfl (hb hby d3_18) rfl (decide_eq_false fun q => ha18_35 (Value.ref.inj q)) (by decide) (by decide) k) ?_
        show own_Fin p e below G (T34.setTop (mkF m 21 #[rv a1] []))
        refine own_st (fun _ k => XS.aloadN X34.here hx rfl (hb hby d3_21) rfl rfl k) ?_
        show own_Fin p e below G (T34.setTop (mkF m 22 #[rv a1] [(.ref a1)]))
        obtain ⟨T36, X36, e36, st36⟩ := getS2 X34 hx hZ hown (host := "") (Or.inl (own_w hw 26 rfl)) Via.refl e34 Sa_DAYS (g := (mkF m 22 #[rv a1] [(.ref a1)])) rfl (hb hby d3_22)
        refine own_st st36 ?_
        show own_Fin p e below G (T36.setTop (mkF m 25 #[rv a1] [(.ref a_DAYS), (.ref a1)]))
        by_cases ha25_37 : a1 = a_DAYS
        · refine own_st (fun _ k => Jvm.RoadKit.acmp (g := (mkF m 25 #[rv a1] [(.ref a_DAYS), (.ref a1)])) X36 hx rfl rfl rfl (pc0 := 25) (pc' := 42) (same := true) rfl (hb hby d3_25) rfl (decide_eq_true (congrArg Value.ref ha25_37)) (by decide) (by decide) k) ?_
          show own_Fin p e below G (T36.setTop (mkF m 42 #[rv a1] []))
          refine own_st (fun _ k => XS.iconst X36.here hx rfl (hb hby d3_42) k) ?_
          show own_Fin p e below G (T36.setTop (mkF m 43 #[rv a1] [(.int (1 : Int32))]))
          refine own_st (fun _ k => XS.goto X36.here hx rfl (pc0 := 43) (pc' := 47) rfl (hb hby d3_43) (by decide) (by decide) k) ?_
          show own_Fin p e below G (T36.setTop (mkF m 47 #[rv a1] [(.int (1 : Int32))]))
          refine own_out X36 Bd.notSynchronized (v := (some (.int (1 : Int32)))) (fun h => by rw [Bd.returns] at h; cases h) hG (fun fs hr => retN X36 hx (t := .boolean) Bd.returns (by simp) (hb hby d3_47) hr) (by decide) (by decide) ?_
          exact ⟨by unfold own_six; rw [if_neg ha4_31, if_neg ha11_33, if_neg ha18_35, if_pos ha25_37], N0, e36⟩
        · refine own_st (fun _ k => Jvm.RoadKit.acmp (g := (mkF m 25 #[rv a1] [(.ref a_DAYS), (.ref a1)])) X36 hx rfl rfl rfl (pc0 := 25) (pc' := 28) (same := false) rfl (hb hby d3_25) rfl (decide_eq_false fun q => ha25_37 (Value.ref.inj q)) (by decide) (by decide) k) ?_
          show own_Fin p e below G (T36.setTop (mkF m 28 #[rv a1] []))
          refine own_st (fun _ k => XS.aloadN X36.here hx rfl (hb hby d3_28) rfl rfl k) ?_
          show own_Fin p e below G (T36.setTop (mkF m 29 #[rv a1] [(.ref a1)]))
          obtain ⟨T38, X38, e38, st38⟩ := getS2 X36 hx hZ hown (host := "") (Or.inl (own_w hw 28 rfl)) Via.refl e36 Sa_SECONDS (g := (mkF m 29 #[rv a1] [(.ref a1)])) rfl (hb hby d3_29)
          refine own_st st38 ?_
          show own_Fin p e below G (T38.setTop (mkF m 32 #[rv a1] [(.ref a_SECONDS), (.ref a1)]))
          by_cases ha32_39 : a1 = a_SECONDS
          · refine own_st (fun _ k => Jvm.RoadKit.acmp (g := (mkF m 32 #[rv a1] [(.ref a_SECONDS), (.ref a1)])) X38 hx rfl rfl rfl (pc0 := 32) (pc' := 42) (same := true) rfl (hb hby d3_32) rfl (decide_eq_true (congrArg Value.ref ha32_39)) (by decide) (by decide) k) ?_
            show own_Fin p e below G (T38.setTop (mkF m 42 #[rv a1] []))
            refine own_st (fun _ k => XS.iconst X38.here hx rfl (hb hby d3_42) k) ?_
            show own_Fin p e below G (T38.setTop (mkF m 43 #[rv a1] [(.int (1 : Int32))]))
            refine own_st (fun _ k => XS.goto X38.here hx rfl (pc0 := 43) (pc' := 47) rfl (hb hby d3_43) (by decide) (by decide) k) ?_
            show own_Fin p e below G (T38.setTop (mkF m 47 #[rv a1] [(.int (1 : Int32))]))
            refine own_out X38 Bd.notSynchronized (v := (some (.int (1 : Int32)))) (fun h => by rw [Bd.returns] at h; cases h) hG (fun fs hr => retN X38 hx (t := .boolean) Bd.returns (by simp) (hb hby d3_47) hr) (by decide) (by decide) ?_
            exact ⟨by unfold own_six; rw [if_neg ha4_31, if_neg ha11_33, if_neg ha18_35, if_neg ha25_37, if_pos ha32_39], N0, e38⟩
          · refine own_st (fun _ k => Jvm.RoadKit.acmp (g := (mkF m 32 #[rv a1] [(.ref a_SECONDS), (.ref a1)])) X38 hx rfl rfl rfl (pc0 := 32) (pc' := 35) (same := false) rfl (hb hby d3_32) rfl (decide_eq_false fun q => ha32_39 (Value.ref.inj q)) (by decide) (by decide) k) ?_
            show own_Fin p e below G (T38.setTop (mkF m 35 #[rv a1] []))
            refine own_st (fun _ k => XS.aloadN X38.here hx rfl (hb hby d3_35) rfl rfl k) ?_
            show own_Fin p e below G (T38.setTop (mkF m 36 #[rv a1] [(.ref a1)]))
            obtain ⟨T40, X40, e40, st40⟩ := getS2 X38 hx hZ hown (host := "") (Or.inl (own_w hw 30 rfl)) Via.refl e38 Sa_PORT (g := (mkF m 36 #[rv a1] [(.ref a1)])) rfl (hb hby d3_36)
            refine own_st st40 ?_
            show own_Fin p e below G (T40.setTop (mkF m 39 #[rv a1] [(.ref a_PORT), (.ref a1)]))
            by_cases ha39_41 : a1 = a_PORT
            · refine own_st (fun _ k => Jvm.RoadKit.acmp (g := (mkF m 39 #[rv a1] [(.ref a_PORT), (.ref a1)])) X40 hx rfl rfl rfl (pc0 := 39) (pc' := 42) (same := true) rfl (hb hby d3_39) rfl (decide_eq_true (congrArg Value.ref ha39_41)) (by decide) (by decide) k) ?_
              show own_Fin p e below G (T40.setTop (mkF m 42 #[rv a1] []))
              refine own_st (fun _ k => XS.iconst X40.here hx rfl (hb hby d3_42) k) ?_
              show own_Fin p e below G (T40.setTop (mkF m 43 #[rv a1] [(.int (1 : Int32))]))
              refine own_st (fun _ k => XS.goto X40.here hx rfl (pc0 := 43) (pc' := 47) rfl (hb hby d3_43) (by decide) (by decide) k) ?_
              show own_Fin p e below G (T40.setTop (mkF m 47 #[rv a1] [(.int (1 : Int32))]))
              refine own_out X40 Bd.notSynchronized (v := (some (.int (1 : Int32)))) (fun h => by rw [Bd.returns] at h; cases h) hG (fun fs hr => retN X40 hx (t := .boolean) Bd.returns (by simp) (hb hby d3_47) hr) (by decide) (by decide) ?_
              exact ⟨by unfold own_six; rw [if_neg ha4_31, if_neg ha11_33, if_neg ha18_35, if_neg ha25_37, if_neg ha32_39, if_pos ha39_41], N0, e40⟩
            · refine own_st (fun _ k => Jvm.RoadKit.acmp (g := (mkF m 39 #[rv a1] [(.ref a_PORT), (.ref a1)])) X40 hx rfl rfl rfl (pc0 := 39) (pc' := 46) (same := false) rfl (hb hby d3_39) rfl (decide_eq_false fun q => ha39_41 (Value.ref.inj q)) (by decide) (by decide) k) ?_
              show own_Fin p e below G (T40.setTop (mkF m 46 #[rv a1] []))
              refine own_st (fun _ k => XS.iconst X40.here hx rfl (hb hby d3_46) k) ?_
              show own_Fin p e below G (T40.setTop (mkF m 47 #[rv a1] [(.int (0 : Int32))]))
              refine own_out X40 Bd.notSynchronized (v := (some (.int (0 : Int32)))) (fun h => by rw [Bd.returns] at h; cases h) hG (fun fs hr => retN X40 hx (t := .boolean) Bd.returns (by simp) (hb hby d3_47) hr) (by decide) (by decide) ?_
              exact ⟨by unfold own_six; rw [if_neg ha4_31, if_neg ha11_33, if_neg ha18_35, if_neg ha25_37, if_neg ha32_39, if_neg ha39_41], N0, e40⟩

theorem d2_0 : decode prog_20_method_7_code 0 = .ok (.aload_n 0, 1) := by decide +kernel
theorem d2_1 : decode prog_20_method_7_code 1 = .ok (.getfield 78, 3) := by decide +kernel
theorem d2_4 : decode prog_20_method_7_code 4 = .ok (.aload_n 0, 1) := by decide +kernel
theorem d2_5 : decode prog_20_method_7_code 5 = .ok (.getfield 82, 3) := by decide +kernel
theorem d2_8 : decode prog_20_method_7_code 8 = .ok (.if_icmp .gt 7, 3) := by decide +kernel
theorem d2_15 : decode prog_20_method_7_code 15 = .ok (.iconst 0, 1) := by decide +kernel
theorem d2_16 : decode prog_20_method_7_code 16 = .ok (.ireturn, 1) := by decide +kernel
theorem d2_11 : decode prog_20_method_7_code 11 = .ok (.iconst 1, 1) := by decide +kernel
theorem d2_12 : decode prog_20_method_7_code 12 = .ok (.goto 4, 3) := by decide +kernel
theorem pn_com_example_rollkeeper_rollkeeper_core_Setting_Format : plainName "com/example/rollkeeper/rollkeeper/core/Setting$Format" = true := by first | (simp [plainName, overriddenIn]; done) | decide +kernel
theorem ef_2_R (m : MethodId) (x0 : Addr) : entryFrame m #[(.ref x0)] 1 = mkF m 0 #[rv x0] [] := by first | (simp [entryFrame, mkF, argsToLocals, Value.category]; done) | rfl
def Qrm_num (Z : State) (a1 : Addr) (p1 : Int32) (p2 : Int32) (h0 : Heap) (n0 : Nat) (v : Option Value) (h : Heap) (L : List Loc) : Prop := v = some (.int (own_num p1 p2)) ∧ Fr n0 L ∧ h = h0
set_option maxRecDepth 65536 in
set_option maxHeartbeats 40000000 in
theorem rm_num (l : Launch) (Z : State) (a0 : Array Value) (hw : ∀ d ∈ tables_1, d.before a0 Z = true) (ws : List Jvm.Cond) (a1 : Addr) (p1 : Int32) (p2 : Int32) (h0 : Heap) (n0 : Nat) (Z0 : n0 ≤ h0.size) (F1 : Fld Z h0 a1 "com/example/rollkeeper/rollkeeper/core/Setting$Format" "min" "I" (.int p1)) (F2 : Fld Z h0 a1 "com/example/rollkeeper/rollkeeper/core/Setting$Format" "max" "I" (.int p2)) :
    MetFree l own_y2 (head1 (Jvm.Cond.code own_y2 prog_20_method_7_code 1 (some .boolean) :: ws) ({ frames := 0, cells := 0, slots := 0, locals := 0 } : Room)) (fun a U => a = #[(.ref a1)] ∧ Z.Warmed39 U.vm ∧ U.heap = h0) (fun _ _ _ _ _ => True) (fun _ U o U' => ∃ v L, o = .returned v ∧ Qrm_num Z a1 p1 p2 h0 n0 v U'.heap L ∧ FrameEnd U o U' L ({ frames := 0, cells := 0, slots := 0, locals := 0 } : Room).cells ({ frames := 0, cells := 0, slots := 0, locals := 0 } : Room).slots) := by
  refine MetFree.of_bodySF (plainFor_of_name pn_com_example_rollkeeper_rollkeeper_core_Setting_Format) hisR ?_
  intro p e s m args below meth c s₁ Bd hml0 hP hK
  obtain ⟨rfl, hZ, hh⟩ := hP
  have hx := Bd.exec
  have hby := Bd.bytes
  have hml : c.maxLocals = 1 := hml0
  have hown : s.vm.findClass "com/example/rollkeeper/rollkeeper/core/Setting$Format" = some m.cls := findClass_of_methodNamed Bd.named
  have hnm := (name_of_methodNamed Bd.named Bd.method).1
  have X0 : Stand p l e ({ frames := 0, cells := 0, slots := 0, locals := 0 } : Room) s m #[(.ref a1)] below meth c s₁ [] 0 0 := Stand.of_body Bd
  have e0 : s₁.heap = h0 := by rw [← hh, Bd.state]; rfl
  have N0 := Fr.nil n0
  have K0 : Keep h0 h0 [] := Keep.refl _ _
  refine own_start (Qk := Qrm_num Z a1 p1 p2 h0 n0) (fun G hG => ?_)
  refine own_st (fun _ k => castTop (ef_2_R m a1) k) ?_
  show own_Fin p e below G (s₁.setTop (mkF m 0 #[rv a1] []))
  refine own_st (fun _ k => XS.aloadN X0.here hx rfl (hb hby d2_0) rfl rfl k) ?_
  show own_Fin p e below G (s₁.setTop (mkF m 1 #[rv a1] [(.ref a1)]))
  obtain ⟨T42, X42, e42, st42⟩ := getF X0 hx hZ hown (host := "") (Or.inl (own_w hw 13 rfl)) Via.refl e0 F1 (g := (mkF m 1 #[rv a1] [(.ref a1)])) rfl rfl (hb hby d2_1)
  refine own_st st42 ?_
  show own_Fin p e below G (T42.setTop (mkF m 4 #[rv a1] [(.int p1)]))
  refine own_st (fun _ k => XS.aloadN X42.here hx rfl (hb hby d2_4) rfl rfl k) ?_
  show own_Fin p e below G (T42.setTop (mkF m 5 #[rv a1] [(.ref a1), (.int p1)]))
  obtain ⟨T43, X43, e43, st43⟩ := getF X42 hx hZ hown (host := "") (Or.inl (own_w hw 15 rfl)) Via.refl e42 F2 (g := (mkF m 5 #[rv a1] [(.ref a1), (.int p1)])) rfl rfl (hb hby d2_5)
  refine own_st st43 ?_
  show own_Fin p e below G (T43.setTop (mkF m 8 #[rv a1] [(.int p2), (.int p1)]))
  by_cases hc8_44 : p2 < p1
  · refine own_st (fun _ k => XS.icmpYes X43.here hx rfl (pc0 := 8) (pc' := 15) rfl (hb hby d2_8) rfl (tlt hc8_44).2.2.1 (by decide) (by decide) k) ?_
    show own_Fin p e below G (T43.setTop (mkF m 15 #[rv a1] []))
    refine own_st (fun _ k => XS.iconst X43.here hx rfl (hb hby d2_15) k) ?_
    show own_Fin p e below G (T43.setTop (mkF m 16 #[rv a1] [(.int (0 : Int32))]))
    refine own_out X43 Bd.notSynchronized (v := (some (.int (0 : Int32)))) (fun h => by rw [Bd.returns] at h; cases h) hG (fun fs hr => retN X43 hx (t := .boolean) Bd.returns (by simp) (hb hby d2_16) hr) (by decide) (by decide) ?_
    exact ⟨by unfold own_num; rw [if_pos hc8_44], N0, e43⟩
  · refine own_st (fun _ k => XS.icmpNo X43.here hx rfl (hb hby d2_8) rfl (flt hc8_44).2.2.1 k) ?_
    show own_Fin p e below G (T43.setTop (mkF m 11 #[rv a1] []))
    refine own_st (fun _ k => XS.iconst X43.here hx rfl (hb hby d2_11) k) ?_
    show own_Fin p e below G (T43.setTop (mkF m 12 #[rv a1] [(.int (1 : Int32))]))
    refine own_st (fun _ k => XS.goto X43.here hx rfl (pc0 := 12) (pc' := 16) rfl (hb hby d2_12) (by decide) (by decide) k) ?_
    show own_Fin p e below G (T43.setTop (mkF m 16 #[rv a1] [(.int (1 : Int32))]))
    refine own_out X43 Bd.notSynchronized (v := (some (.int (1 : Int32)))) (fun h => by rw [Bd.returns] at h; cases h) hG (fun fs hr => retN X43 hx (t := .boolean) Bd.returns (by simp) (hb hby d2_16) hr) (by decide) (by decide) ?_
    exact ⟨by unfold own_num; rw [if_neg hc8_44], N0, e43⟩

theorem pd__I_Lcom_example_rollkeeper_rollkeeper_core_Setting_Format__572 : parseMethodDescriptor "(I)Lcom/example/rollkeeper/rollkeeper/core/Setting$Format;" = some ⟨[.int], some (.object "com/example/rollkeeper/rollkeeper/core/Setting$Format")⟩ := by decide +kernel
theorem pd___Z_171 : parseMethodDescriptor "()Z" = some ⟨[], some .boolean⟩ := by decide +kernel
theorem pd__Lcom_example_rollkeeper_rollkeeper_core_Setting_Format__Z_589 : parseMethodDescriptor "(Lcom/example/rollkeeper/rollkeeper/core/Setting$Format;)Z" = some ⟨[(.object "com/example/rollkeeper/rollkeeper/core/Setting$Format")], some .boolean⟩ := by decide +kernel
theorem ef_0_I (m : MethodId) (x0 : Int32) : entryFrame m #[(.int x0)] maxLocals = mkF m 0 #[iv x0, .unset, .unset] [] := by first | (simp [entryFrame, mkF, argsToLocals, Value.category, maxLocals]; done) | rfl
def Qrm0 (Z : State) (p1 : Int32) (a_FLAG : Addr) (a_COUNT : Addr) (a_PAGE_SIZE : Addr) (a_PASSWORD_LENGTH : Addr) (a_DAYS : Addr) (a_SECONDS : Addr) (a_PORT : Addr) (a_IP_ADDRESS : Addr) (a_OTP_CODE : Addr) (a_TENANT : Addr) (a_JDBC_URL : Addr) (a_HTTP_URL : Addr) (a_AES_KEY : Addr) (a_TEXT : Addr) (a_SECRET : Addr) (h0 : Heap) (n0 : Nat) (v : Option Value) (h : Heap) (L : List Loc) : Prop := v = some (.int 1) ∧ Fr n0 L
set_option maxRecDepth 65536 in
set_option maxHeartbeats 40000000 in
theorem rm0 (l : Launch) (Z : State) (a0 : Array Value) (hw : ∀ d ∈ tables_1, d.before a0 Z = true) (ws : List Jvm.Cond) (p1 : Int32) (a_FLAG : Addr) (a_COUNT : Addr) (a_PAGE_SIZE : Addr) (a_PASSWORD_LENGTH : Addr) (a_DAYS : Addr) (a_SECONDS : Addr) (a_PORT : Addr) (a_IP_ADDRESS : Addr) (a_OTP_CODE : Addr) (a_TENANT : Addr) (a_JDBC_URL : Addr) (a_HTTP_URL : Addr) (a_AES_KEY : Addr) (a_TEXT : Addr) (a_SECRET : Addr) (h0 : Heap) (n0 : Nat) (Z0 : n0 ≤ h0.size) (Ea_FLAG : Exa Z h0 a_FLAG "com/example/rollkeeper/rollkeeper/core/Setting$Format") (Sa_FLAG : Sta Z h0 "com/example/rollkeeper/rollkeeper/core/Setting$Format" "FLAG" "Lcom/example/rollkeeper/rollkeeper/core/Setting$Format;" (.ref a_FLAG)) (Ea_COUNT : Exa Z h0 a_COUNT "com/example/rollkeeper/rollkeeper/core/Setting$Format") (Sa_COUNT : Sta Z h0 "com/example/rollkeeper/rollkeeper/core/Setting$Format" "COUNT" "Lcom/example/rollkeeper/rollkeeper/core/Setting$Format;" (.ref a_COUNT)) (Ea_PAGE_SIZE : Exa Z h0 a_PAGE_SIZE "com/example/rollkeeper/rollkeeper/core/Setting$Format") (Sa_PAGE_SIZE : Sta Z h0 "com/example/rollkeeper/rollkeeper/core/Setting$Format" "PAGE_SIZE" "Lcom/example/rollkeeper/rollkeeper/core/Setting$Format;" (.ref a_PAGE_SIZE)) (Ea_PASSWORD_LENGTH : Exa Z h0 a_PASSWORD_LENGTH "com/example/rollkeeper/rollkeeper/core/Setting$Format") (Sa_PASSWORD_LENGTH : Sta Z h0 "com/example/rollkeeper/rollkeeper/core/Setting$Format" "PASSWORD_LENGTH" "Lcom/example/rollkeeper/rollkeeper/core/Setting$Format;" (.ref a_PASSWORD_LENGTH)) (Ea_DAYS : Exa Z h0 a_DAYS "com/example/rollkeeper/rollkeeper/core/Setting$Format") (Sa_DAYS : Sta Z h0 "com/example/rollkeeper/rollkeeper/core/Setting$Format" "DAYS" "Lcom/example/rollkeeper/rollkeeper/core/Setting$Format;" (.ref a_DAYS)) (Ea_SECONDS : Exa Z h0 a_SECONDS "com/example/rollkeeper/rollkeeper/core/Setting$Format") (Sa_SECONDS : Sta Z h0 "com/example/rollkeeper/rollkeeper/core/Setting$Format" "SECONDS" "Lcom/example/rollkeeper/rollkeeper/core/Setting$Format;" (.ref a_SECONDS)) (Ea_PORT : Exa Z h0 a_PORT "com/example/rollkeeper/rollkeeper/core/Setting$Format") (Sa_PORT : Sta Z h0 "com/example/rollkeeper/rollkeeper/core/Setting$Format" "PORT" "Lcom/example/rollkeeper/rollkeeper/core/Setting$Format;" (.ref a_PORT)) (Ea_TEXT : Exa Z h0 a_TEXT "com/example/rollkeeper/rollkeeper/core/Setting$Format") (Sa_TEXT : Sta Z h0 "com/example/rollkeeper/rollkeeper/core/Setting$Format" "TEXT" "Lcom/example/rollkeeper/rollkeeper/core/Setting$Format;" (.ref a_TEXT)) (Ea_SECRET : Exa Z h0 a_SECRET "com/example/rollkeeper/rollkeeper/core/Setting$Format") (Sa_SECRET : Sta Z h0 "com/example/rollkeeper/rollkeeper/core/Setting$Format" "SECRET" "Lcom/example/rollkeeper/rollkeeper/core/Setting$Format;" (.ref a_SECRET)) (Ea_IP_ADDRESS : Exa Z h0 a_IP_ADDRESS "com/example/rollkeeper/rollkeeper/core/Setting$Format") (Sa_IP_ADDRESS : Sta Z h0 "com/example/rollkeeper/rollkeeper/core/Setting$Format" "IP_ADDRESS" "Lcom/example/rollkeeper/rollkeeper/core/Setting$Format;" (.ref a_IP_ADDRESS)) (Ea_HTTP_URL : Exa Z h0 a_HTTP_URL "com/example/rollkeeper/rollkeeper/core/Setting$Format") (Sa_HTTP_URL : Sta Z h0 "com/example/rollkeeper/rollkeeper/core/Setting$Format" "HTTP_URL" "Lcom/example/rollkeeper/rollkeeper/core/Setting$Format;" (.ref a_HTTP_URL)) (Ea_JDBC_URL : Exa Z h0 a_JDBC_URL "com/example/rollkeeper/rollkeeper/core/Setting$Format") (Sa_JDBC_URL : Sta Z h0 "com/example/rollkeeper/rollkeeper/core/Setting$Format" "JDBC_URL" "Lcom/example/rollkeeper/rollkeeper/core/Setting$Format;" (.ref a_JDBC_URL)) (Ea_OTP_CODE : Exa Z h0 a_OTP_CODE "com/example/rollkeeper/rollkeeper/core/Setting$Format") (Sa_OTP_CODE : Sta Z h0 "com/example/rollkeeper/rollkeeper/core/Setting$Format" "OTP_CODE" "Lcom/example/rollkeeper/rollkeeper/core/Setting$Format;" (.ref a_OTP_CODE)) (Ea_AES_KEY : Exa Z h0 a_AES_KEY "com/example/rollkeeper/rollkeeper/core/Setting$Format") (Sa_AES_KEY : Sta Z h0 "com/example/rollkeeper/rollkeeper/core/Setting$Format" "AES_KEY" "Lcom/example/rollkeeper/rollkeeper/core/Setting$Format;" (.ref a_AES_KEY)) (Ea_TENANT : Exa Z h0 a_TENANT "com/example/rollkeeper/rollkeeper/core/Setting$Format") (Sa_TENANT : Sta Z h0 "com/example/rollkeeper/rollkeeper/core/Setting$Format" "TENANT" "Lcom/example/rollkeeper/rollkeeper/core/Setting$Format;" (.ref a_TENANT)) (Fa_FLAG_min : Fld Z h0 a_FLAG "com/example/rollkeeper/rollkeeper/core/Setting$Format" "min" "I" (.int (0 : Int32))) (Fa_FLAG_max : Fld Z h0 a_FLAG "com/example/rollkeeper/rollkeeper/core/Setting$Format" "max" "I" (.int (-1 : Int32))) (Fa_FLAG_ordinal : Fld Z h0 a_FLAG "java/lang/Enum" "ordinal" "I" (.int (0 : Int32))) (Fa_COUNT_ordinal : Fld Z h0 a_COUNT "java/lang/Enum" "ordinal" "I" (.int (1 : Int32))) (Fa_PAGE_SIZE_ordinal : Fld Z h0 a_PAGE_SIZE "java/lang/Enum" "ordinal" "I" (.int (2 : Int32))) (Fa_PASSWORD_LENGTH_ordinal : Fld Z h0 a_PASSWORD_LENGTH "java/lang/Enum" "ordinal" "I" (.int (3 : Int32))) (Fa_DAYS_ordinal : Fld Z h0 a_DAYS "java/lang/Enum" "ordinal" "I" (.int (4 : Int32))) (Fa_SECONDS_ordinal : Fld Z h0 a_SECONDS "java/lang/Enum" "ordinal" "I" (.int (5 : Int32))) (Fa_PORT_ordinal : Fld Z h0 a_PORT "java/lang/Enum" "ordinal" "I" (.int (6 : Int32))) (Fa_PASSWORD_LENGTH_min : Fld Z h0 a_PASSWORD_LENGTH "com/example/rollkeeper/rollkeeper/core/Setting$Format" "min" "I" (.int (8 : Int32))) (Fa_PASSWORD_LENGTH_max : Fld Z h0 a_PASSWORD_LENGTH "com/example/rollkeeper/rollkeeper/core/Setting$Format" "max" "I" (.int (64 : Int32))) (Fa_SECONDS_min : Fld Z h0 a_SECONDS "com/example/rollkeeper/rollkeeper/core/Setting$Format" "min" "I" (.int (0 : Int32))) (Fa_SECONDS_max : Fld Z h0 a_SECONDS "com/example/rollkeeper/rollkeeper/core/Setting$Format" "max" "I" (.int (3600 : Int32))) (Fa_TEXT_min : Fld Z h0 a_TEXT "com/example/rollkeeper/rollkeeper/core/Setting$Format" "min" "I" (.int (0 : Int32))) (Fa_TEXT_max : Fld Z h0 a_TEXT "com/example/rollkeeper/rollkeeper/core/Setting$Format" "max" "I" (.int (-1 : Int32))) (Fa_TEXT_ordinal : Fld Z h0 a_TEXT "java/lang/Enum" "ordinal" "I" (.int (13 : Int32))) (Fa_PORT_min : Fld Z h0 a_PORT "com/example/rollkeeper/rollkeeper/core/Setting$Format" "min" "I" (.int (0 : Int32))) (Fa_PORT_max : Fld Z h0 a_PORT "com/example/rollkeeper/rollkeeper/core/Setting$Format" "max" "I" (.int (65535 : Int32))) (Fa_SECRET_min : Fld Z h0 a_SECRET "com/example/rollkeeper/rollkeeper/core/Setting$Format" "min" "I" (.int (0 : Int32))) (Fa_SECRET_max : Fld Z h0 a_SECRET "com/example/rollkeeper/rollkeeper/core/Setting$Format" "max" "I" (.int (-1 : Int32))) (Fa_SECRET_ordinal : Fld Z h0 a_SECRET "java/lang/Enum" "ordinal" "I" (.int (14 : Int32))) (Fa_IP_ADDRESS_min : Fld Z h0 a_IP_ADDRESS "com/example/rollkeeper/rollkeeper/core/Setting$Format" "min" "I" (.int (0 : Int32))) (Fa_IP_ADDRESS_max : Fld Z h0 a_IP_ADDRESS "com/example/rollkeeper/rollkeeper/core/Setting$Format" "max" "I" (.int (-1 : Int32))) (Fa_IP_ADDRESS_ordinal : Fld Z h0 a_IP_ADDRESS "java/lang/Enum" "ordinal" "I" (.int (7 : Int32))) (Fa_PAGE_SIZE_min : Fld Z h0 a_PAGE_SIZE "com/example/rollkeeper/rollkeeper/core/Setting$Format" "min" "I" (.int (1 : Int32))) (Fa_PAGE_SIZE_max : Fld Z h0 a_PAGE_SIZE "com/example/rollkeeper/rollkeeper/core/Setting$Format" "max" "I" (.int (100 : Int32))) (Fa_HTTP_URL_min : Fld Z h0 a_HTTP_URL "com/example/rollkeeper/rollkeeper/core/Setting$Format" "min" "I" (.int (0 : Int32))) (Fa_HTTP_URL_max : Fld Z h0 a_HTTP_URL "com/example/rollkeeper/rollkeeper/core/Setting$Format" "max" "I" (.int (-1 : Int32))) (Fa_HTTP_URL_ordinal : Fld Z h0 a_HTTP_URL "java/lang/Enum" "ordinal" "I" (.int (11 : Int32))) (Fa_JDBC_URL_min : Fld Z h0 a_JDBC_URL "com/example/rollkeeper/rollkeeper/core/Setting$Format" "min" "I" (.int (0 : Int32))) (Fa_JDBC_URL_max : Fld Z h0 a_JDBC_URL "com/example/rollkeeper/rollkeeper/core/Setting$Format" "max" "I" (.int (-1 : Int32))) (Fa_JDBC_URL_ordinal : Fld Z h0 a_JDBC_URL "java/lang/Enum" "ordinal" "I" (.int (10 : Int32))) (Fa_OTP_CODE_min : Fld Z h0 a_OTP_CODE "com/example/rollkeeper/rollkeeper/core/Setting$Format" "min" "I" (.int (0 : Int32))) (Fa_OTP_CODE_max : Fld Z h0 a_OTP_CODE "com/example/rollkeeper/rollkeeper/core/Setting$Format" "max" "I" (.int (-1 : Int32))) (Fa_OTP_CODE_ordinal : Fld Z h0 a_OTP_CODE "java/lang/Enum" "ordinal" "I" (.int (8 : Int32))) (Fa_COUNT_min : Fld Z h0 a_COUNT "com/example/rollkeeper/rollkeeper/core/Setting$Format" "min" "I" (.int (1 : Int32))) (Fa_COUNT_max : Fld Z h0 a_COUNT "com/example/rollkeeper/rollkeeper/core/Setting$Format" "max" "I" (.int (2147483647 : Int32))) (Fa_AES_KEY_min : Fld Z h0 a_AES_KEY "com/example/rollkeeper/rollkeeper/core/Setting$Format" "min" "I" (.int (0 : Int32))) (Fa_AES_KEY_max : Fld Z h0 a_AES_KEY "com/example/rollkeeper/rollkeeper/core/Setting$Format" "max" "I" (.int (-1 : Int32))) (Fa_AES_KEY_ordinal : Fld Z h0 a_AES_KEY "java/lang/Enum" "ordinal" "I" (.int (12 : Int32))) (Fa_DAYS_min : Fld Z h0 a_DAYS "com/example/rollkeeper/rollkeeper/core/Setting$Format" "min" "I" (.int (1 : Int32))) (Fa_DAYS_max : Fld Z h0 a_DAYS "com/example/rollkeeper/rollkeeper/core/Setting$Format" "max" "I" (.int (36500 : Int32))) (Fa_TENANT_min : Fld Z h0 a_TENANT "com/example/rollkeeper/rollkeeper/core/Setting$Format" "min" "I" (.int (0 : Int32))) (Fa_TENANT_max : Fld Z h0 a_TENANT "com/example/rollkeeper/rollkeeper/core/Setting$Format" "max" "I" (.int (-1 : Int32))) (Fa_TENANT_ordinal : Fld Z h0 a_TENANT "java/lang/Enum" "ordinal" "I" (.int (9 : Int32))) :
    MetFree l x (head1 (Jvm.Cond.code x code maxLocals ret :: ws) room_1) (fun a U => a = #[(.int p1)] ∧ Z.Warmed39 U.vm ∧ U.heap = h0) (fun _ _ _ _ _ => True) (fun _ U o U' => ∃ v L, o = .returned v ∧ Qrm0 Z p1 a_FLAG a_COUNT a_PAGE_SIZE a_PASSWORD_LENGTH a_DAYS a_SECONDS a_PORT a_IP_ADDRESS a_OTP_CODE a_TENANT a_JDBC_URL a_HTTP_URL a_AES_KEY a_TEXT a_SECRET h0 n0 v U'.heap L ∧ FrameEnd U o U' L room_1.cells room_1.slots) := by
  refine MetFree.of_bodySF (plainFor_of_name pn_com_example_rollkeeper_rollkeeper_core_FormatIsNumberPinLaw) hisR ?_
  intro p e s m args below meth c s₁ Bd hml0 hP hK
  obtain ⟨rfl, hZ, hh⟩ := hP
  have hx := Bd.exec
  have hby := Bd.bytes
  have hml : c.maxLocals = 3 := hml0
  have hown : s.vm.findClass "com/example/rollkeeper/rollkeeper/core/FormatIsNumberPinLaw" = some m.cls := findClass_of_methodNamed Bd.named
  have hnm := (name_of_methodNamed Bd.named Bd.method).1
  have X0 : Stand p l e room_1 s m #[(.int p1)] below meth c s₁ [] 0 0 := Stand.of_body Bd
  have e0 : s₁.heap = h0 := by rw [← hh, Bd.state]; rfl
  have N0 := Fr.nil n0
  have K0 : Keep h0 h0 [] := Keep.refl _ _
  have ne_a_FLAG_a_COUNT : a_FLAG ≠ a_COUNT := Fld.ne Fa_FLAG_ordinal Fa_COUNT_ordinal (by decide)
  have ne_a_FLAG_a_PAGE_SIZE : a_FLAG ≠ a_PAGE_SIZE := Fld.ne Fa_FLAG_ordinal Fa_PAGE_SIZE_ordinal (by decide)
  have ne_a_FLAG_a_PASSWORD_LENGTH : a_FLAG ≠ a_PASSWORD_LENGTH := Fld.ne Fa_FLAG_ordinal Fa_PASSWORD_LENGTH_ordinal (by decide)
  have ne_a_FLAG_a_DAYS : a_FLAG ≠ a_DAYS := Fld.ne Fa_FLAG_ordinal Fa_DAYS_ordinal (by decide)
  have ne_a_FLAG_a_SECONDS : a_FLAG ≠ a_SECONDS := Fld.ne Fa_FLAG_ordinal Fa_SECONDS_ordinal (by decide)
  have ne_a_FLAG_a_PORT : a_FLAG ≠ a_PORT := Fld.ne Fa_FLAG_ordinal Fa_PORT_ordinal (by decide)
  have ne_a_COUNT_a_PAGE_SIZE : a_COUNT ≠ a_PAGE_SIZE := Fld.ne Fa_COUNT_ordinal Fa_PAGE_SIZE_ordinal (by decide)
  have ne_a_COUNT_a_PASSWORD_LENGTH : a_COUNT ≠ a_PASSWORD_LENGTH := Fld.ne Fa_COUNT_ordinal Fa_PASSWORD_LENGTH_ordinal (by decide)
  have ne_a_COUNT_a_DAYS : a_COUNT ≠ a_DAYS := Fld.ne Fa_COUNT_ordinal Fa_DAYS_ordinal (by decide)
  have ne_a_COUNT_a_SECONDS : a_COUNT ≠ a_SECONDS := Fld.ne Fa_COUNT_ordinal Fa_SECONDS_ordinal (by decide)
  have ne_a_COUNT_a_PORT : a_COUNT ≠ a_PORT := Fld.ne Fa_COUNT_ordinal Fa_PORT_ordinal (by decide)
  have ne_a_PAGE_SIZE_a_PASSWORD_LENGTH : a_PAGE_SIZE ≠ a_PASSWORD_LENGTH := Fld.ne Fa_PAGE_SIZE_ordinal Fa_PASSWORD_LENGTH_ordinal (by decide)
  have ne_a_PAGE_SIZE_a_DAYS : a_PAGE_SIZE ≠ a_DAYS := Fld.ne Fa_PAGE_SIZE_ordinal Fa_DAYS_ordinal (by decide)
  have ne_a_PAGE_SIZE_a_SECONDS : a_PAGE_SIZE ≠ a_SECONDS := Fld.ne Fa_PAGE_SIZE_ordinal Fa_SECONDS_ordinal (by decide)
  have ne_a_PAGE_SIZE_a_PORT : a_PAGE_SIZE ≠ a_PORT := Fld.ne Fa_PAGE_SIZE_ordinal Fa_PORT_ordinal (by decide)
  have ne_a_PASSWORD_LENGTH_a_DAYS : a_PASSWORD_LENGTH ≠ a_DAYS := Fld.ne Fa_PASSWORD_LENGTH_ordinal Fa_DAYS_ordinal (by decide)
  have ne_a_PASSWORD_LENGTH_a_SECONDS : a_PASSWORD_LENGTH ≠ a_SECONDS := Fld.ne Fa_PASSWORD_LENGTH_ordinal Fa_SECONDS_ordinal (by decide)
  have ne_a_PASSWORD_LENGTH_a_PORT : a_PASSWORD_LENGTH ≠ a_PORT := Fld.ne Fa_PASSWORD_LENGTH_ordinal Fa_PORT_ordinal (by decide)
  have ne_a_DAYS_a_SECONDS : a_DAYS ≠ a_SECONDS := Fld.ne Fa_DAYS_ordinal Fa_SECONDS_ordinal (by decide)
  have ne_a_DAYS_a_PORT : a_DAYS ≠ a_PORT := Fld.ne Fa_DAYS_ordinal Fa_PORT_ordinal (by decide)
  have ne_a_SECONDS_a_PORT : a_SECONDS ≠ a_PORT := Fld.ne Fa_SECONDS_ordinal Fa_PORT_ordinal (by decide)
  have ne_a_IP_ADDRESS_a_COUNT : a_IP_ADDRESS ≠ a_COUNT := Fld.ne Fa_IP_ADDRESS_ordinal Fa_COUNT_ordinal (by decide)
  have ne_a_IP_ADDRESS_a_PAGE_SIZE : a_IP_ADDRESS ≠ a_PAGE_SIZE := Fld.ne Fa_IP_ADDRESS_ordinal Fa_PAGE_SIZE_ordinal (by decide)
  have ne_a_IP_ADDRESS_a_PASSWORD_LENGTH : a_IP_ADDRESS ≠ a_PASSWORD_LENGTH := Fld.ne Fa_IP_ADDRESS_ordinal Fa_PASSWORD_LENGTH_ordinal (by decide)
  have ne_a_IP_ADDRESS_a_DAYS : a_IP_ADDRESS ≠ a_DAYS := Fld.ne Fa_IP_ADDRESS_ordinal Fa_DAYS_ordinal (by decide)
  have ne_a_IP_ADDRESS_a_SECONDS : a_IP_ADDRESS ≠ a_SECONDS := Fld.ne Fa_IP_ADDRESS_ordinal Fa_SECONDS_ordinal (by decide)
  have ne_a_IP_ADDRESS_a_PORT : a_IP_ADDRESS ≠ a_PORT := Fld.ne Fa_IP_ADDRESS_ordinal Fa_PORT_ordinal (by decide)
  have ne_a_OTP_CODE_a_COUNT : a_OTP_CODE ≠ a_COUNT := Fld.ne Fa_OTP_CODE_ordinal Fa_COUNT_ordinal (by decide)
  have ne_a_OTP_CODE_a_PAGE_SIZE : a_OTP_CODE ≠ a_PAGE_SIZE := Fld.ne Fa_OTP_CODE_ordinal Fa_PAGE_SIZE_ordinal (by decide)
  have ne_a_OTP_CODE_a_PASSWORD_LENGTH : a_OTP_CODE ≠ a_PASSWORD_LENGTH := Fld.ne Fa_OTP_CODE_ordinal Fa_PASSWORD_LENGTH_ordinal (by decide)
  have ne_a_OTP_CODE_a_DAYS : a_OTP_CODE ≠ a_DAYS := Fld.ne Fa_OTP_CODE_ordinal Fa_DAYS_ordinal (by decide)
  have ne_a_OTP_CODE_a_SECONDS : a_OTP_CODE ≠ a_SECONDS := Fld.ne Fa_OTP_CODE_ordinal Fa_SECONDS_ordinal (by decide)
  have ne_a_OTP_CODE_a_PORT : a_OTP_CODE ≠ a_PORT := Fld.ne Fa_OTP_CODE_ordinal Fa_PORT_ordinal (by decide)
  have ne_a_TENANT_a_COUNT : a_TENANT ≠ a_COUNT := Fld.ne Fa_TENANT_ordinal Fa_COUNT_ordinal (by decide)
  have ne_a_TENANT_a_PAGE_SIZE : a_TENANT ≠ a_PAGE_SIZE := Fld.ne Fa_TENANT_ordinal Fa_PAGE_SIZE_ordinal (by decide)
  have ne_a_TENANT_a_PASSWORD_LENGTH : a_TENANT ≠ a_PASSWORD_LENGTH := Fld.ne Fa_TENANT_ordinal Fa_PASSWORD_LENGTH_ordinal (by decide)
  have ne_a_TENANT_a_DAYS : a_TENANT ≠ a_DAYS := Fld.ne Fa_TENANT_ordinal Fa_DAYS_ordinal (by decide)
  have ne_a_TENANT_a_SECONDS : a_TENANT ≠ a_SECONDS := Fld.ne Fa_TENANT_ordinal Fa_SECONDS_ordinal (by decide)
  have ne_a_TENANT_a_PORT : a_TENANT ≠ a_PORT := Fld.ne Fa_TENANT_ordinal Fa_PORT_ordinal (by decide)
  have ne_a_JDBC_URL_a_COUNT : a_JDBC_URL ≠ a_COUNT := Fld.ne Fa_JDBC_URL_ordinal Fa_COUNT_ordinal (by decide)
  have ne_a_JDBC_URL_a_PAGE_SIZE : a_JDBC_URL ≠ a_PAGE_SIZE := Fld.ne Fa_JDBC_URL_ordinal Fa_PAGE_SIZE_ordinal (by decide)
  have ne_a_JDBC_URL_a_PASSWORD_LENGTH : a_JDBC_URL ≠ a_PASSWORD_LENGTH := Fld.ne Fa_JDBC_URL_ordinal Fa_PASSWORD_LENGTH_ordinal (by decide)
  have ne_a_JDBC_URL_a_DAYS : a_JDBC_URL ≠ a_DAYS := Fld.ne Fa_JDBC_URL_ordinal Fa_DAYS_ordinal (by decide)
  have ne_a_JDBC_URL_a_SECONDS : a_JDBC_URL ≠ a_SECONDS := Fld.ne Fa_JDBC_URL_ordinal Fa_SECONDS_ordinal (by decide)
  have ne_a_JDBC_URL_a_PORT : a_JDBC_URL ≠ a_PORT := Fld.ne Fa_JDBC_URL_ordinal Fa_PORT_ordinal (by decide)
  have ne_a_HTTP_URL_a_COUNT : a_HTTP_URL ≠ a_COUNT := Fld.ne Fa_HTTP_URL_ordinal Fa_COUNT_ordinal (by decide)
  have ne_a_HTTP_URL_a_PAGE_SIZE : a_HTTP_URL ≠ a_PAGE_SIZE := Fld.ne Fa_HTTP_URL_ordinal Fa_PAGE_SIZE_ordinal (by decide)
  have ne_a_HTTP_URL_a_PASSWORD_LENGTH : a_HTTP_URL ≠ a_PASSWORD_LENGTH := Fld.ne Fa_HTTP_URL_ordinal Fa_PASSWORD_LENGTH_ordinal (by decide)
  have ne_a_HTTP_URL_a_DAYS : a_HTTP_URL ≠ a_DAYS := Fld.ne Fa_HTTP_URL_ordinal Fa_DAYS_ordinal (by decide)
  have ne_a_HTTP_URL_a_SECONDS : a_HTTP_URL ≠ a_SECONDS := Fld.ne Fa_HTTP_URL_ordinal Fa_SECONDS_ordinal (by decide)
  have ne_a_HTTP_URL_a_PORT : a_HTTP_URL ≠ a_PORT := Fld.ne Fa_HTTP_URL_ordinal Fa_PORT_ordinal (by decide)
  have ne_a_AES_KEY_a_COUNT : a_AES_KEY ≠ a_COUNT := Fld.ne Fa_AES_KEY_ordinal Fa_COUNT_ordinal (by decide)
  have ne_a_AES_KEY_a_PAGE_SIZE : a_AES_KEY ≠ a_PAGE_SIZE := Fld.ne Fa_AES_KEY_ordinal Fa_PAGE_SIZE_ordinal (by decide)
  have ne_a_AES_KEY_a_PASSWORD_LENGTH : a_AES_KEY ≠ a_PASSWORD_LENGTH := Fld.ne Fa_AES_KEY_ordinal Fa_PASSWORD_LENGTH_ordinal (by decide)
  have ne_a_AES_KEY_a_DAYS : a_AES_KEY ≠ a_DAYS := Fld.ne Fa_AES_KEY_ordinal Fa_DAYS_ordinal (by decide)
  have ne_a_AES_KEY_a_SECONDS : a_AES_KEY ≠ a_SECONDS := Fld.ne Fa_AES_KEY_ordinal Fa_SECONDS_ordinal (by decide)
  have ne_a_AES_KEY_a_PORT : a_AES_KEY ≠ a_PORT := Fld.ne Fa_AES_KEY_ordinal Fa_PORT_ordinal (by decide)
  have ne_a_TEXT_a_COUNT : a_TEXT ≠ a_COUNT := Fld.ne Fa_TEXT_ordinal Fa_COUNT_ordinal (by decide)
  have ne_a_TEXT_a_PAGE_SIZE : a_TEXT ≠ a_PAGE_SIZE := Fld.ne Fa_TEXT_ordinal Fa_PAGE_SIZE_ordinal (by decide)
  have ne_a_TEXT_a_PASSWORD_LENGTH : a_TEXT ≠ a_PASSWORD_LENGTH := Fld.ne Fa_TEXT_ordinal Fa_PASSWORD_LENGTH_ordinal (by decide)
  have ne_a_TEXT_a_DAYS : a_TEXT ≠ a_DAYS := Fld.ne Fa_TEXT_ordinal Fa_DAYS_ordinal (by decide)
  have ne_a_TEXT_a_SECONDS : a_TEXT ≠ a_SECONDS := Fld.ne Fa_TEXT_ordinal Fa_SECONDS_ordinal (by decide)
  have ne_a_TEXT_a_PORT : a_TEXT ≠ a_PORT := Fld.ne Fa_TEXT_ordinal Fa_PORT_ordinal (by decide)
  have ne_a_SECRET_a_COUNT : a_SECRET ≠ a_COUNT := Fld.ne Fa_SECRET_ordinal Fa_COUNT_ordinal (by decide)
  have ne_a_SECRET_a_PAGE_SIZE : a_SECRET ≠ a_PAGE_SIZE := Fld.ne Fa_SECRET_ordinal Fa_PAGE_SIZE_ordinal (by decide)
  have ne_a_SECRET_a_PASSWORD_LENGTH : a_SECRET ≠ a_PASSWORD_LENGTH := Fld.ne Fa_SECRET_ordinal Fa_PASSWORD_LENGTH_ordinal (by decide)
  have ne_a_SECRET_a_DAYS : a_SECRET ≠ a_DAYS := Fld.ne Fa_SECRET_ordinal Fa_DAYS_ordinal (by decide)
  have ne_a_SECRET_a_SECONDS : a_SECRET ≠ a_SECONDS := Fld.ne Fa_SECRET_ordinal Fa_SECONDS_ordinal (by decide)
  have ne_a_SECRET_a_PORT : a_SECRET ≠ a_PORT := Fld.ne Fa_SECRET_ordinal Fa_PORT_ordinal (by decide)
  refine own_start (Qk := Qrm0 Z p1 a_FLAG a_COUNT a_PAGE_SIZE a_PASSWORD_LENGTH a_DAYS a_SECONDS a_PORT a_IP_ADDRESS a_OTP_CODE a_TENANT a_JDBC_URL a_HTTP_URL a_AES_KEY a_TEXT a_SECRET h0 n0) (fun G hG => ?_)
  refine own_st (fun _ k => castTop (ef_0_I m p1) k) ?_
  show own_Fin p e below G (s₁.setTop (mkF m 0 #[iv p1, .unset, .unset] []))
  refine own_st (fun _ k => XS.iloadN X0.here hx rfl (hb hby at_0) rfl  k) ?_
  show own_Fin p e below G (s₁.setTop (mkF m 1 #[iv p1, .unset, .unset] [(.int p1)]))
  refine own_st (fun _ k => own_ldc X0 hx hZ hown (own_w hw 0 rfl) (g := (mkF m 1 #[iv p1, .unset, .unset] [(.int p1)])) rfl (hb hby at_1) k) ?_
  show own_Fin p e below G (s₁.setTop (mkF m 3 #[iv p1, .unset, .unset] [(.int (2147483647 : Int32)), (.int p1)]))
  refine own_st (fun _ k => XS.iand X0.here hx rfl (hb hby at_3) rfl k) ?_
  show own_Fin p e below G (s₁.setTop (mkF m 4 #[iv p1, .unset, .unset] [(.int (p1 &&& (2147483647 : Int32)))]))
  refine own_st (fun _ k => XS.bipush X0.here hx rfl (hb hby at_4) k) ?_
  show own_Fin p e below G (s₁.setTop (mkF m 6 #[iv p1, .unset, .unset] [(.int (15 : Int32)), (.int (p1 &&& (2147483647 : Int32)))]))
  refine own_st (fun _ k => iremM (g := (mkF m 6 #[iv p1, .unset, .unset] [(.int (15 : Int32)), (.int (p1 &&& (2147483647 : Int32)))])) X0 hx rfl (hb hby at_6) rfl (by decide) k) ?_
  show own_Fin p e below G (s₁.setTop (mkF m 7 #[iv p1, .unset, .unset] [(.int ((p1 &&& (2147483647 : Int32)) % (15 : Int32)))]))
  generalize e_v45 : ((p1 &&& (2147483647 : Int32)) % (15 : Int32)) = v45
  show own_Fin p e below G (s₁.setTop (mkF m 7 #[iv p1, .unset, .unset] [(.int v45)]))
  have r15 := own_r15 p1
  rw [e_v45] at r15
  refine own_st (fun _ k => XS.istoreN X0.here hx rfl (hb hby at_7) rfl (l' := #[iv p1, iv v45, .unset]) rfl k) ?_
  show own_Fin p e below G (s₁.setTop (mkF m 8 #[iv p1, iv v45, .unset] []))
  rcases own_c15 r15 with rfl | rfl | rfl | rfl | rfl | rfl | rfl | rfl | rfl | rfl | rfl | rfl | rfl | rfl | rfl
  · show own_Fin p e below G (s₁.setTop (mkF m 8 #[iv p1, iv (0 : Int32), .unset] []))
    refine own_st (fun _ k => XS.iloadN X0.here hx rfl (hb hby at_8) rfl  k) ?_
    show own_Fin p e below G (s₁.setTop (mkF m 9 #[iv p1, iv (0 : Int32), .unset] [(.int (0 : Int32))]))
    obtain ⟨_, _, ⟨T46, L46, k46, n46⟩, -, X46, ⟨Lc46, hQ46, l46, y46, z46⟩, st46⟩ := Jvm.LawKit.callS X0 hx (y := own_y0) hown (mvT hZ (own_w hw 1 rfl)) (mvT hZ (own_w hw 2 rfl)) (mvT hZ (own_w hw 3 rfl)) (mvT hZ (own_w hw 4 rfl)) (by decide) (backOf (W := 0) (rm_pick l Z a0 hw [] (0 : Int32) a_FLAG a_COUNT a_PAGE_SIZE a_PASSWORD_LENGTH a_DAYS a_SECONDS a_PORT a_IP_ADDRESS a_OTP_CODE a_TENANT a_JDBC_URL a_HTTP_URL a_AES_KEY a_TEXT a_SECRET h0 n0 (Nat.le_trans Z0 K0.1) Sa_FLAG Sa_COUNT Sa_PAGE_SIZE Sa_PASSWORD_LENGTH Sa_DAYS Sa_SECONDS Sa_PORT Sa_IP_ADDRESS Sa_OTP_CODE Sa_TENANT Sa_JDBC_URL Sa_HTTP_URL Sa_AES_KEY Sa_TEXT Sa_SECRET) hZ (own_w hw 4 rfl) (own_w hw 3 rfl) (by decide) (by decide)) (g := (mkF m 9 #[iv p1, iv (0 : Int32), .unset] [(.int (0 : Int32))])) rfl (by rw [hml]; rfl) (argsL := [(.int (0 : Int32))]) (rest := []) (lenOf pd__I_Lcom_example_rollkeeper_rollkeeper_core_Setting_Format__572 rfl) rfl (by show 2 * 0 + _ ≤ _; exact Nat.le_of_eq rfl) (hb hby at_9) (fun _ _ => ⟨rfl, e0, (by decide : 0 + 0 ≤ _), (by decide : 0 + 0 ≤ _)⟩)
    dsimp only [Pt.U, Pt.locs, Pt.cells, Pt.slots] at X46 l46 y46 z46 st46 hQ46
    subst l46 y46 z46
    obtain ⟨rfl, N46q, e46⟩ := hQ46
    skip
    have N46 := Fr.app N0 N46q
    refine own_st st46 ?_
    show own_Fin p e below G (T46.setTop (mkF m 12 #[iv p1, iv (0 : Int32), .unset] [(.ref a_FLAG)]))
    refine own_st (fun _ k => XS.astoreN X46.here hx rfl (hb hby at_12) rfl rfl (l' := #[iv p1, iv (0 : Int32), rv a_FLAG]) rfl k) ?_
    show own_Fin p e below G (T46.setTop (mkF m 13 #[iv p1, iv (0 : Int32), rv a_FLAG] []))
    refine own_st (fun _ k => XS.aloadN X46.here hx rfl (hb hby at_13) rfl rfl k) ?_
    show own_Fin p e below G (T46.setTop (mkF m 14 #[iv p1, iv (0 : Int32), rv a_FLAG] [(.ref a_FLAG)]))
    obtain ⟨cq47, kq47, q47a, q47b, q47c⟩ := isOf hZ e46 Ea_FLAG
    obtain ⟨_, _, ⟨T47, L47, k47, n47⟩, -, X47, ⟨Lc47, hQ47, l47, y47, z47⟩, st47⟩ := X46.virtualBack hx (y := own_y2) (z := own_y2) hown (mvT hZ (own_w hw 8 rfl)) (mvT hZ (own_w hw 9 rfl)) (notFace_of_selects (args := #[]) (mvT hZ (own_w hw 11 rfl))) (mvT hZ (own_w hw 11 rfl)) (mvT hZ (own_w hw 10 rfl)) (by decide) (backOf (W := 0) (rm_num l Z a0 hw [] a_FLAG (0 : Int32) (-1 : Int32) h0 n0 (Nat.le_trans Z0 K0.1) Fa_FLAG_min Fa_FLAG_max) hZ (own_w hw 12 rfl) (own_w hw 6 rfl) (by decide) (by decide)) q47a q47c (g := (mkF m 14 #[iv p1, iv (0 : Int32), rv a_FLAG] [(.ref a_FLAG)])) rfl (by rw [hml]; rfl) (Steps.refl _) (argsL := []) (rest := []) (lenOf pd___Z_171 rfl) rfl (by show 2 * 0 + _ ≤ _; exact Nat.le_of_eq rfl) (hb hby at_14) (fun _ _ => ⟨rfl, e46, (by decide : 0 + 0 ≤ _), (by decide : 0 + 0 ≤ _)⟩)
    dsimp only [Pt.U, Pt.locs, Pt.cells, Pt.slots] at X47 l47 y47 z47 st47 hQ47
    subst l47 y47 z47
    obtain ⟨rfl, N47q, e47⟩ := hQ47
    skip
    have N47 := Fr.app N46 N47q
    refine own_tr st47 ?_
    show own_Fin p e below G (T47.setTop (mkF m 17 #[iv p1, iv (0 : Int32), rv a_FLAG] [(.int (own_num (0 : Int32) (-1 : Int32)))]))
    refine own_st (fun _ k => XS.aloadN X47.here hx rfl (hb hby at_17) rfl rfl k) ?_
    show own_Fin p e below G (T47.setTop (mkF m 18 #[iv p1, iv (0 : Int32), rv a_FLAG] [(.ref a_FLAG), (.int (own_num (0 : Int32) (-1 : Int32)))]))
    obtain ⟨_, _, ⟨T48, L48, k48, n48⟩, -, X48, ⟨Lc48, hQ48, l48, y48, z48⟩, st48⟩ := Jvm.LawKit.callS X47 hx (y := own_y1) hown (mvT hZ (own_w hw 17 rfl)) (mvT hZ (own_w hw 18 rfl)) (mvT hZ (own_w hw 3 rfl)) (mvT hZ (own_w hw 19 rfl)) (by decide) (backOf (W := 1) (rm_six l Z a0 hw [] a_FLAG a_COUNT a_PAGE_SIZE a_PASSWORD_LENGTH a_DAYS a_SECONDS a_PORT h0 n0 (Nat.le_trans Z0 K0.1) Sa_COUNT Sa_PAGE_SIZE Sa_PASSWORD_LENGTH Sa_DAYS Sa_SECONDS Sa_PORT) hZ (own_w hw 19 rfl) (own_w hw 3 rfl) (by decide) (by decide)) (g := (mkF m 18 #[iv p1, iv (0 : Int32), rv a_FLAG] [(.ref a_FLAG), (.int (own_num (0 : Int32) (-1 : Int32)))])) rfl (by rw [hml]; rfl) (argsL := [(.ref a_FLAG)]) (rest := [(.int (own_num (0 : Int32) (-1 : Int32)))]) (lenOf pd__Lcom_example_rollkeeper_rollkeeper_core_Setting_Format__Z_589 rfl) rfl (by show 2 * 0 + _ ≤ _; exact Nat.le_of_eq rfl) (hb hby at_18) (fun _ _ => ⟨rfl, e47, (by decide : 0 + 0 ≤ _), (by decide : 0 + 0 ≤ _)⟩)
    dsimp only [Pt.U, Pt.locs, Pt.cells, Pt.slots] at X48 l48 y48 z48 st48 hQ48
    subst l48 y48 z48
    obtain ⟨rfl, N48q, e48⟩ := hQ48
    skip
    have N48 := Fr.app N47 N48q
    refine own_st st48 ?_
    show own_Fin p e below G (T48.setTop (mkF m 21 #[iv p1, iv (0 : Int32), rv a_FLAG] [(.int (own_six a_FLAG a_COUNT a_PAGE_SIZE a_PASSWORD_LENGTH a_DAYS a_SECONDS a_PORT)), (.int (own_num (0 : Int32) (-1 : Int32)))]))
    refine own_st (fun _ k => XS.icmpNo X48.here hx rfl (hb hby at_21) rfl (teq (by unfold own_num own_six; rw [if_neg ne_a_FLAG_a_COUNT, if_neg ne_a_FLAG_a_PAGE_SIZE, if_neg ne_a_FLAG_a_PASSWORD_LENGTH, if_neg ne_a_FLAG_a_DAYS, if_neg ne_a_FLAG_a_SECONDS, if_neg ne_a_FLAG_a_PORT]; decide)).2 k) ?_
    show own_Fin p e below G (T48.setTop (mkF m 24 #[iv p1, iv (0 : Int32), rv a_FLAG] []))
    refine own_st (fun _ k => XS.iconst X48.here hx rfl (hb hby at_24) k) ?_
    show own_Fin p e below G (T48.setTop (mkF m 25 #[iv p1, iv (0 : Int32), rv a_FLAG] [(.int (1 : Int32))]))
    refine own_st (fun _ k => XS.goto X48.here hx rfl (pc0 := 25) (pc' := 29) rfl (hb hby at_25) (by decide) (by decide) k) ?_
    show own_Fin p e below G (T48.setTop (mkF m 29 #[iv p1, iv (0 : Int32), rv a_FLAG] [(.int (1 : Int32))]))
    refine own_out X48 Bd.notSynchronized (v := (some (.int (1 : Int32)))) (fun h => by rw [Bd.returns] at h; cases h) hG (fun fs hr => retN X48 hx (t := .boolean) Bd.returns (by simp) (hb hby at_29) hr) (by decide) (by decide) ?_
    exact ⟨rfl, N48⟩
  · show own_Fin p e below G (s₁.setTop (mkF m 8 #[iv p1, iv (1 : Int32), .unset] []))
    refine own_st (fun _ k => XS.iloadN X0.here hx rfl (hb hby at_8) rfl  k) ?_
    show own_Fin p e below G (s₁.setTop (mkF m 9 #[iv p1, iv (1 : Int32), .unset] [(.int (1 : Int32))]))
    obtain ⟨_, _, ⟨T49, L49, k49, n49⟩, -, X49, ⟨Lc49, hQ49, l49, y49, z49⟩, st49⟩ := Jvm.LawKit.callS X0 hx (y := own_y0) hown (mvT hZ (own_w hw 1 rfl)) (mvT hZ (own_w hw 2 rfl)) (mvT hZ (own_w hw 3 rfl)) (mvT hZ (own_w hw 4 rfl)) (by decide) (backOf (W := 0) (rm_pick l Z a0 hw [] (1 : Int32) a_FLAG a_COUNT a_PAGE_SIZE a_PASSWORD_LENGTH a_DAYS a_SECONDS a_PORT a_IP_ADDRESS a_OTP_CODE a_TENANT a_JDBC_URL a_HTTP_URL a_AES_KEY a_TEXT a_SECRET h0 n0 (Nat.le_trans Z0 K0.1) Sa_FLAG Sa_COUNT Sa_PAGE_SIZE Sa_PASSWORD_LENGTH Sa_DAYS Sa_SECONDS Sa_PORT Sa_IP_ADDRESS Sa_OTP_CODE Sa_TENANT Sa_JDBC_URL Sa_HTTP_URL Sa_AES_KEY Sa_TEXT Sa_SECRET) hZ (own_w hw 4 rfl) (own_w hw 3 rfl) (by decide) (by decide)) (g := (mkF m 9 #[iv p1, iv (1 : Int32), .unset] [(.int (1 : Int32))])) rfl (by rw [hml]; rfl) (argsL := [(.int (1 : Int32))]) (rest := []) (lenOf pd__I_Lcom_example_rollkeeper_rollkeeper_core_Setting_Format__572 rfl) rfl (by show 2 * 0 + _ ≤ _; exact Nat.le_of_eq rfl) (hb hby at_9) (fun _ _ => ⟨rfl, e0, (by decide : 0 + 0 ≤ _), (by decide : 0 + 0 ≤ _)⟩)
    dsimp only [Pt.U, Pt.locs, Pt.cells, Pt.slots] at X49 l49 y49 z49 st49 hQ49
    subst l49 y49 z49
    obtain ⟨rfl, N49q, e49⟩ := hQ49
    skip
    have N49 := Fr.app N0 N49q
    refine own_st st49 ?_
    show own_Fin p e below G (T49.setTop (mkF m 12 #[iv p1, iv (1 : Int32), .unset] [(.ref a_COUNT)]))
    refine own_st (fun _ k => XS.astoreN X49.here hx rfl (hb hby at_12) rfl rfl (l' := #[iv p1, iv (1 : Int32), rv a_COUNT]) rfl k) ?_
    show own_Fin p e below G (T49.setTop (mkF m 13 #[iv p1, iv (1 : Int32), rv a_COUNT] []))
    refine own_st (fun _ k => XS.aloadN X49.here hx rfl (hb hby at_13) rfl rfl k) ?_
    show own_Fin p e below G (T49.setTop (mkF m 14 #[iv p1, iv (1 : Int32), rv a_COUNT] [(.ref a_COUNT)]))
    obtain ⟨cq50, kq50, q50a, q50b, q50c⟩ := isOf hZ e49 Ea_COUNT
    obtain ⟨_, _, ⟨T50, L50, k50, n50⟩, -, X50, ⟨Lc50, hQ50, l50, y50, z50⟩, st50⟩ := X49.virtualBack hx (y := own_y2) (z := own_y2) hown (mvT hZ (own_w hw 8 rfl)) (mvT hZ (own_w hw 9 rfl)) (notFace_of_selects (args := #[]) (mvT hZ (own_w hw 11 rfl))) (mvT hZ (own_w hw 11 rfl)) (mvT hZ (own_w hw 10 rfl)) (by decide) (backOf (W := 0) (rm_num l Z a0 hw [] a_COUNT (1 : Int32) (2147483647 : Int32) h0 n0 (Nat.le_trans Z0 K0.1) Fa_COUNT_min Fa_COUNT_max) hZ (own_w hw 12 rfl) (own_w hw 6 rfl) (by decide) (by decide)) q50a q50c (g := (mkF m 14 #[iv p1, iv (1 : Int32), rv a_COUNT] [(.ref a_COUNT)])) rfl (by rw [hml]; rfl) (Steps.refl _) (argsL := []) (rest := []) (lenOf pd___Z_171 rfl) rfl (by show 2 * 0 + _ ≤ _; exact Nat.le_of_eq rfl) (hb hby at_14) (fun _ _ => ⟨rfl, e49, (by decide : 0 + 0 ≤ _), (by decide : 0 + 0 ≤ _)⟩)
    dsimp only [Pt.U, Pt.locs, Pt.cells, Pt.slots] at X50 l50 y50 z50 st50 hQ50
    subst l50 y50 z50
    obtain ⟨rfl, N50q, e50⟩ := hQ50
    skip
    have N50 := Fr.app N49 N50q
    refine own_tr st50 ?_
    show own_Fin p e below G (T50.setTop (mkF m 17 #[iv p1, iv (1 : Int32), rv a_COUNT] [(.int (own_num (1 : Int32) (2147483647 : Int32)))]))
    refine own_st (fun _ k => XS.aloadN X50.here hx rfl (hb hby at_17) rfl rfl k) ?_
    show own_Fin p e below G (T50.setTop (mkF m 18 #[iv p1, iv (1 : Int32), rv a_COUNT] [(.ref a_COUNT), (.int (own_num (1 : Int32) (2147483647 : Int32)))]))
    obtain ⟨_, _, ⟨T51, L51, k51, n51⟩, -, X51, ⟨Lc51, hQ51, l51, y51, z51⟩, st51⟩ := Jvm.LawKit.callS X50 hx (y := own_y1) hown (mvT hZ (own_w hw 17 rfl)) (mvT hZ (own_w hw 18 rfl)) (mvT hZ (own_w hw 3 rfl)) (mvT hZ (own_w hw 19 rfl)) (by decide) (backOf (W := 1) (rm_six l Z a0 hw [] a_COUNT a_COUNT a_PAGE_SIZE a_PASSWORD_LENGTH a_DAYS a_SECONDS a_PORT h0 n0 (Nat.le_trans Z0 K0.1) Sa_COUNT Sa_PAGE_SIZE Sa_PASSWORD_LENGTH Sa_DAYS Sa_SECONDS Sa_PORT) hZ (own_w hw 19 rfl) (own_w hw 3 rfl) (by decide) (by decide)) (g := (mkF m 18 #[iv p1, iv (1 : Int32), rv a_COUNT] [(.ref a_COUNT), (.int (own_num (1 : Int32) (2147483647 : Int32)))])) rfl (by rw [hml]; rfl) (argsL := [(.ref a_COUNT)]) (rest := [(.int (own_num (1 : Int32) (2147483647 : Int32)))]) (lenOf pd__Lcom_example_rollkeeper_rollkeeper_core_Setting_Format__Z_589 rfl) rfl (by show 2 * 0 + _ ≤ _; exact Nat.le_of_eq rfl) (hb hby at_18) (fun _ _ => ⟨rfl, e50, (by decide : 0 + 0 ≤ _), (by decide : 0 + 0 ≤ _)⟩)
    dsimp only [Pt.U, Pt.locs, Pt.cells, Pt.slots] at X51 l51 y51 z51 st51 hQ51
    subst l51 y51 z51
    obtain ⟨rfl, N51q, e51⟩ := hQ51
    skip
    have N51 := Fr.app N50 N51q
    refine own_st st51 ?_
    show own_Fin p e below G (T51.setTop (mkF m 21 #[iv p1, iv (1 : Int32), rv a_COUNT] [(.int (own_six a_COUNT a_COUNT a_PAGE_SIZE a_PASSWORD_LENGTH a_DAYS a_SECONDS a_PORT)), (.int (own_num (1 : Int32) (2147483647 : Int32)))]))
    refine own_st (fun _ k => XS.icmpNo X51.here hx rfl (hb hby at_21) rfl (teq (by unfold own_num own_six; rw [if_pos rfl]; decide)).2 k) ?_
    show own_Fin p e below G (T51.setTop (mkF m 24 #[iv p1, iv (1 : Int32), rv a_COUNT] []))
    refine own_st (fun _ k => XS.iconst X51.here hx rfl (hb hby at_24) k) ?_
    show own_Fin p e below G (T51.setTop (mkF m 25 #[iv p1, iv (1 : Int32), rv a_COUNT] [(.int (1 : Int32))]))
    refine own_st (fun _ k => XS.goto X51.here hx rfl (pc0 := 25) (pc' := 29) rfl (hb hby at_25) (by decide) (by decide) k) ?_
    show own_Fin p e below G (T51.setTop (mkF m 29 #[iv p1, iv (1 : Int32), rv a_COUNT] [(.int (1 : Int32))]))
    refine own_out X51 Bd.notSynchronized (v := (some (.int (1 : Int32)))) (fun h => by rw [Bd.returns] at h; cases h) hG (fun fs hr => retN X51 hx (t := .boolean) Bd.returns (by simp) (hb hby at_29) hr) (by decide) (by decide) ?_
    exact ⟨rfl, N51⟩
  · show own_Fin p e below G (s₁.setTop (mkF m 8 #[iv p1, iv (2 : Int32), .unset] []))
    refine own_st (fun _ k => XS.iloadN X0.here hx rfl (hb hby at_8) rfl  k) ?_
    show own_Fin p e below G (s₁.setTop (mkF m 9 #[iv p1, iv (2 : Int32), .unset] [(.int (2 : Int32))]))
    obtain ⟨_, _, ⟨T52, L52, k52, n52⟩, -, X52, ⟨Lc52, hQ52, l52, y52, z52⟩, st52⟩ := Jvm.LawKit.callS X0 hx (y := own_y0) hown (mvT hZ (own_w hw 1 rfl)) (mvT hZ (own_w hw 2 rfl)) (mvT hZ (own_w hw 3 rfl)) (mvT hZ (own_w hw 4 rfl)) (by decide) (backOf (W := 0) (rm_pick l Z a0 hw [] (2 : Int32) a_FLAG a_COUNT a_PAGE_SIZE a_PASSWORD_LENGTH a_DAYS a_SECONDS a_PORT a_IP_ADDRESS a_OTP_CODE a_TENANT a_JDBC_URL a_HTTP_URL a_AES_KEY a_TEXT a_SECRET h0 n0 (Nat.le_trans Z0 K0.1) Sa_FLAG Sa_COUNT Sa_PAGE_SIZE Sa_PASSWORD_LENGTH Sa_DAYS Sa_SECONDS Sa_PORT Sa_IP_ADDRESS Sa_OTP_CODE Sa_TENANT Sa_JDBC_URL Sa_HTTP_URL Sa_AES_KEY Sa_TEXT Sa_SECRET) hZ (own_w hw 4 rfl) (own_w hw 3 rfl) (by decide) (by decide)) (g := (mkF m 9 #[iv p1, iv (2 : Int32), .unset] [(.int (2 : Int32))])) rfl (by rw [hml]; rfl) (argsL := [(.int (2 : Int32))]) (rest := []) (lenOf pd__I_Lcom_example_rollkeeper_rollkeeper_core_Setting_Format__572 rfl) rfl (by show 2 * 0 + _ ≤ _; exact Nat.le_of_eq rfl) (hb hby at_9) (fun _ _ => ⟨rfl, e0, (by decide : 0 + 0 ≤ _), (by decide : 0 + 0 ≤ _)⟩)
    dsimp only [Pt.U, Pt.locs, Pt.cells, Pt.slots] at X52 l52 y52 z52 st52 hQ52
    subst l52 y52 z52
    obtain ⟨rfl, N52q, e52⟩ := hQ52
    skip
    have N52 := Fr.app N0 N52q
    refine own_st st52 ?_
    show own_Fin p e below G (T52.setTop (mkF m 12 #[iv p1, iv (2 : Int32), .unset] [(.ref a_PAGE_SIZE)]))
    refine own_st (fun _ k => XS.astoreN X52.here hx rfl (hb hby at_12) rfl rfl (l' := #[iv p1, iv (2 : Int32), rv a_PAGE_SIZE]) rfl k) ?_
    show own_Fin p e below G (T52.setTop (mkF m 13 #[iv p1, iv (2 : Int32), rv a_PAGE_SIZE] []))
    refine own_st (fun _ k => XS.aloadN X52.here hx rfl (hb hby at_13) rfl rfl k) ?_
    show own_Fin p e below G (T52.setTop (mkF m 14 #[iv p1, iv (2 : Int32), rv a_PAGE_SIZE] [(.ref a_PAGE_SIZE)]))
    obtain ⟨cq53, kq53, q53a, q53b, q53c⟩ := isOf hZ e52 Ea_PAGE_SIZE
    obtain ⟨_, _, ⟨T53, L53, k53, n53⟩, -, X53, ⟨Lc53, hQ53, l53, y53, z53⟩, st53⟩ := X52.virtualBack hx (y := own_y2) (z := own_y2) hown (mvT hZ (own_w hw 8 rfl)) (mvT hZ (own_w hw 9 rfl)) (notFace_of_selects (args := #[]) (mvT hZ (own_w hw 11 rfl))) (mvT hZ (own_w hw 11 rfl)) (mvT hZ (own_w hw 10 rfl)) (by decide) (backOf (W := 0) (rm_num l Z a0 hw [] a_PAGE_SIZE (1 : Int32) (100 : Int32) h0 n0 (Nat.le_trans Z0 K0.1) Fa_PAGE_SIZE_min Fa_PAGE_SIZE_max) hZ (own_w hw 12 rfl) (own_w hw 6 rfl) (by decide) (by decide)) q53a q53c (g := (mkF m 14 #[iv p1, iv (2 : Int32), rv a_PAGE_SIZE] [(.ref a_PAGE_SIZE)])) rfl (by rw [hml]; rfl) (Steps.refl _) (argsL := []) (rest := []) (lenOf pd___Z_171 rfl) rfl (by show 2 * 0 + _ ≤ _; exact Nat.le_of_eq rfl) (hb hby at_14) (fun _ _ => ⟨rfl, e52, (by decide : 0 + 0 ≤ _), (by decide : 0 + 0 ≤ _)⟩)
    dsimp only [Pt.U, Pt.locs, Pt.cells, Pt.slots] at X53 l53 y53 z53 st53 hQ53
    subst l53 y53 z53
    obtain ⟨rfl, N53q, e53⟩ := hQ53
    skip
    have N53 := Fr.app N52 N53q
    refine own_tr st53 ?_
    show own_Fin p e below G (T53.setTop (mkF m 17 #[iv p1, iv (2 : Int32), rv a_PAGE_SIZE] [(.int (own_num (1 : Int32) (100 : Int32)))]))
    refine own_st (fun _ k => XS.aloadN X53.here hx rfl (hb hby at_17) rfl rfl k) ?_
    show own_Fin p e below G (T53.setTop (mkF m 18 #[iv p1, iv (2 : Int32), rv a_PAGE_SIZE] [(.ref a_PAGE_SIZE), (.int (own_num (1 : Int32) (100 : Int32)))]))
    obtain ⟨_, _, ⟨T54, L54, k54, n54⟩, -, X54, ⟨Lc54, hQ54, l54, y54, z54⟩, st54⟩ := Jvm.LawKit.callS X53 hx (y := own_y1) hown (mvT hZ (own_w hw 17 rfl)) (mvT hZ (own_w hw 18 rfl)) (mvT hZ (own_w hw 3 rfl)) (mvT hZ (own_w hw 19 rfl)) (by decide) (backOf (W := 1) (rm_six l Z a0 hw [] a_PAGE_SIZE a_COUNT a_PAGE_SIZE a_PASSWORD_LENGTH a_DAYS a_SECONDS a_PORT h0 n0 (Nat.le_trans Z0 K0.1) Sa_COUNT Sa_PAGE_SIZE Sa_PASSWORD_LENGTH Sa_DAYS Sa_SECONDS Sa_PORT) hZ (own_w hw 19 rfl) (own_w hw 3 rfl) (by decide) (by decide)) (g := (mkF m 18 #[iv p1, iv (2 : Int32), rv a_PAGE_SIZE] [(.ref a_PAGE_SIZE), (.int (own_num (1 : Int32) (100 : Int32)))])) rfl (by rw [hml]; rfl) (argsL := [(.ref a_PAGE_SIZE)]) (rest := [(.int (own_num (1 : Int32) (100 : Int32)))]) (lenOf pd__Lcom_example_rollkeeper_rollkeeper_core_Setting_Format__Z_589 rfl) rfl (by show 2 * 0 + _ ≤ _; exact Nat.le_of_eq rfl) (hb hby at_18) (fun _ _ => ⟨rfl, e53, (by decide : 0 + 0 ≤ _), (by decide : 0 + 0 ≤ _)⟩)
    dsimp only [Pt.U, Pt.locs, Pt.cells, Pt.slots] at X54 l54 y54 z54 st54 hQ54
    subst l54 y54 z54
    obtain ⟨rfl, N54q, e54⟩ := hQ54
    skip
    have N54 := Fr.app N53 N54q
    refine own_st st54 ?_
    show own_Fin p e below G (T54.setTop (mkF m 21 #[iv p1, iv (2 : Int32), rv a_PAGE_SIZE] [(.int (own_six a_PAGE_SIZE a_COUNT a_PAGE_SIZE a_PASSWORD_LENGTH a_DAYS a_SECONDS a_PORT)), (.int (own_num (1 : Int32) (100 : Int32)))]))
    refine own_st (fun _ k => XS.icmpNo X54.here hx rfl (hb hby at_21) rfl (teq (by unfold own_num own_six; rw [if_neg (Ne.symm ne_a_COUNT_a_PAGE_SIZE), if_pos rfl]; decide)).2 k) ?_
    show own_Fin p e below G (T54.setTop (mkF m 24 #[iv p1, iv (2 : Int32), rv a_PAGE_SIZE] []))
    refine own_st (fun _ k => XS.iconst X54.here hx rfl (hb hby at_24) k) ?_
    show own_Fin p e below G (T54.setTop (mkF m 25 #[iv p1, iv (2 : Int32), rv a_PAGE_SIZE] [(.int (1 : Int32))]))
    refine own_st (fun _ k => XS.goto X54.here hx rfl (pc0 := 25) (pc' := 29) rfl (hb hby at_25) (by decide) (by decide) k) ?_
    show own_Fin p e below G (T54.setTop (mkF m 29 #[iv p1, iv (2 : Int32), rv a_PAGE_SIZE] [(.int (1 : Int32))]))
    refine own_out X54 Bd.notSynchronized (v := (some (.int (1 : Int32)))) (fun h => by rw [Bd.returns] at h; cases h) hG (fun fs hr => retN X54 hx (t := .boolean) Bd.returns (by simp) (hb hby at_29) hr) (by decide) (by decide) ?_
    exact ⟨rfl, N54⟩
  · show own_Fin p e below G (s₁.setTop (mkF m 8 #[iv p1, iv (3 : Int32), .unset] []))
    refine own_st (fun _ k => XS.iloadN X0.here hx rfl (hb hby at_8) rfl  k) ?_
    show own_Fin p e below G (s₁.setTop (mkF m 9 #[iv p1, iv (3 : Int32), .unset] [(.int (3 : Int32))]))
    obtain ⟨_, _, ⟨T55, L55, k55, n55⟩, -, X55, ⟨Lc55, hQ55, l55, y55, z55⟩, st55⟩ := Jvm.LawKit.callS X0 hx (y := own_y0) hown (mvT hZ (own_w hw 1 rfl)) (mvT hZ (own_w hw 2 rfl)) (mvT hZ (own_w hw 3 rfl)) (mvT hZ (own_w hw 4 rfl)) (by decide) (backOf (W := 0) (rm_pick l Z a0 hw [] (3 : Int32) a_FLAG a_COUNT a_PAGE_SIZE a_PASSWORD_LENGTH a_DAYS a_SECONDS a_PORT a_IP_ADDRESS a_OTP_CODE a_TENANT a_JDBC_URL a_HTTP_URL a_AES_KEY a_TEXT a_SECRET h0 n0 (Nat.le_trans Z0 K0.1) Sa_FLAG Sa_COUNT Sa_PAGE_SIZE Sa_PASSWORD_LENGTH Sa_DAYS Sa_SECONDS Sa_PORT Sa_IP_ADDRESS Sa_OTP_CODE Sa_TENANT Sa_JDBC_URL Sa_HTTP_URL Sa_AES_KEY Sa_TEXT Sa_SECRET) hZ (own_w hw 4 rfl) (own_w hw 3 rfl) (by decide) (by decide)) (g := (mkF m 9 #[iv p1, iv (3 : Int32), .unset] [(.int (3 : Int32))])) rfl (by rw [hml]; rfl) (argsL := [(.int (3 : Int32))]) (rest := []) (lenOf pd__I_Lcom_example_rollkeeper_rollkeeper_core_Setting_Format__572 rfl) rfl (by show 2 * 0 + _ ≤ _; exact Nat.le_of_eq rfl) (hb hby at_9) (fun _ _ => ⟨rfl, e0, (by decide : 0 + 0 ≤ _), (by decide : 0 + 0 ≤ _)⟩)
    dsimp only [Pt.U, Pt.locs, Pt.cells, Pt.slots] at X55 l55 y55 z55 st55 hQ55
    subst l55 y55 z55
    obtain ⟨rfl, N55q, e55⟩ := hQ55
    skip
    have N55 := Fr.app N0 N55q
    refine own_st st55 ?_
    show own_Fin p e below G (T55.setTop (mkF m 12 #[iv p1, iv (3 : Int32), .unset] [(.ref a_PASSWORD_LENGTH)]))
    refine own_st (fun _ k => XS.astoreN X55.here hx rfl (hb hby at_12) rfl rfl (l' := #[iv p1, iv (3 : Int32), rv a_PASSWORD_LENGTH]) rfl k) ?_
    show own_Fin p e below G (T55.setTop (mkF m 13 #[iv p1, iv (3 : Int32), rv a_PASSWORD_LENGTH] []))
    refine own_st (fun _ k => XS.aloadN X55.here hx rfl (hb hby at_13) rfl rfl k) ?_
    show own_Fin p e below G (T55.setTop (mkF m 14 #[iv p1, iv (3 : Int32), rv a_PASSWORD_LENGTH] [(.ref a_PASSWORD_LENGTH)]))
    obtain ⟨cq56, kq56, q56a, q56b, q56c⟩ := isOf hZ e55 Ea_PASSWORD_LENGTH
    obtain ⟨_, _, ⟨T56, L56, k56, n56⟩, -, X56, ⟨Lc56, hQ56, l56, y56, z56⟩, st56⟩ := X55.virtualBack hx (y := own_y2) (z := own_y2) hown (mvT hZ (own_w hw 8 rfl)) (mvT hZ (own_w hw 9 rfl)) (notFace_of_selects (args := #[]) (mvT hZ (own_w hw 11 rfl))) (mvT hZ (own_w hw 11 rfl)) (mvT hZ (own_w hw 10 rfl)) (by decide) (backOf (W := 0) (rm_num l Z a0 hw [] a_PASSWORD_LENGTH (8 : Int32) (64 : Int32) h0 n0 (Nat.le_trans Z0 K0.1) Fa_PASSWORD_LENGTH_min Fa_PASSWORD_LENGTH_max) hZ (own_w hw 12 rfl) (own_w hw 6 rfl) (by decide) (by decide)) q56a q56c (g := (mkF m 14 #[iv p1, iv (3 : Int32), rv a_PASSWORD_LENGTH] [(.ref a_PASSWORD_LENGTH)])) rfl (by rw [hml]; rfl) (Steps.refl _) (argsL := []) (rest := []) (lenOf pd___Z_171 rfl) rfl (by show 2 * 0 + _ ≤ _; exact Nat.le_of_eq rfl) (hb hby at_14) (fun _ _ => ⟨rfl, e55, (by decide : 0 + 0 ≤ _), (by decide : 0 + 0 ≤ _)⟩)
    dsimp only [Pt.U, Pt.locs, Pt.cells, Pt.slots] at X56 l56 y56 z56 st56 hQ56
    subst l56 y56 z56
    obtain ⟨rfl, N56q, e56⟩ := hQ56
    skip
    have N56 := Fr.app N55 N56q
    refine own_tr st56 ?_
    show own_Fin p e below G (T56.setTop (mkF m 17 #[iv p1, iv (3 : Int32), rv a_PASSWORD_LENGTH] [(.int (own_num (8 : Int32) (64 : Int32)))]))
    refine own_st (fun _ k => XS.aloadN X56.here hx rfl (hb hby at_17) rfl rfl k) ?_
    show own_Fin p e below G (T56.setTop (mkF m 18 #[iv p1, iv (3 : Int32), rv a_PASSWORD_LENGTH] [(.ref a_PASSWORD_LENGTH), (.int (own_num (8 : Int32) (64 : Int32)))]))
    obtain ⟨_, _, ⟨T57, L57, k57, n57⟩, -, X57, ⟨Lc57, hQ57, l57, y57, z57⟩, st57⟩ := Jvm.LawKit.callS X56 hx (y := own_y1) hown (mvT hZ (own_w hw 17 rfl)) (mvT hZ (own_w hw 18 rfl)) (mvT hZ (own_w hw 3 rfl)) (mvT hZ (own_w hw 19 rfl)) (by decide) (backOf (W := 1) (rm_six l Z a0 hw [] a_PASSWORD_LENGTH a_COUNT a_PAGE_SIZE a_PASSWORD_LENGTH a_DAYS a_SECONDS a_PORT h0 n0 (Nat.le_trans Z0 K0.1) Sa_COUNT Sa_PAGE_SIZE Sa_PASSWORD_LENGTH Sa_DAYS Sa_SECONDS Sa_PORT) hZ (own_w hw 19 rfl) (own_w hw 3 rfl) (by decide) (by decide)) (g := (mkF m 18 #[iv p1, iv (3 : Int32), rv a_PASSWORD_LENGTH] [(.ref a_PASSWORD_LENGTH), (.int (own_num (8 : Int32) (64 : Int32)))])) rfl (by rw [hml]; rfl) (argsL := [(.ref a_PASSWORD_LENGTH)]) (rest := [(.int (own_num (8 : Int32) (64 : Int32)))]) (lenOf pd__Lcom_example_rollkeeper_rollkeeper_core_Setting_Format__Z_589 rfl) rfl (by show 2 * 0 + _ ≤ _; exact Nat.le_of_eq rfl) (hb hby at_18) (fun _ _ => ⟨rfl, e56, (by decide : 0 + 0 ≤ _), (by decide : 0 + 0 ≤ _)⟩)
    dsimp only [Pt.U, Pt.locs, Pt.cells, Pt.slots] at X57 l57 y57 z57 st57 hQ57
    subst l57 y57 z57
    obtain ⟨rfl, N57q, e57⟩ := hQ57
    skip
    have N57 := Fr.app N56 N57q
    refine own_st st57 ?_
    show own_Fin p e below G (T57.setTop (mkF m 21 #[iv p1, iv (3 : Int32), rv a_PASSWORD_LENGTH] [(.int (own_six a_PASSWORD_LENGTH a_COUNT a_PAGE_SIZE a_PASSWORD_LENGTH a_DAYS a_SECONDS a_PORT)), (.int (own_num (8 : Int32) (64 : Int32)))]))
    refine own_st (fun _ k => XS.icmpNo X57.here hx rfl (hb hby at_21) rfl (teq (by unfold own_num own_six; rw [if_neg (Ne.symm ne_a_COUNT_a_PASSWORD_LENGTH), if_neg (Ne.symm ne_a_PAGE_SIZE_a_PASSWORD_LENGTH), if_pos rfl]; decide)).2 k) ?_
    show own_Fin p e below G (T57.setTop (mkF m 24 #[iv p1, iv (3 : Int32), rv a_PASSWORD_LENGTH] []))
    refine own_st (fun _ k => XS.iconst X57.here hx rfl (hb hby at_24) k) ?_
    show own_Fin p e below G (T57.setTop (mkF m 25 #[iv p1, iv (3 : Int32), rv a_PASSWORD_LENGTH] [(.int (1 : Int32))]))
    refine own_st (fun _ k => XS.goto X57.here hx rfl (pc0 := 25) (pc' := 29) rfl (hb hby at_25) (by decide) (by decide) k) ?_
    show own_Fin p e below G (T57.setTop (mkF m 29 #[iv p1, iv (3 : Int32), rv a_PASSWORD_LENGTH] [(.int (1 : Int32))]))
    refine own_out X57 Bd.notSynchronized (v := (some (.int (1 : Int32)))) (fun h => by rw [Bd.returns] at h; cases h) hG (fun fs hr => retN X57 hx (t := .boolean) Bd.returns (by simp) (hb hby at_29) hr) (by decide) (by decide) ?_
    exact ⟨rfl, N57⟩
  · show own_Fin p e below G (s₁.setTop (mkF m 8 #[iv p1, iv (4 : Int32), .unset] []))
    refine own_st (fun _ k => XS.iloadN X0.here hx rfl (hb hby at_8) rfl  k) ?_
    show own_Fin p e below G (s₁.setTop (mkF m 9 #[iv p1, iv (4 : Int32), .unset] [(.int (4 : Int32))]))
    obtain ⟨_, _, ⟨T58, L58, k58, n58⟩, -, X58, ⟨Lc58, hQ58, l58, y58, z58⟩, st58⟩ := Jvm.LawKit.callS X0 hx (y := own_y0) hown (mvT hZ (own_w hw 1 rfl)) (mvT hZ (own_w hw 2 rfl)) (mvT hZ (own_w hw 3 rfl)) (mvT hZ (own_w hw 4 rfl)) (by decide) (backOf (W := 0) (rm_pick l Z a0 hw [] (4 : Int32) a_FLAG a_COUNT a_PAGE_SIZE a_PASSWORD_LENGTH a_DAYS a_SECONDS a_PORT a_IP_ADDRESS a_OTP_CODE a_TENANT a_JDBC_URL a_HTTP_URL a_AES_KEY a_TEXT a_SECRET h0 n0 (Nat.le_trans Z0 K0.1) Sa_FLAG Sa_COUNT Sa_PAGE_SIZE Sa_PASSWORD_LENGTH Sa_DAYS Sa_SECONDS Sa_PORT Sa_IP_ADDRESS Sa_OTP_CODE Sa_TENANT Sa_JDBC_URL Sa_HTTP_URL Sa_AES_KEY Sa_TEXT Sa_SECRET) hZ (own_w hw 4 rfl) (own_w hw 3 rfl) (by decide) (by decide)) (g := (mkF m 9 #[iv p1, iv (4 : Int32), .unset] [(.int (4 : Int32))])) rfl (by rw [hml]; rfl) (argsL := [(.int (4 : Int32))]) (rest := []) (lenOf pd__I_Lcom_example_rollkeeper_rollkeeper_core_Setting_Format__572 rfl) rfl (by show 2 * 0 + _ ≤ _; exact Nat.le_of_eq rfl) (hb hby at_9) (fun _ _ => ⟨rfl, e0, (by decide : 0 + 0 ≤ _), (by decide : 0 + 0 ≤ _)⟩)
    dsimp only [Pt.U, Pt.locs, Pt.cells, Pt.slots] at X58 l58 y58 z58 st58 hQ58
    subst l58 y58 z58
    obtain ⟨rfl, N58q, e58⟩ := hQ58
    skip
    have N58 := Fr.app N0 N58q
    refine own_st st58 ?_
    show own_Fin p e below G (T58.setTop (mkF m 12 #[iv p1, iv (4 : Int32), .unset] [(.ref a_DAYS)]))
    refine own_st (fun _ k => XS.astoreN X58.here hx rfl (hb hby at_12) rfl rfl (l' := #[iv p1, iv (4 : Int32), rv a_DAYS]) rfl k) ?_
    show own_Fin p e below G (T58.setTop (mkF m 13 #[iv p1, iv (4 : Int32), rv a_DAYS] []))
    refine own_st (fun _ k => XS.aloadN X58.here hx rfl (hb hby at_13) rfl rfl k) ?_
    show own_Fin p e below G (T58.setTop (mkF m 14 #[iv p1, iv (4 : Int32), rv a_DAYS] [(.ref a_DAYS)]))
    obtain ⟨cq59, kq59, q59a, q59b, q59c⟩ := isOf hZ e58 Ea_DAYS
    obtain ⟨_, _, ⟨T59, L59, k59, n59⟩, -, X59, ⟨Lc59, hQ59, l59, y59, z59⟩, st59⟩ := X58.virtualBack hx (y := own_y2) (z := own_y2) hown (mvT hZ (own_w hw 8 rfl)) (mvT hZ (own_w hw 9 rfl)) (notFace_of_selects (args := #[]) (mvT hZ (own_w hw 11 rfl))) (mvT hZ (own_w hw 11 rfl)) (mvT hZ (own_w hw 10 rfl)) (by decide) (backOf (W := 0) (rm_num l Z a0 hw [] a_DAYS (1 : Int32) (36500 : Int32) h0 n0 (Nat.le_trans Z0 K0.1) Fa_DAYS_min Fa_DAYS_max) hZ (own_w hw 12 rfl) (own_w hw 6 rfl) (by decide) (by decide)) q59a q59c (g := (mkF m 14 #[iv p1, iv (4 : Int32), rv a_DAYS] [(.ref a_DAYS)])) rfl (by rw [hml]; rfl) (Steps.refl _) (argsL := []) (rest := []) (lenOf pd___Z_171 rfl) rfl (by show 2 * 0 + _ ≤ _; exact Nat.le_of_eq rfl) (hb hby at_14) (fun _ _ => ⟨rfl, e58, (by decide : 0 + 0 ≤ _), (by decide : 0 + 0 ≤ _)⟩)
    dsimp only [Pt.U, Pt.locs, Pt.cells, Pt.slots] at X59 l59 y59 z59 st59 hQ59
    subst l59 y59 z59
    obtain ⟨rfl, N59q, e59⟩ := hQ59
    skip
    have N59 := Fr.app N58 N59q
    refine own_tr st59 ?_
    show own_Fin p e below G (T59.setTop (mkF m 17 #[iv p1, iv (4 : Int32), rv a_DAYS] [(.int (own_num (1 : Int32) (36500 : Int32)))]))
    refine own_st (fun _ k => XS.aloadN X59.here hx rfl (hb hby at_17) rfl rfl k) ?_
    show own_Fin p e below G (T59.setTop (mkF m 18 #[iv p1, iv (4 : Int32), rv a_DAYS] [(.ref a_DAYS), (.int (own_num (1 : Int32) (36500 : Int32)))]))
    obtain ⟨_, _, ⟨T60, L60, k60, n60⟩, -, X60, ⟨Lc60, hQ60, l60, y60, z60⟩, st60⟩ := Jvm.LawKit.callS X59 hx (y := own_y1) hown (mvT hZ (own_w hw 17 rfl)) (mvT hZ (own_w hw 18 rfl)) (mvT hZ (own_w hw 3 rfl)) (mvT hZ (own_w hw 19 rfl)) (by decide) (backOf (W := 1) (rm_six l Z a0 hw [] a_DAYS a_COUNT a_PAGE_SIZE a_PASSWORD_LENGTH a_DAYS a_SECONDS a_PORT h0 n0 (Nat.le_trans Z0 K0.1) Sa_COUNT Sa_PAGE_SIZE Sa_PASSWORD_LENGTH Sa_DAYS Sa_SECONDS Sa_PORT) hZ (own_w hw 19 rfl) (own_w hw 3 rfl) (by decide) (by decide)) (g := (mkF m 18 #[iv p1, iv (4 : Int32), rv a_DAYS] [(.ref a_DAYS), (.int (own_num (1 : Int32) (36500 : Int32)))])) rfl (by rw [hml]; rfl) (argsL := [(.ref a_DAYS)]) (rest := [(.int (own_num (1 : Int32) (36500 : Int32)))]) (lenOf pd__Lcom_example_rollkeeper_rollkeeper_core_Setting_Format__Z_589 rfl) rfl (by show 2 * 0 + _ ≤ _; exact Nat.le_of_eq rfl) (hb hby at_18) (fun _ _ => ⟨rfl, e59, (by decide : 0 + 0 ≤ _), (by decide : 0 + 0 ≤ _)⟩)
    dsimp only [Pt.U, Pt.locs, Pt.cells, Pt.slots] at X60 l60 y60 z60 st60 hQ60
    subst l60 y60 z60
    obtain ⟨rfl, N60q, e60⟩ := hQ60
    skip
    have N60 := Fr.app N59 N60q
    refine own_st st60 ?_
    show own_Fin p e below G (T60.setTop (mkF m 21 #[iv p1, iv (4 : Int32), rv a_DAYS] [(.int (own_six a_DAYS a_COUNT a_PAGE_SIZE a_PASSWORD_LENGTH a_DAYS a_SECONDS a_PORT)), (.int (own_num (1 : Int32) (36500 : Int32)))]))
    refine own_st (fun _ k => XS.icmpNo X60.here hx rfl (hb hby at_21) rfl (teq (by unfold own_num own_six; rw [if_neg (Ne.symm ne_a_COUNT_a_DAYS), if_neg (Ne.symm ne_a_PAGE_SIZE_a_DAYS), if_neg (Ne.symm ne_a_PASSWORD_LENGTH_a_DAYS), if_pos rfl]; decide)).2 k) ?_
    show own_Fin p e below G (T60.setTop (mkF m 24 #[iv p1, iv (4 : Int32), rv a_DAYS] []))
    refine own_st (fun _ k => XS.iconst X60.here hx rfl (hb hby at_24) k) ?_
    show own_Fin p e below G (T60.setTop (mkF m 25 #[iv p1, iv (4 : Int32), rv a_DAYS] [(.int (1 : Int32))]))
    refine own_st (fun _ k => XS.goto X60.here hx rfl (pc0 := 25) (pc' := 29) rfl (hb hby at_25) (by decide) (by decide) k) ?_
    show own_Fin p e below G (T60.setTop (mkF m 29 #[iv p1, iv (4 : Int32), rv a_DAYS] [(.int (1 : Int32))]))
    refine own_out X60 Bd.notSynchronized (v := (some (.int (1 : Int32)))) (fun h => by rw [Bd.returns] at h; cases h) hG (fun fs hr => retN X60 hx (t := .boolean) Bd.returns (by simp) (hb hby at_29) hr) (by decide) (by decide) ?_
    exact ⟨rfl, N60⟩
  · show own_Fin p e below G (s₁.setTop (mkF m 8 #[iv p1, iv (5 : Int32), .unset] []))
    refine own_st (fun _ k => XS.iloadN X0.here hx rfl (hb hby at_8) rfl  k) ?_
    show own_Fin p e below G (s₁.setTop (mkF m 9 #[iv p1, iv (5 : Int32), .unset] [(.int (5 : Int32))]))
    obtain ⟨_, _, ⟨T61, L61, k61, n61⟩, -, X61, ⟨Lc61, hQ61, l61, y61, z61⟩, st61⟩ := Jvm.LawKit.callS X0 hx (y := own_y0) hown (mvT hZ (own_w hw 1 rfl)) (mvT hZ (own_w hw 2 rfl)) (mvT hZ (own_w hw 3 rfl)) (mvT hZ (own_w hw 4 rfl)) (by decide) (backOf (W := 0) (rm_pick l Z a0 hw [] (5 : Int32) a_FLAG a_COUNT a_PAGE_SIZE a_PASSWORD_LENGTH a_DAYS a_SECONDS a_PORT a_IP_ADDRESS a_OTP_CODE a_TENANT a_JDBC_URL a_HTTP_URL a_AES_KEY a_TEXT a_SECRET h0 n0 (Nat.le_trans Z0 K0.1) Sa_FLAG Sa_COUNT Sa_PAGE_SIZE Sa_PASSWORD_LENGTH Sa_DAYS Sa_SECONDS Sa_PORT Sa_IP_ADDRESS Sa_OTP_CODE Sa_TENANT Sa_JDBC_URL Sa_HTTP_URL Sa_AES_KEY Sa_TEXT Sa_SECRET) hZ (own_w hw 4 rfl) (own_w hw 3 rfl) (by decide) (by decide)) (g := (mkF m 9 #[iv p1, iv (5 : Int32), .unset] [(.int (5 : Int32))])) rfl (by rw [hml]; rfl) (argsL := [(.int (5 : Int32))]) (rest := []) (lenOf pd__I_Lcom_example_rollkeeper_rollkeeper_core_Setting_Format__572 rfl) rfl (by show 2 * 0 + _ ≤ _; exact Nat.le_of_eq rfl) (hb hby at_9) (fun _ _ => ⟨rfl, e0, (by decide : 0 + 0 ≤ _), (by decide : 0 + 0 ≤ _)⟩)
    dsimp only [Pt.U, Pt.locs, Pt.cells, Pt.slots] at X61 l61 y61 z61 st61 hQ61
    subst l61 y61 z61
    obtain ⟨rfl, N61q, e61⟩ := hQ61
    skip
    have N61 := Fr.app N0 N61q
    refine own_st st61 ?_
    show own_Fin p e below G (T61.setTop (mkF m 12 #[iv p1, iv (5 : Int32), .unset] [(.ref a_SECONDS)]))
    refine own_st (fun _ k => XS.astoreN X61.here hx rfl (hb hby at_12) rfl rfl (l' := #[iv p1, iv (5 : Int32), rv a_SECONDS]) rfl k) ?_
    show own_Fin p e below G (T61.setTop (mkF m 13 #[iv p1, iv (5 : Int32), rv a_SECONDS] []))
    refine own_st (fun _ k => XS.aloadN X61.here hx rfl (hb hby at_13) rfl rfl k) ?_
    show own_Fin p e below G (T61.setTop (mkF m 14 #[iv p1, iv (5 : Int32), rv a_SECONDS] [(.ref a_SECONDS)]))
    obtain ⟨cq62, kq62, q62a, q62b, q62c⟩ := isOf hZ e61 Ea_SECONDS
    obtain ⟨_, _, ⟨T62, L62, k62, n62⟩, -, X62, ⟨Lc62, hQ62, l62, y62, z62⟩, st62⟩ := X61.virtualBack hx (y := own_y2) (z := own_y2) hown (mvT hZ (own_w hw 8 rfl)) (mvT hZ (own_w hw 9 rfl)) (notFace_of_selects (args := #[]) (mvT hZ (own_w hw 11 rfl))) (mvT hZ (own_w hw 11 rfl)) (mvT hZ (own_w hw 10 rfl)) (by decide) (backOf (W := 0) (rm_num l Z a0 hw [] a_SECONDS (0 : Int32) (3600 : Int32) h0 n0 (Nat.le_trans Z0 K0.1) Fa_SECONDS_min Fa_SECONDS_max) hZ (own_w hw 12 rfl) (own_w hw 6 rfl) (by decide) (by decide)) q62a q62c (g := (mkF m 14 #[iv p1, iv (5 : Int32), rv a_SECONDS] [(.ref a_SECONDS)])) rfl (by rw [hml]; rfl) (Steps.refl _) (argsL := []) (rest := []) (lenOf pd___Z_171 rfl) rfl (by show 2 * 0 + _ ≤ _; exact Nat.le_of_eq rfl) (hb hby at_14) (fun _ _ => ⟨rfl, e61, (by decide : 0 + 0 ≤ _), (by decide : 0 + 0 ≤ _)⟩)
    dsimp only [Pt.U, Pt.locs, Pt.cells, Pt.slots] at X62 l62 y62 z62 st62 hQ62
    subst l62 y62 z62
    obtain ⟨rfl, N62q, e62⟩ := hQ62
    skip
    have N62 := Fr.app N61 N62q
    refine own_tr st62 ?_
    show own_Fin p e below G (T62.setTop (mkF m 17 #[iv p1, iv (5 : Int32), rv a_SECONDS] [(.int (own_num (0 : Int32) (3600 : Int32)))]))
    refine own_st (fun _ k => XS.aloadN X62.here hx rfl (hb hby at_17) rfl rfl k) ?_
    show own_Fin p e below G (T62.setTop (mkF m 18 #[iv p1, iv (5 : Int32), rv a_SECONDS] [(.ref a_SECONDS), (.int (own_num (0 : Int32) (3600 : Int32)))]))
    obtain ⟨_, _, ⟨T63, L63, k63, n63⟩, -, X63, ⟨Lc63, hQ63, l63, y63, z63⟩, st63⟩ := Jvm.LawKit.callS X62 hx (y := own_y1) hown (mvT hZ (own_w hw 17 rfl)) (mvT hZ (own_w hw 18 rfl)) (mvT hZ (own_w hw 3 rfl)) (mvT hZ (own_w hw 19 rfl)) (by decide) (backOf (W := 1) (rm_six l Z a0 hw [] a_SECONDS a_COUNT a_PAGE_SIZE a_PASSWORD_LENGTH a_DAYS a_SECONDS a_PORT h0 n0 (Nat.le_trans Z0 K0.1) Sa_COUNT Sa_PAGE_SIZE Sa_PASSWORD_LENGTH Sa_DAYS Sa_SECONDS Sa_PORT) hZ (own_w hw 19 rfl) (own_w hw 3 rfl) (by decide) (by decide)) (g := (mkF m 18 #[iv p1, iv (5 : Int32), rv a_SECONDS] [(.ref a_SECONDS), (.int (own_num (0 : Int32) (3600 : Int32)))])) rfl (by rw [hml]; rfl) (argsL := [(.ref a_SECONDS)]) (rest := [(.int (own_num (0 : Int32) (3600 : Int32)))]) (lenOf pd__Lcom_example_rollkeeper_rollkeeper_core_Setting_Format__Z_589 rfl) rfl (by show 2 * 0 + _ ≤ _; exact Nat.le_of_eq rfl) (hb hby at_18) (fun _ _ => ⟨rfl, e62, (by decide : 0 + 0 ≤ _), (by decide : 0 + 0 ≤ _)⟩)
    dsimp only [Pt.U, Pt.locs, Pt.cells, Pt.slots] at X63 l63 y63 z63 st63 hQ63
    subst l63 y63 z63
    obtain ⟨rfl, N63q, e63⟩ := hQ63
    skip
    have N63 := Fr.app N62 N63q
    refine own_st st63 ?_
    show own_Fin p e below G (T63.setTop (mkF m 21 #[iv p1, iv (5 : Int32), rv a_SECONDS] [(.int (own_six a_SECONDS a_COUNT a_PAGE_SIZE a_PASSWORD_LENGTH a_DAYS a_SECONDS a_PORT)), (.int (own_num (0 : Int32) (3600 : Int32)))]))
    refine own_st (fun _ k => XS.icmpNo X63.here hx rfl (hb hby at_21) rfl (teq (by unfold own_num own_six; rw [if_neg (Ne.symm ne_a_COUNT_a_SECONDS), if_neg (Ne.symm ne_a_PAGE_SIZE_a_SECONDS), if_neg (Ne.symm ne_a_PASSWORD_LENGTH_a_SECONDS), if_neg (Ne.symm ne_a_DAYS_a_SECONDS), if_pos rfl]; decide)).2 k) ?_
    show own_Fin p e below G (T63.setTop (mkF m 24 #[iv p1, iv (5 : Int32), rv a_SECONDS] []))
    refine own_st (fun _ k => XS.iconst X63.here hx rfl (hb hby at_24) k) ?_
    show own_Fin p e below G (T63.setTop (mkF m 25 #[iv p1, iv (5 : Int32), rv a_SECONDS] [(.int (1 : Int32))]))
    refine own_st (fun _ k => XS.goto X63.here hx rfl (pc0 := 25) (pc' := 29) rfl (hb hby at_25) (by decide) (by decide) k) ?_
    show own_Fin p e below G (T63.setTop (mkF m 29 #[iv p1, iv (5 : Int32), rv a_SECONDS] [(.int (1 : Int32))]))
    refine own_out X63 Bd.notSynchronized (v := (some (.int (1 : Int32)))) (fun h => by rw [Bd.returns] at h; cases h) hG (fun fs hr => retN X63 hx (t := .boolean) Bd.returns (by simp) (hb hby at_29) hr) (by decide) (by decide) ?_
    exact ⟨rfl, N63⟩
  · show own_Fin p e below G (s₁.setTop (mkF m 8 #[iv p1, iv (6 : Int32), .unset] []))
    refine own_st (fun _ k => XS.iloadN X0.here hx rfl (hb hby at_8) rfl  k) ?_
    show own_Fin p e below G (s₁.setTop (mkF m 9 #[iv p1, iv (6 : Int32), .unset] [(.int (6 : Int32))]))
    obtain ⟨_, _, ⟨T64, L64, k64, n64⟩, -, X64, ⟨Lc64, hQ64, l64, y64, z64⟩, st64⟩ := Jvm.LawKit.callS X0 hx (y := own_y0) hown (mvT hZ (own_w hw 1 rfl)) (mvT hZ (own_w hw 2 rfl)) (mvT hZ (own_w hw 3 rfl)) (mvT hZ (own_w hw 4 rfl)) (by decide) (backOf (W := 0) (rm_pick l Z a0 hw [] (6 : Int32) a_FLAG a_COUNT a_PAGE_SIZE a_PASSWORD_LENGTH a_DAYS a_SECONDS a_PORT a_IP_ADDRESS a_OTP_CODE a_TENANT a_JDBC_URL a_HTTP_URL a_AES_KEY a_TEXT a_SECRET h0 n0 (Nat.le_trans Z0 K0.1) Sa_FLAG Sa_COUNT Sa_PAGE_SIZE Sa_PASSWORD_LENGTH Sa_DAYS Sa_SECONDS Sa_PORT Sa_IP_ADDRESS Sa_OTP_CODE Sa_TENANT Sa_JDBC_URL Sa_HTTP_URL Sa_AES_KEY Sa_TEXT Sa_SECRET) hZ (own_w hw 4 rfl) (own_w hw 3 rfl) (by decide) (by decide)) (g := (mkF m 9 #[iv p1, iv (6 : Int32), .unset] [(.int (6 : Int32))])) rfl (by rw [hml]; rfl) (argsL := [(.int (6 : Int32))]) (rest := []) (lenOf pd__I_Lcom_example_rollkeeper_rollkeeper_core_Setting_Format__572 rfl) rfl (by show 2 * 0 + _ ≤ _; exact Nat.le_of_eq rfl) (hb hby at_9) (fun _ _ => ⟨rfl, e0, (by decide : 0 + 0 ≤ _), (by decide : 0 + 0 ≤ _)⟩)
    dsimp only [Pt.U, Pt.locs, Pt.cells, Pt.slots] at X64 l64 y64 z64 st64 hQ64
    subst l64 y64 z64
    obtain ⟨rfl, N64q, e64⟩ := hQ64
    skip
    have N64 := Fr.app N0 N64q
    refine own_st st64 ?_
    show own_Fin p e below G (T64.setTop (mkF m 12 #[iv p1, iv (6 : Int32), .unset] [(.ref a_PORT)]))
    refine own_st (fun _ k => XS.astoreN X64.here hx rfl (hb hby at_12) rfl rfl (l' := #[iv p1, iv (6 : Int32), rv a_PORT]) rfl k) ?_
    show own_Fin p e below G (T64.setTop (mkF m 13 #[iv p1, iv (6 : Int32), rv a_PORT] []))
    refine own_st (fun _ k => XS.aloadN X64.here hx rfl (hb hby at_13) rfl rfl k) ?_
    show own_Fin p e below G (T64.setTop (mkF m 14 #[iv p1, iv (6 : Int32), rv a_PORT] [(.ref a_PORT)]))
    obtain ⟨cq65, kq65, q65a, q65b, q65c⟩ := isOf hZ e64 Ea_PORT
    obtain ⟨_, _, ⟨T65, L65, k65, n65⟩, -, X65, ⟨Lc65, hQ65, l65, y65, z65⟩, st65⟩ := X64.virtualBack hx (y := own_y2) (z := own_y2) hown (mvT hZ (own_w hw 8 rfl)) (mvT hZ (own_w hw 9 rfl)) (notFace_of_selects (args := #[]) (mvT hZ (own_w hw 11 rfl))) (mvT hZ (own_w hw 11 rfl)) (mvT hZ (own_w hw 10 rfl)) (by decide) (backOf (W := 0) (rm_num l Z a0 hw [] a_PORT (0 : Int32) (65535 : Int32) h0 n0 (Nat.le_trans Z0 K0.1) Fa_PORT_min Fa_PORT_max) hZ (own_w hw 12 rfl) (own_w hw 6 rfl) (by decide) (by decide)) q65a q65c (g := (mkF m 14 #[iv p1, iv (6 : Int32), rv a_PORT] [(.ref a_PORT)])) rfl (by rw [hml]; rfl) (Steps.refl _) (argsL := []) (rest := []) (lenOf pd___Z_171 rfl) rfl (by show 2 * 0 + _ ≤ _; exact Nat.le_of_eq rfl) (hb hby at_14) (fun _ _ => ⟨rfl, e64, (by decide : 0 + 0 ≤ _), (by decide : 0 + 0 ≤ _)⟩)
    dsimp only [Pt.U, Pt.locs, Pt.cells, Pt.slots] at X65 l65 y65 z65 st65 hQ65
    subst l65 y65 z65
    obtain ⟨rfl, N65q, e65⟩ := hQ65
    skip
    have N65 := Fr.app N64 N65q
    refine own_tr st65 ?_
    show own_Fin p e below G (T65.setTop (mkF m 17 #[iv p1, iv (6 : Int32), rv a_PORT] [(.int (own_num (0 : Int32) (65535 : Int32)))]))
    refine own_st (fun _ k => XS.aloadN X65.here hx rfl (hb hby at_17) rfl rfl k) ?_
    show own_Fin p e below G (T65.setTop (mkF m 18 #[iv p1, iv (6 : Int32), rv a_PORT] [(.ref a_PORT), (.int (own_num (0 : Int32) (65535 : Int32)))]))
    obtain ⟨_, _, ⟨T66, L66, k66, n66⟩, -, X66, ⟨Lc66, hQ66, l66, y66, z66⟩, st66⟩ := Jvm.LawKit.callS X65 hx (y := own_y1) hown (mvT hZ (own_w hw 17 rfl)) (mvT hZ (own_w hw 18 rfl)) (mvT hZ (own_w hw 3 rfl)) (mvT hZ (own_w hw 19 rfl)) (by decide) (backOf (W := 1) (rm_six l Z a0 hw [] a_PORT a_COUNT a_PAGE_SIZE a_PASSWORD_LENGTH a_DAYS a_SECONDS a_PORT h0 n0 (Nat.le_trans Z0 K0.1) Sa_COUNT Sa_PAGE_SIZE Sa_PASSWORD_LENGTH Sa_DAYS Sa_SECONDS Sa_PORT) hZ (own_w hw 19 rfl) (own_w hw 3 rfl) (by decide) (by decide)) (g := (mkF m 18 #[iv p1, iv (6 : Int32), rv a_PORT] [(.ref a_PORT), (.int (own_num (0 : Int32) (65535 : Int32)))])) rfl (by rw [hml]; rfl) (argsL := [(.ref a_PORT)]) (rest := [(.int (own_num (0 : Int32) (65535 : Int32)))]) (lenOf pd__Lcom_example_rollkeeper_rollkeeper_core_Setting_Format__Z_589 rfl) rfl (by show 2 * 0 + _ ≤ _; exact Nat.le_of_eq rfl) (hb hby at_18) (fun _ _ => ⟨rfl, e65, (by decide : 0 + 0 ≤ _), (by decide : 0 + 0 ≤ _)⟩)
    dsimp only [Pt.U, Pt.locs, Pt.cells, Pt.slots] at X66 l66 y66 z66 st66 hQ66
    subst l66 y66 z66
    obtain ⟨rfl, N66q, e66⟩ := hQ66
    skip
    have N66 := Fr.app N65 N66q
    refine own_st st66 ?_
    show own_Fin p e below G (T66.setTop (mkF m 21 #[iv p1, iv (6 : Int32), rv a_PORT] [(.int (own_six a_PORT a_COUNT a_PAGE_SIZE a_PASSWORD_LENGTH a_DAYS a_SECONDS a_PORT)), (.int (own_num (0 : Int32) (65535 : Int32)))]))
    refine own_st (fun _ k => XS.icmpNo X66.here hx rfl (hb hby at_21) rfl (teq (by unfold own_num own_six; rw [if_neg (Ne.symm ne_a_COUNT_a_PORT), if_neg (Ne.symm ne_a_PAGE_SIZE_a_PORT), if_neg (Ne.symm ne_a_PASSWORD_LENGTH_a_PORT), if_neg (Ne.symm ne_a_DAYS_a_PORT), if_neg (Ne.symm ne_a_SECONDS_a_PORT), if_pos rfl]; decide)).2 k) ?_
    show own_Fin p e below G (T66.setTop (mkF m 24 #[iv p1, iv (6 : Int32), rv a_PORT] []))
    refine own_st (fun _ k => XS.iconst X66.here hx rfl (hb hby at_24) k) ?_
    show own_Fin p e below G (T66.setTop (mkF m 25 #[iv p1, iv (6 : Int32), rv a_PORT] [(.int (1 : Int32))]))
    refine own_st (fun _ k => XS.goto X66.here hx rfl (pc0 := 25) (pc' := 29) rfl (hb hby at_25) (by decide) (by decide) k) ?_
    show own_Fin p e below G (T66.setTop (mkF m 29 #[iv p1, iv (6 : Int32), rv a_PORT] [(.int (1 : Int32))]))
    refine own_out X66 Bd.notSynchronized (v := (some (.int (1 : Int32)))) (fun h => by rw [Bd.returns] at h; cases h) hG (fun fs hr => retN X66 hx (t := .boolean) Bd.returns (by simp) (hb hby at_29) hr) (by decide) (by decide) ?_
    exact ⟨rfl, N66⟩
  · show own_Fin p e below G (s₁.setTop (mkF m 8 #[iv p1, iv (7 : Int32), .unset] []))
    refine own_st (fun _ k => XS.iloadN X0.here hx rfl (hb hby at_8) rfl  k) ?_
    show own_Fin p e below G (s₁.setTop (mkF m 9 #[iv p1, iv (7 : Int32), .unset] [(.int (7 : Int32))]))
    obtain ⟨_, _, ⟨T67, L67, k67, n67⟩, -, X67, ⟨Lc67, hQ67, l67, y67, z67⟩, st67⟩ := Jvm.LawKit.callS X0 hx (y := own_y0) hown (mvT hZ (own_w hw 1 rfl)) (mvT hZ (own_w hw 2 rfl)) (mvT hZ (own_w hw 3 rfl)) (mvT hZ (own_w hw 4 rfl)) (by decide) (backOf (W := 0) (rm_pick l Z a0 hw [] (7 : Int32) a_FLAG a_COUNT a_PAGE_SIZE a_PASSWORD_LENGTH a_DAYS a_SECONDS a_PORT a_IP_ADDRESS a_OTP_CODE a_TENANT a_JDBC_URL a_HTTP_URL a_AES_KEY a_TEXT a_SECRET h0 n0 (Nat.le_trans Z0 K0.1) Sa_FLAG Sa_COUNT Sa_PAGE_SIZE Sa_PASSWORD_LENGTH Sa_DAYS Sa_SECONDS Sa_PORT Sa_IP_ADDRESS Sa_OTP_CODE Sa_TENANT Sa_JDBC_URL Sa_HTTP_URL Sa_AES_KEY Sa_TEXT Sa_SECRET) hZ (own_w hw 4 rfl) (own_w hw 3 rfl) (by decide) (by decide)) (g := (mkF m 9 #[iv p1, iv (7 : Int32), .unset] [(.int (7 : Int32))])) rfl (by rw [hml]; rfl) (argsL := [(.int (7 : Int32))]) (rest := []) (lenOf pd__I_Lcom_example_rollkeeper_rollkeeper_core_Setting_Format__572 rfl) rfl (by show 2 * 0 + _ ≤ _; exact Nat.le_of_eq rfl) (hb hby at_9) (fun _ _ => ⟨rfl, e0, (by decide : 0 + 0 ≤ _), (by decide : 0 + 0 ≤ _)⟩)
    dsimp only [Pt.U, Pt.locs, Pt.cells, Pt.slots] at X67 l67 y67 z67 st67 hQ67
    subst l67 y67 z67
    obtain ⟨rfl, N67q, e67⟩ := hQ67
    skip
    have N67 := Fr.app N0 N67q
    refine own_st st67 ?_
    show own_Fin p e below G (T67.setTop (mkF m 12 #[iv p1, iv (7 : Int32), .unset] [(.ref a_IP_ADDRESS)]))
    refine own_st (fun _ k => XS.astoreN X67.here hx rfl (hb hby at_12) rfl rfl (l' := #[iv p1, iv (7 : Int32), rv a_IP_ADDRESS]) rfl k) ?_
    show own_Fin p e below G (T67.setTop (mkF m 13 #[iv p1, iv (7 : Int32), rv a_IP_ADDRESS] []))
    refine own_st (fun _ k => XS.aloadN X67.here hx rfl (hb hby at_13) rfl rfl k) ?_
    show own_Fin p e below G (T67.setTop (mkF m 14 #[iv p1, iv (7 : Int32), rv a_IP_ADDRESS] [(.ref a_IP_ADDRESS)]))
    obtain ⟨cq68, kq68, q68a, q68b, q68c⟩ := isOf hZ e67 Ea_IP_ADDRESS
    obtain ⟨_, _, ⟨T68, L68, k68, n68⟩, -, X68, ⟨Lc68, hQ68, l68, y68, z68⟩, st68⟩ := X67.virtualBack hx (y := own_y2) (z := own_y2) hown (mvT hZ (own_w hw 8 rfl)) (mvT hZ (own_w hw 9 rfl)) (notFace_of_selects (args := #[]) (mvT hZ (own_w hw 11 rfl))) (mvT hZ (own_w hw 11 rfl)) (mvT hZ (own_w hw 10 rfl)) (by decide) (backOf (W := 0) (rm_num l Z a0 hw [] a_IP_ADDRESS (0 : Int32) (-1 : Int32) h0 n0 (Nat.le_trans Z0 K0.1) Fa_IP_ADDRESS_min Fa_IP_ADDRESS_max) hZ (own_w hw 12 rfl) (own_w hw 6 rfl) (by decide) (by decide)) q68a q68c (g := (mkF m 14 #[iv p1, iv (7 : Int32), rv a_IP_ADDRESS] [(.ref a_IP_ADDRESS)])) rfl (by rw [hml]; rfl) (Steps.refl _) (argsL := []) (rest := []) (lenOf pd___Z_171 rfl) rfl (by show 2 * 0 + _ ≤ _; exact Nat.le_of_eq rfl) (hb hby at_14) (fun _ _ => ⟨rfl, e67, (by decide : 0 + 0 ≤ _), (by decide : 0 + 0 ≤ _)⟩)
    dsimp only [Pt.U, Pt.locs, Pt.cells, Pt.slots] at X68 l68 y68 z68 st68 hQ68
    subst l68 y68 z68
    obtain ⟨rfl, N68q, e68⟩ := hQ68
    skip
    have N68 := Fr.app N67 N68q
    refine own_tr st68 ?_
    show own_Fin p e below G (T68.setTop (mkF m 17 #[iv p1, iv (7 : Int32), rv a_IP_ADDRESS] [(.int (own_num (0 : Int32) (-1 : Int32)))]))
    refine own_st (fun _ k => XS.aloadN X68.here hx rfl (hb hby at_17) rfl rfl k) ?_
    show own_Fin p e below G (T68.setTop (mkF m 18 #[iv p1, iv (7 : Int32), rv a_IP_ADDRESS] [(.ref a_IP_ADDRESS), (.int (own_num (0 : Int32) (-1 : Int32)))]))
    obtain ⟨_, _, ⟨T69, L69, k69, n69⟩, -, X69, ⟨Lc69, hQ69, l69, y69, z69⟩, st69⟩ := Jvm.LawKit.callS X68 hx (y := own_y1) hown (mvT hZ (own_w hw 17 rfl)) (mvT hZ (own_w hw 18 rfl)) (mvT hZ (own_w hw 3 rfl)) (mvT hZ (own_w hw 19 rfl)) (by decide) (backOf (W := 1) (rm_six l Z a0 hw [] a_IP_ADDRESS a_COUNT a_PAGE_SIZE a_PASSWORD_LENGTH a_DAYS a_SECONDS a_PORT h0 n0 (Nat.le_trans Z0 K0.1) Sa_COUNT Sa_PAGE_SIZE Sa_PASSWORD_LENGTH Sa_DAYS Sa_SECONDS Sa_PORT) hZ (own_w hw 19 rfl) (own_w hw 3 rfl) (by decide) (by decide)) (g := (mkF m 18 #[iv p1, iv (7 : Int32), rv a_IP_ADDRESS] [(.ref a_IP_ADDRESS), (.int (own_num (0 : Int32) (-1 : Int32)))])) rfl (by rw [hml]; rfl) (argsL := [(.ref a_IP_ADDRESS)]) (rest := [(.int (own_num (0 : Int32) (-1 : Int32)))]) (lenOf pd__Lcom_example_rollkeeper_rollkeeper_core_Setting_Format__Z_589 rfl) rfl (by show 2 * 0 + _ ≤ _; exact Nat.le_of_eq rfl) (hb hby at_18) (fun _ _ => ⟨rfl, e68, (by decide : 0 + 0 ≤ _), (by decide : 0 + 0 ≤ _)⟩)
    dsimp only [Pt.U, Pt.locs, Pt.cells, Pt.slots] at X69 l69 y69 z69 st69 hQ69
    subst l69 y69 z69
    obtain ⟨rfl, N69q, e69⟩ := hQ69
    skip
    have N69 := Fr.app N68 N69q
    refine own_st st69 ?_
    show own_Fin p e below G (T69.setTop (mkF m 21 #[iv p1, iv (7 : Int32), rv a_IP_ADDRESS] [(.int (own_six a_IP_ADDRESS a_COUNT a_PAGE_SIZE a_PASSWORD_LENGTH a_DAYS a_SECONDS a_PORT)), (.int (own_num (0 : Int32) (-1 : Int32)))]))
    refine own_st (fun _ k => XS.icmpNo X69.here hx rfl (hb hby at_21) rfl (teq (by unfold own_num own_six; rw [if_neg ne_a_IP_ADDRESS_a_COUNT, if_neg ne_a_IP_ADDRESS_a_PAGE_SIZE, if_neg ne_a_IP_ADDRESS_a_PASSWORD_LENGTH, if_neg ne_a_IP_ADDRESS_a_DAYS, if_neg ne_a_IP_ADDRESS_a_SECONDS, if_neg ne_a_IP_ADDRESS_a_PORT]; decide)).2 k) ?_
    show own_Fin p e below G (T69.setTop (mkF m 24 #[iv p1, iv (7 : Int32), rv a_IP_ADDRESS] []))
    refine own_st (fun _ k => XS.iconst X69.here hx rfl (hb hby at_24) k) ?_
    show own_Fin p e below G (T69.setTop (mkF m 25 #[iv p1, iv (7 : Int32), rv a_IP_ADDRESS] [(.int (1 : Int32))]))
    refine own_st (fun _ k => XS.goto X69.here hx rfl (pc0 := 25) (pc' := 29) rfl (hb hby at_25) (by decide) (by decide) k) ?_
    show own_Fin p e below G (T69.setTop (mkF m 29 #[iv p1, iv (7 : Int32), rv a_IP_ADDRESS] [(.int (1 : Int32))]))
    refine own_out X69 Bd.notSynchronized (v := (some (.int (1 : Int32)))) (fun h => by rw [Bd.returns] at h; cases h) hG (fun fs hr => retN X69 hx (t := .boolean) Bd.returns (by simp) (hb hby at_29) hr) (by decide) (by decide) ?_
    exact ⟨rfl, N69⟩
  · show own_Fin p e below G (s₁.setTop (mkF m 8 #[iv p1, iv (8 : Int32), .unset] []))
    refine own_st (fun _ k => XS.iloadN X0.here hx rfl (hb hby at_8) rfl  k) ?_
    show own_Fin p e below G (s₁.setTop (mkF m 9 #[iv p1, iv (8 : Int32), .unset] [(.int (8 : Int32))]))
    obtain ⟨_, _, ⟨T70, L70, k70, n70⟩, -, X70, ⟨Lc70, hQ70, l70, y70, z70⟩, st70⟩ := Jvm.LawKit.callS X0 hx (y := own_y0) hown (mvT hZ (own_w hw 1 rfl)) (mvT hZ (own_w hw 2 rfl)) (mvT hZ (own_w hw 3 rfl)) (mvT hZ (own_w hw 4 rfl)) (by decide) (backOf (W := 0) (rm_pick l Z a0 hw [] (8 : Int32) a_FLAG a_COUNT a_PAGE_SIZE a_PASSWORD_LENGTH a_DAYS a_SECONDS a_PORT a_IP_ADDRESS a_OTP_CODE a_TENANT a_JDBC_URL a_HTTP_URL a_AES_KEY a_TEXT a_SECRET h0 n0 (Nat.le_trans Z0 K0.1) Sa_FLAG Sa_COUNT Sa_PAGE_SIZE Sa_PASSWORD_LENGTH Sa_DAYS Sa_SECONDS Sa_PORT Sa_IP_ADDRESS Sa_OTP_CODE Sa_TENANT Sa_JDBC_URL Sa_HTTP_URL Sa_AES_KEY Sa_TEXT Sa_SECRET) hZ (own_w hw 4 rfl) (own_w hw 3 rfl) (by decide) (by decide)) (g := (mkF m 9 #[iv p1, iv (8 : Int32), .unset] [(.int (8 : Int32))])) rfl (by rw [hml]; rfl) (argsL := [(.int (8 : Int32))]) (rest := []) (lenOf pd__I_Lcom_example_rollkeeper_rollkeeper_core_Setting_Format__572 rfl) rfl (by show 2 * 0 + _ ≤ _; exact Nat.le_of_eq rfl) (hb hby at_9) (fun _ _ => ⟨rfl, e0, (by decide : 0 + 0 ≤ _), (by decide : 0 + 0 ≤ _)⟩)
    dsimp only [Pt.U, Pt.locs, Pt.cells, Pt.slots] at X70 l70 y70 z70 st70 hQ70
    subst l70 y70 z70
    obtain ⟨rfl, N70q, e70⟩ := hQ70
    skip
    have N70 := Fr.app N0 N70q
    refine own_st st70 ?_
    show own_Fin p e below G (T70.setTop (mkF m 12 #[iv p1, iv (8 : Int32), .unset] [(.ref a_OTP_CODE)]))
    refine own_st (fun _ k => XS.astoreN X70.here hx rfl (hb hby at_12) rfl rfl (l' := #[iv p1, iv (8 : Int32), rv a_OTP_CODE]) rfl k) ?_
    show own_Fin p e below G (T70.setTop (mkF m 13 #[iv p1, iv (8 : Int32), rv a_OTP_CODE] []))
    refine own_st (fun _ k => XS.aloadN X70.here hx rfl (hb hby at_13) rfl rfl k) ?_
    show own_Fin p e below G (T70.setTop (mkF m 14 #[iv p1, iv (8 : Int32), rv a_OTP_CODE] [(.ref a_OTP_CODE)]))
    obtain ⟨cq71, kq71, q71a, q71b, q71c⟩ := isOf hZ e70 Ea_OTP_CODE
    obtain ⟨_, _, ⟨T71, L71, k71, n71⟩, -, X71, ⟨Lc71, hQ71, l71, y71, z71⟩, st71⟩ := X70.virtualBack hx (y := own_y2) (z := own_y2) hown (mvT hZ (own_w hw 8 rfl)) (mvT hZ (own_w hw 9 rfl)) (notFace_of_selects (args := #[]) (mvT hZ (own_w hw 11 rfl))) (mvT hZ (own_w hw 11 rfl)) (mvT hZ (own_w hw 10 rfl)) (by decide) (backOf (W := 0) (rm_num l Z a0 hw [] a_OTP_CODE (0 : Int32) (-1 : Int32) h0 n0 (Nat.le_trans Z0 K0.1) Fa_OTP_CODE_min Fa_OTP_CODE_max) hZ (own_w hw 12 rfl) (own_w hw 6 rfl) (by decide) (by decide)) q71a q71c (g := (mkF m 14 #[iv p1, iv (8 : Int32), rv a_OTP_CODE] [(.ref a_OTP_CODE)])) rfl (by rw [hml]; rfl) (Steps.refl _) (argsL := []) (rest := []) (lenOf pd___Z_171 rfl) rfl (by show 2 * 0 + _ ≤ _; exact Nat.le_of_eq rfl) (hb hby at_14) (fun _ _ => ⟨rfl, e70, (by decide : 0 + 0 ≤ _), (by decide : 0 + 0 ≤ _)⟩)
    dsimp only [Pt.U, Pt.locs, Pt.cells, Pt.slots] at X71 l71 y71 z71 st71 hQ71
    subst l71 y71 z71
    obtain ⟨rfl, N71q, e71⟩ := hQ71
    skip
    have N71 := Fr.app N70 N71q
    refine own_tr st71 ?_
    show own_Fin p e below G (T71.setTop (mkF m 17 #[iv p1, iv (8 : Int32), rv a_OTP_CODE] [(.int (own_num (0 : Int32) (-1 : Int32)))]))
    refine own_st (fun _ k => XS.aloadN X71.here hx rfl (hb hby at_17) rfl rfl k) ?_
    show own_Fin p e below G (T71.setTop (mkF m 18 #[iv p1, iv (8 : Int32), rv a_OTP_CODE] [(.ref a_OTP_CODE), (.int (own_num (0 : Int32) (-1 : Int32)))]))
    obtain ⟨_, _, ⟨T72, L72, k72, n72⟩, -, X72, ⟨Lc72, hQ72, l72, y72, z72⟩, st72⟩ := Jvm.LawKit.callS X71 hx (y := own_y1) hown (mvT hZ (own_w hw 17 rfl)) (mvT hZ (own_w hw 18 rfl)) (mvT hZ (own_w hw 3 rfl)) (mvT hZ (own_w hw 19 rfl)) (by decide) (backOf (W := 1) (rm_six l Z a0 hw [] a_OTP_CODE a_COUNT a_PAGE_SIZE a_PASSWORD_LENGTH a_DAYS a_SECONDS a_PORT h0 n0 (Nat.le_trans Z0 K0.1) Sa_COUNT Sa_PAGE_SIZE Sa_PASSWORD_LENGTH Sa_DAYS Sa_SECONDS Sa_PORT) hZ (own_w hw 19 rfl) (own_w hw 3 rfl) (by decide) (by decide)) (g := (mkF m 18 #[iv p1, iv (8 : Int32), rv a_OTP_CODE] [(.ref a_OTP_CODE), (.int (own_num (0 : Int32) (-1 : Int32)))])) rfl (by rw [hml]; rfl) (argsL := [(.ref a_OTP_CODE)]) (rest := [(.int (own_num (0 : Int32) (-1 : Int32)))]) (lenOf pd__Lcom_example_rollkeeper_rollkeeper_core_Setting_Format__Z_589 rfl) rfl (by show 2 * 0 + _ ≤ _; exact Nat.le_of_eq rfl) (hb hby at_18) (fun _ _ => ⟨rfl, e71, (by decide : 0 + 0 ≤ _), (by decide : 0 + 0 ≤ _)⟩)
    dsimp only [Pt.U, Pt.locs, Pt.cells, Pt.slots] at X72 l72 y72 z72 st72 hQ72
    subst l72 y72 z72
    obtain ⟨rfl, N72q, e72⟩ := hQ72
    skip
    have N72 := Fr.app N71 N72q
    refine own_st st72 ?_
    show own_Fin p e below G (T72.setTop (mkF m 21 #[iv p1, iv (8 : Int32), rv a_OTP_CODE] [(.int (own_six a_OTP_CODE a_COUNT a_PAGE_SIZE a_PASSWORD_LENGTH a_DAYS a_SECONDS a_PORT)), (.int (own_num (0 : Int32) (-1 : Int32)))]))
    refine own_st (fun _ k => XS.icmpNo X72.here hx rfl (hb hby at_21) rfl (teq (by unfold own_num own_six; rw [if_neg ne_a_OTP_CODE_a_COUNT, if_neg ne_a_OTP_CODE_a_PAGE_SIZE, if_neg ne_a_OTP_CODE_a_PASSWORD_LENGTH, if_neg ne_a_OTP_CODE_a_DAYS, if_neg ne_a_OTP_CODE_a_SECONDS, if_neg ne_a_OTP_CODE_a_PORT]; decide)).2 k) ?_
    show own_Fin p e below G (T72.setTop (mkF m 24 #[iv p1, iv (8 : Int32), rv a_OTP_CODE] []))
    refine own_st (fun _ k => XS.iconst X72.here hx rfl (hb hby at_24) k) ?_
    show own_Fin p e below G (T72.setTop (mkF m 25 #[iv p1, iv (8 : Int32), rv a_OTP_CODE] [(.int (1 : Int32))]))
    refine own_st (fun _ k => XS.goto X72.here hx rfl (pc0 := 25) (pc' := 29) rfl (hb hby at_25) (by decide) (by decide) k) ?_
    show own_Fin p e below G (T72.setTop (mkF m 29 #[iv p1, iv (8 : Int32), rv a_OTP_CODE] [(.int (1 : Int32))]))
    refine own_out X72 Bd.notSynchronized (v := (some (.int (1 : Int32)))) (fun h => by rw [Bd.returns] at h; cases h) hG (fun fs hr => retN X72 hx (t := .boolean) Bd.returns (by simp) (hb hby at_29) hr) (by decide) (by decide) ?_
    exact ⟨rfl, N72⟩
  · show own_Fin p e below G (s₁.setTop (mkF m 8 #[iv p1, iv (9 : Int32), .unset] []))
    refine own_st (fun _ k => XS.iloadN X0.here hx rfl (hb hby at_8) rfl  k) ?_
    show own_Fin p e below G (s₁.setTop (mkF m 9 #[iv p1, iv (9 : Int32), .unset] [(.int (9 : Int32))]))
    obtain ⟨_, _, ⟨T73, L73, k73, n73⟩, -, X73, ⟨Lc73, hQ73, l73, y73, z73⟩, st73⟩ := Jvm.LawKit.callS X0 hx (y := own_y0) hown (mvT hZ (own_w hw 1 rfl)) (mvT hZ (own_w hw 2 rfl)) (mvT hZ (own_w hw 3 rfl)) (mvT hZ (own_w hw 4 rfl)) (by decide) (backOf (W := 0) (rm_pick l Z a0 hw [] (9 : Int32) a_FLAG a_COUNT a_PAGE_SIZE a_PASSWORD_LENGTH a_DAYS a_SECONDS a_PORT a_IP_ADDRESS a_OTP_CODE a_TENANT a_JDBC_URL a_HTTP_URL a_AES_KEY a_TEXT a_SECRET h0 n0 (Nat.le_trans Z0 K0.1) Sa_FLAG Sa_COUNT Sa_PAGE_SIZE Sa_PASSWORD_LENGTH Sa_DAYS Sa_SECONDS Sa_PORT Sa_IP_ADDRESS Sa_OTP_CODE Sa_TENANT Sa_JDBC_URL Sa_HTTP_URL Sa_AES_KEY Sa_TEXT Sa_SECRET) hZ (own_w hw 4 rfl) (own_w hw 3 rfl) (by decide) (by decide)) (g := (mkF m 9 #[iv p1, iv (9 : Int32), .unset] [(.int (9 : Int32))])) rfl (by rw [hml]; rfl) (argsL := [(.int (9 : Int32))]) (rest := []) (lenOf pd__I_Lcom_example_rollkeeper_rollkeeper_core_Setting_Format__572 rfl) rfl (by show 2 * 0 + _ ≤ _; exact Nat.le_of_eq rfl) (hb hby at_9) (fun _ _ => ⟨rfl, e0, (by decide : 0 + 0 ≤ _), (by decide : 0 + 0 ≤ _)⟩)
    dsimp only [Pt.U, Pt.locs, Pt.cells, Pt.slots] at X73 l73 y73 z73 st73 hQ73
    subst l73 y73 z73
    obtain ⟨rfl, N73q, e73⟩ := hQ73
    skip
    have N73 := Fr.app N0 N73q
    refine own_st st73 ?_
    show own_Fin p e below G (T73.setTop (mkF m 12 #[iv p1, iv (9 : Int32), .unset] [(.ref a_TENANT)]))
    refine own_st (fun _ k => XS.astoreN X73.here hx rfl (hb hby at_12) rfl rfl (l' := #[iv p1, iv (9 : Int32), rv a_TENANT]) rfl k) ?_
    show own_Fin p e below G (T73.setTop (mkF m 13 #[iv p1, iv (9 : Int32), rv a_TENANT] []))
    refine own_st (fun _ k => XS.aloadN X73.here hx rfl (hb hby at_13) rfl rfl k) ?_
    show own_Fin p e below G (T73.setTop (mkF m 14 #[iv p1, iv (9 : Int32), rv a_TENANT] [(.ref a_TENANT)]))
    obtain ⟨cq74, kq74, q74a, q74b, q74c⟩ := isOf hZ e73 Ea_TENANT
    obtain ⟨_, _, ⟨T74, L74, k74, n74⟩, -, X74, ⟨Lc74, hQ74, l74, y74, z74⟩, st74⟩ := X73.virtualBack hx (y := own_y2) (z := own_y2) hown (mvT hZ (own_w hw 8 rfl)) (mvT hZ (own_w hw 9 rfl)) (notFace_of_selects (args := #[]) (mvT hZ (own_w hw 11 rfl))) (mvT hZ (own_w hw 11 rfl)) (mvT hZ (own_w hw 10 rfl)) (by decide) (backOf (W := 0) (rm_num l Z a0 hw [] a_TENANT (0 : Int32) (-1 : Int32) h0 n0 (Nat.le_trans Z0 K0.1) Fa_TENANT_min Fa_TENANT_max) hZ (own_w hw 12 rfl) (own_w hw 6 rfl) (by decide) (by decide)) q74a q74c (g := (mkF m 14 #[iv p1, iv (9 : Int32), rv a_TENANT] [(.ref a_TENANT)])) rfl (by rw [hml]; rfl) (Steps.refl _) (argsL := []) (rest := []) (lenOf pd___Z_171 rfl) rfl (by show 2 * 0 + _ ≤ _; exact Nat.le_of_eq rfl) (hb hby at_14) (fun _ _ => ⟨rfl, e73, (by decide : 0 + 0 ≤ _), (by decide : 0 + 0 ≤ _)⟩)
    dsimp only [Pt.U, Pt.locs, Pt.cells, Pt.slots] at X74 l74 y74 z74 st74 hQ74
    subst l74 y74 z74
    obtain ⟨rfl, N74q, e74⟩ := hQ74
    skip
    have N74 := Fr.app N73 N74q
    refine own_tr st74 ?_
    show own_Fin p e below G (T74.setTop (mkF m 17 #[iv p1, iv (9 : Int32), rv a_TENANT] [(.int (own_num (0 : Int32) (-1 : Int32)))]))
    refine own_st (fun _ k => XS.aloadN X74.here hx rfl (hb hby at_17) rfl rfl k) ?_
    show own_Fin p e below G (T74.setTop (mkF m 18 #[iv p1, iv (9 : Int32), rv a_TENANT] [(.ref a_TENANT), (.int (own_num (0 : Int32) (-1 : Int32)))]))
    obtain ⟨_, _, ⟨T75, L75, k75, n75⟩, -, X75, ⟨Lc75, hQ75, l75, y75, z75⟩, st75⟩ := Jvm.LawKit.callS X74 hx (y := own_y1) hown (mvT hZ (own_w hw 17 rfl)) (mvT hZ (own_w hw 18 rfl)) (mvT hZ (own_w hw 3 rfl)) (mvT hZ (own_w hw 19 rfl)) (by decide) (backOf (W := 1) (rm_six l Z a0 hw [] a_TENANT a_COUNT a_PAGE_SIZE a_PASSWORD_LENGTH a_DAYS a_SECONDS a_PORT h0 n0 (Nat.le_trans Z0 K0.1) Sa_COUNT Sa_PAGE_SIZE Sa_PASSWORD_LENGTH Sa_DAYS Sa_SECONDS Sa_PORT) hZ (own_w hw 19 rfl) (own_w hw 3 rfl) (by decide) (by decide)) (g := (mkF m 18 #[iv p1, iv (9 : Int32), rv a_TENANT] [(.ref a_TENANT), (.int (own_num (0 : Int32) (-1 : Int32)))])) rfl (by rw [hml]; rfl) (argsL := [(.ref a_TENANT)]) (rest := [(.int (own_num (0 : Int32) (-1 : Int32)))]) (lenOf pd__Lcom_example_rollkeeper_rollkeeper_core_Setting_Format__Z_589 rfl) rfl (by show 2 * 0 + _ ≤ _; exact Nat.le_of_eq rfl) (hb hby at_18) (fun _ _ => ⟨rfl, e74, (by decide : 0 + 0 ≤ _), (by decide : 0 + 0 ≤ _)⟩)
    dsimp only [Pt.U, Pt.locs, Pt.cells, Pt.slots] at X75 l75 y75 z75 st75 hQ75
    subst l75 y75 z75
    obtain ⟨rfl, N75q, e75⟩ := hQ75
    skip
    have N75 := Fr.app N74 N75q
    refine own_st st75 ?_
    show own_Fin p e below G (T75.setTop (mkF m 21 #[iv p1, iv (9 : Int32), rv a_TENANT] [(.int (own_six a_TENANT a_COUNT a_PAGE_SIZE a_PASSWORD_LENGTH a_DAYS a_SECONDS a_PORT)), (.int (own_num (0 : Int32) (-1 : Int32)))]))
    refine own_st (fun _ k => XS.icmpNo X75.here hx rfl (hb hby at_21) rfl (teq (by unfold own_num own_six; rw [if_neg ne_a_TENANT_a_COUNT, if_neg ne_a_TENANT_a_PAGE_SIZE, if_neg ne_a_TENANT_a_PASSWORD_LENGTH, if_neg ne_a_TENANT_a_DAYS, if_neg ne_a_TENANT_a_SECONDS, if_neg ne_a_TENANT_a_PORT]; decide)).2 k) ?_
    show own_Fin p e below G (T75.setTop (mkF m 24 #[iv p1, iv (9 : Int32), rv a_TENANT] []))
    refine own_st (fun _ k => XS.iconst X75.here hx rfl (hb hby at_24) k) ?_
    show own_Fin p e below G (T75.setTop (mkF m 25 #[iv p1, iv (9 : Int32), rv a_TENANT] [(.int (1 : Int32))]))
    refine own_st (fun _ k => XS.goto X75.here hx rfl (pc0 := 25) (pc' := 29) rfl (hb hby at_25) (by decide) (by decide) k) ?_
    show own_Fin p e below G (T75.setTop (mkF m 29 #[iv p1, iv (9 : Int32), rv a_TENANT] [(.int (1 : Int32))]))
    refine own_out X75 Bd.notSynchronized (v := (some (.int (1 : Int32)))) (fun h => by rw [Bd.returns] at h; cases h) hG (fun fs hr => retN X75 hx (t := .boolean) Bd.returns (by simp) (hb hby at_29) hr) (by decide) (by decide) ?_
    exact ⟨rfl, N75⟩
  · show own_Fin p e below G (s₁.setTop (mkF m 8 #[iv p1, iv (10 : Int32), .unset] []))
    refine own_st (fun _ k => XS.iloadN X0.here hx rfl (hb hby at_8) rfl  k) ?_
    show own_Fin p e below G (s₁.setTop (mkF m 9 #[iv p1, iv (10 : Int32), .unset] [(.int (10 : Int32))]))
    obtain ⟨_, _, ⟨T76, L76, k76, n76⟩, -, X76, ⟨Lc76, hQ76, l76, y76, z76⟩, st76⟩ := Jvm.LawKit.callS X0 hx (y := own_y0) hown (mvT hZ (own_w hw 1 rfl)) (mvT hZ (own_w hw 2 rfl)) (mvT hZ (own_w hw 3 rfl)) (mvT hZ (own_w hw 4 rfl)) (by decide) (backOf (W := 0) (rm_pick l Z a0 hw [] (10 : Int32) a_FLAG a_COUNT a_PAGE_SIZE a_PASSWORD_LENGTH a_DAYS a_SECONDS a_PORT a_IP_ADDRESS a_OTP_CODE a_TENANT a_JDBC_URL a_HTTP_URL a_AES_KEY a_TEXT a_SECRET h0 n0 (Nat.le_trans Z0 K0.1) Sa_FLAG Sa_COUNT Sa_PAGE_SIZE Sa_PASSWORD_LENGTH Sa_DAYS Sa_SECONDS Sa_PORT Sa_IP_ADDRESS Sa_OTP_CODE Sa_TENANT Sa_JDBC_URL Sa_HTTP_URL Sa_AES_KEY Sa_TEXT Sa_SECRET) hZ (own_w hw 4 rfl) (own_w hw 3 rfl) (by decide) (by decide)) (g := (mkF m 9 #[iv p1, iv (10 : Int32), .unset] [(.int (10 : Int32))])) rfl (by rw [hml]; rfl) (argsL := [(.int (10 : Int32))]) (rest := []) (lenOf pd__I_Lcom_example_rollkeeper_rollkeeper_core_Setting_Format__572 rfl) rfl (by show 2 * 0 + _ ≤ _; exact Nat.le_of_eq rfl) (hb hby at_9) (fun _ _ => ⟨rfl, e0, (by decide : 0 + 0 ≤ _), (by decide : 0 + 0 ≤ _)⟩)
    dsimp only [Pt.U, Pt.locs, Pt.cells, Pt.slots] at X76 l76 y76 z76 st76 hQ76
    subst l76 y76 z76
    obtain ⟨rfl, N76q, e76⟩ := hQ76
    skip
    have N76 := Fr.app N0 N76q
    refine own_st st76 ?_
    show own_Fin p e below G (T76.setTop (mkF m 12 #[iv p1, iv (10 : Int32), .unset] [(.ref a_JDBC_URL)]))
    refine own_st (fun _ k => XS.astoreN X76.here hx rfl (hb hby at_12) rfl rfl (l' := #[iv p1, iv (10 : Int32), rv a_JDBC_URL]) rfl k) ?_
    show own_Fin p e below G (T76.setTop (mkF m 13 #[iv p1, iv (10 : Int32), rv a_JDBC_URL] []))
    refine own_st (fun _ k => XS.aloadN X76.here hx rfl (hb hby at_13) rfl rfl k) ?_
    show own_Fin p e below G (T76.setTop (mkF m 14 #[iv p1, iv (10 : Int32), rv a_JDBC_URL] [(.ref a_JDBC_URL)]))
    obtain ⟨cq77, kq77, q77a, q77b, q77c⟩ := isOf hZ e76 Ea_JDBC_URL
    obtain ⟨_, _, ⟨T77, L77, k77, n77⟩, -, X77, ⟨Lc77, hQ77, l77, y77, z77⟩, st77⟩ := X76.virtualBack hx (y := own_y2) (z := own_y2) hown (mvT hZ (own_w hw 8 rfl)) (mvT hZ (own_w hw 9 rfl)) (notFace_of_selects (args := #[]) (mvT hZ (own_w hw 11 rfl))) (mvT hZ (own_w hw 11 rfl)) (mvT hZ (own_w hw 10 rfl)) (by decide) (backOf (W := 0) (rm_num l Z a0 hw [] a_JDBC_URL (0 : Int32) (-1 : Int32) h0 n0 (Nat.le_trans Z0 K0.1) Fa_JDBC_URL_min Fa_JDBC_URL_max) hZ (own_w hw 12 rfl) (own_w hw 6 rfl) (by decide) (by decide)) q77a q77c (g := (mkF m 14 #[iv p1, iv (10 : Int32), rv a_JDBC_URL] [(.ref a_JDBC_URL)])) rfl (by rw [hml]; rfl) (Steps.refl _) (argsL := []) (rest := []) (lenOf pd___Z_171 rfl) rfl (by show 2 * 0 + _ ≤ _; exact Nat.le_of_eq rfl) (hb hby at_14) (fun _ _ => ⟨rfl, e76, (by decide : 0 + 0 ≤ _), (by decide : 0 + 0 ≤ _)⟩)
    dsimp only [Pt.U, Pt.locs, Pt.cells, Pt.slots] at X77 l77 y77 z77 st77 hQ77
    subst l77 y77 z77
    obtain ⟨rfl, N77q, e77⟩ := hQ77
    skip
    have N77 := Fr.app N76 N77q
    refine own_tr st77 ?_
    show own_Fin p e below G (T77.setTop (mkF m 17 #[iv p1, iv (10 : Int32), rv a_JDBC_URL] [(.int (own_num (0 : Int32) (-1 : Int32)))]))
    refine own_st (fun _ k => XS.aloadN X77.here hx rfl (hb hby at_17) rfl rfl k) ?_
    show own_Fin p e below G (T77.setTop (mkF m 18 #[iv p1, iv (10 : Int32), rv a_JDBC_URL] [(.ref a_JDBC_URL), (.int (own_num (0 : Int32) (-1 : Int32)))]))
    obtain ⟨_, _, ⟨T78, L78, k78, n78⟩, -, X78, ⟨Lc78, hQ78, l78, y78, z78⟩, st78⟩ := Jvm.LawKit.callS X77 hx (y := own_y1) hown (mvT hZ (own_w hw 17 rfl)) (mvT hZ (own_w hw 18 rfl)) (mvT hZ (own_w hw 3 rfl)) (mvT hZ (own_w hw 19 rfl)) (by decide) (backOf (W := 1) (rm_six l Z a0 hw [] a_JDBC_URL a_COUNT a_PAGE_SIZE a_PASSWORD_LENGTH a_DAYS a_SECONDS a_PORT h0 n0 (Nat.le_trans Z0 K0.1) Sa_COUNT Sa_PAGE_SIZE Sa_PASSWORD_LENGTH Sa_DAYS Sa_SECONDS Sa_PORT) hZ (own_w hw 19 rfl) (own_w hw 3 rfl) (by decide) (by decide)) (g := (mkF m 18 #[iv p1, iv (10 : Int32), rv a_JDBC_URL] [(.ref a_JDBC_URL), (.int (own_num (0 : Int32) (-1 : Int32)))])) rfl (by rw [hml]; rfl) (argsL := [(.ref a_JDBC_URL)]) (rest := [(.int (own_num (0 : Int32) (-1 : Int32)))]) (lenOf pd__Lcom_example_rollkeeper_rollkeeper_core_Setting_Format__Z_589 rfl) rfl (by show 2 * 0 + _ ≤ _; exact Nat.le_of_eq rfl) (hb hby at_18) (fun _ _ => ⟨rfl, e77, (by decide : 0 + 0 ≤ _), (by decide : 0 + 0 ≤ _)⟩)
    dsimp only [Pt.U, Pt.locs, Pt.cells, Pt.slots] at X78 l78 y78 z78 st78 hQ78
    subst l78 y78 z78
    obtain ⟨rfl, N78q, e78⟩ := hQ78
    skip
    have N78 := Fr.app N77 N78q
    refine own_st st78 ?_
    show own_Fin p e below G (T78.setTop (mkF m 21 #[iv p1, iv (10 : Int32), rv a_JDBC_URL] [(.int (own_six a_JDBC_URL a_COUNT a_PAGE_SIZE a_PASSWORD_LENGTH a_DAYS a_SECONDS a_PORT)), (.int (own_num (0 : Int32) (-1 : Int32)))]))
    refine own_st (fun _ k => XS.icmpNo X78.here hx rfl (hb hby at_21) rfl (teq (by unfold own_num own_six; rw [if_neg ne_a_JDBC_URL_a_COUNT, if_neg ne_a_JDBC_URL_a_PAGE_SIZE, if_neg ne_a_JDBC_URL_a_PASSWORD_LENGTH, if_neg ne_a_JDBC_URL_a_DAYS, if_neg ne_a_JDBC_URL_a_SECONDS, if_neg ne_a_JDBC_URL_a_PORT]; decide)).2 k) ?_
    show own_Fin p e below G (T78.setTop (mkF m 24 #[iv p1, iv (10 : Int32), rv a_JDBC_URL] []))
    refine own_st (fun _ k => XS.iconst X78.here hx rfl (hb hby at_24) k) ?_
    show own_Fin p e below G (T78.setTop (mkF m 25 #[iv p1, iv (10 : Int32), rv a_JDBC_URL] [(.int (1 : Int32))]))
    refine own_st (fun _ k => XS.goto X78.here hx rfl (pc0 := 25) (pc' := 29) rfl (hb hby at_25) (by decide) (by decide) k) ?_
    show own_Fin p e below G (T78.setTop (mkF m 29 #[iv p1, iv (10 : Int32), rv a_JDBC_URL] [(.int (1 : Int32))]))
    refine own_out X78 Bd.notSynchronized (v := (some (.int (1 : Int32)))) (fun h => by rw [Bd.returns] at h; cases h) hG (fun fs hr => retN X78 hx (t := .boolean) Bd.returns (by simp) (hb hby at_29) hr) (by decide) (by decide) ?_
    exact ⟨rfl, N78⟩
  · show own_Fin p e below G (s₁.setTop (mkF m 8 #[iv p1, iv (11 : Int32), .unset] []))
    refine own_st (fun _ k => XS.iloadN X0.here hx rfl (hb hby at_8) rfl  k) ?_
    show own_Fin p e below G (s₁.setTop (mkF m 9 #[iv p1, iv (11 : Int32), .unset] [(.int (11 : Int32))]))
    obtain ⟨_, _, ⟨T79, L79, k79, n79⟩, -, X79, ⟨Lc79, hQ79, l79, y79, z79⟩, st79⟩ := Jvm.LawKit.callS X0 hx (y := own_y0) hown (mvT hZ (own_w hw 1 rfl)) (mvT hZ (own_w hw 2 rfl)) (mvT hZ (own_w hw 3 rfl)) (mvT hZ (own_w hw 4 rfl)) (by decide) (backOf (W := 0) (rm_pick l Z a0 hw [] (11 : Int32) a_FLAG a_COUNT a_PAGE_SIZE a_PASSWORD_LENGTH a_DAYS a_SECONDS a_PORT a_IP_ADDRESS a_OTP_CODE a_TENANT a_JDBC_URL a_HTTP_URL a_AES_KEY a_TEXT a_SECRET h0 n0 (Nat.le_trans Z0 K0.1) Sa_FLAG Sa_COUNT Sa_PAGE_SIZE Sa_PASSWORD_LENGTH Sa_DAYS Sa_SECONDS Sa_PORT Sa_IP_ADDRESS Sa_OTP_CODE Sa_TENANT Sa_JDBC_URL Sa_HTTP_URL Sa_AES_KEY Sa_TEXT Sa_SECRET) hZ (own_w hw 4 rfl) (own_w hw 3 rfl) (by decide) (by decide)) (g := (mkF m 9 #[iv p1, iv (11 : Int32), .unset] [(.int (11 : Int32))])) rfl (by rw [hml]; rfl) (argsL := [(.int (11 : Int32))]) (rest := []) (lenOf pd__I_Lcom_example_rollkeeper_rollkeeper_core_Setting_Format__572 rfl) rfl (by show 2 * 0 + _ ≤ _; exact Nat.le_of_eq rfl) (hb hby at_9) (fun _ _ => ⟨rfl, e0, (by decide : 0 + 0 ≤ _), (by decide : 0 + 0 ≤ _)⟩)
    dsimp only [Pt.U, Pt.locs, Pt.cells, Pt.slots] at X79 l79 y79 z79 st79 hQ79
    subst l79 y79 z79
    obtain ⟨rfl, N79q, e79⟩ := hQ79
    skip
    have N79 := Fr.app N0 N79q
    refine own_st st79 ?_
    show own_Fin p e below G (T79.setTop (mkF m 12 #[iv p1, iv (11 : Int32), .unset] [(.ref a_HTTP_URL)]))
    refine own_st (fun _ k => XS.astoreN X79.here hx rfl (hb hby at_12) rfl rfl (l' := #[iv p1, iv (11 : Int32), rv a_HTTP_URL]) rfl k) ?_
    show own_Fin p e below G (T79.setTop (mkF m 13 #[iv p1, iv (11 : Int32), rv a_HTTP_URL] []))
    refine own_st (fun _ k => XS.aloadN X79.here hx rfl (hb hby at_13) rfl rfl k) ?_
    show own_Fin p e below G (T79.setTop (mkF m 14 #[iv p1, iv (11 : Int32), rv a_HTTP_URL] [(.ref a_HTTP_URL)]))
    obtain ⟨cq80, kq80, q80a, q80b, q80c⟩ := isOf hZ e79 Ea_HTTP_URL
    obtain ⟨_, _, ⟨T80, L80, k80, n80⟩, -, X80, ⟨Lc80, hQ80, l80, y80, z80⟩, st80⟩ := X79.virtualBack hx (y := own_y2) (z := own_y2) hown (mvT hZ (own_w hw 8 rfl)) (mvT hZ (own_w hw 9 rfl)) (notFace_of_selects (args := #[]) (mvT hZ (own_w hw 11 rfl))) (mvT hZ (own_w hw 11 rfl)) (mvT hZ (own_w hw 10 rfl)) (by decide) (backOf (W := 0) (rm_num l Z a0 hw [] a_HTTP_URL (0 : Int32) (-1 : Int32) h0 n0 (Nat.le_trans Z0 K0.1) Fa_HTTP_URL_min Fa_HTTP_URL_max) hZ (own_w hw 12 rfl) (own_w hw 6 rfl) (by decide) (by decide)) q80a q80c (g := (mkF m 14 #[iv p1, iv (11 : Int32), rv a_HTTP_URL] [(.ref a_HTTP_URL)])) rfl (by rw [hml]; rfl) (Steps.refl _) (argsL := []) (rest := []) (lenOf pd___Z_171 rfl) rfl (by show 2 * 0 + _ ≤ _; exact Nat.le_of_eq rfl) (hb hby at_14) (fun _ _ => ⟨rfl, e79, (by decide : 0 + 0 ≤ _), (by decide : 0 + 0 ≤ _)⟩)
    dsimp only [Pt.U, Pt.locs, Pt.cells, Pt.slots] at X80 l80 y80 z80 st80 hQ80
    subst l80 y80 z80
    obtain ⟨rfl, N80q, e80⟩ := hQ80
    skip
    have N80 := Fr.app N79 N80q
    refine own_tr st80 ?_
    show own_Fin p e below G (T80.setTop (mkF m 17 #[iv p1, iv (11 : Int32), rv a_HTTP_URL] [(.int (own_num (0 : Int32) (-1 : Int32)))]))
    refine own_st (fun _ k => XS.aloadN X80.here hx rfl (hb hby at_17) rfl rfl k) ?_
    show own_Fin p e below G (T80.setTop (mkF m 18 #[iv p1, iv (11 : Int32), rv a_HTTP_URL] [(.ref a_HTTP_URL), (.int (own_num (0 : Int32) (-1 : Int32)))]))
    obtain ⟨_, _, ⟨T81, L81, k81, n81⟩, -, X81, ⟨Lc81, hQ81, l81, y81, z81⟩, st81⟩ := Jvm.LawKit.callS X80 hx (y := own_y1) hown (mvT hZ (own_w hw 17 rfl)) (mvT hZ (own_w hw 18 rfl)) (mvT hZ (own_w hw 3 rfl)) (mvT hZ (own_w hw 19 rfl)) (by decide) (backOf (W := 1) (rm_six l Z a0 hw [] a_HTTP_URL a_COUNT a_PAGE_SIZE a_PASSWORD_LENGTH a_DAYS a_SECONDS a_PORT h0 n0 (Nat.le_trans Z0 K0.1) Sa_COUNT Sa_PAGE_SIZE Sa_PASSWORD_LENGTH Sa_DAYS Sa_SECONDS Sa_PORT) hZ (own_w hw 19 rfl) (own_w hw 3 rfl) (by decide) (by decide)) (g := (mkF m 18 #[iv p1, iv (11 : Int32), rv a_HTTP_URL] [(.ref a_HTTP_URL), (.int (own_num (0 : Int32) (-1 : Int32)))])) rfl (by rw [hml]; rfl) (argsL := [(.ref a_HTTP_URL)]) (rest := [(.int (own_num (0 : Int32) (-1 : Int32)))]) (lenOf pd__Lcom_example_rollkeeper_rollkeeper_core_Setting_Format__Z_589 rfl) rfl (by show 2 * 0 + _ ≤ _; exact Nat.le_of_eq rfl) (hb hby at_18) (fun _ _ => ⟨rfl, e80, (by decide : 0 + 0 ≤ _), (by decide : 0 + 0 ≤ _)⟩)
    dsimp only [Pt.U, Pt.locs, Pt.cells, Pt.slots] at X81 l81 y81 z81 st81 hQ81
    subst l81 y81 z81
    obtain ⟨rfl, N81q, e81⟩ := hQ81
    skip
    have N81 := Fr.app N80 N81q
    refine own_st st81 ?_
    show own_Fin p e below G (T81.setTop (mkF m 21 #[iv p1, iv (11 : Int32), rv a_HTTP_URL] [(.int (own_six a_HTTP_URL a_COUNT a_PAGE_SIZE a_PASSWORD_LENGTH a_DAYS a_SECONDS a_PORT)), (.int (own_num (0 : Int32) (-1 : Int32)))]))
    refine own_st (fun _ k => XS.icmpNo X81.here hx rfl (hb hby at_21) rfl (teq (by unfold own_num own_six; rw [if_neg ne_a_HTTP_URL_a_COUNT, if_neg ne_a_HTTP_URL_a_PAGE_SIZE, if_neg ne_a_HTTP_URL_a_PASSWORD_LENGTH, if_neg ne_a_HTTP_URL_a_DAYS, if_neg ne_a_HTTP_URL_a_SECONDS, if_neg ne_a_HTTP_URL_a_PORT]; decide)).2 k) ?_
    show own_Fin p e below G (T81.setTop (mkF m 24 #[iv p1, iv (11 : Int32), rv a_HTTP_URL] []))
    refine own_st (fun _ k => XS.iconst X81.here hx rfl (hb hby at_24) k) ?_
    show own_Fin p e below G (T81.setTop (mkF m 25 #[iv p1, iv (11 : Int32), rv a_HTTP_URL] [(.int (1 : Int32))]))
    refine own_st (fun _ k => XS.goto X81.here hx rfl (pc0 := 25) (pc' := 29) rfl (hb hby at_25) (by decide) (by decide) k) ?_
    show own_Fin p e below G (T81.setTop (mkF m 29 #[iv p1, iv (11 : Int32), rv a_HTTP_URL] [(.int (1 : Int32))]))
    refine own_out X81 Bd.notSynchronized (v := (some (.int (1 : Int32)))) (fun h => by rw [Bd.returns] at h; cases h) hG (fun fs hr => retN X81 hx (t := .boolean) Bd.returns (by simp) (hb hby at_29) hr) (by decide) (by decide) ?_
    exact ⟨rfl, N81⟩
  · show own_Fin p e below G (s₁.setTop (mkF m 8 #[iv p1, iv (12 : Int32), .unset] []))
    refine own_st (fun _ k => XS.iloadN X0.here hx rfl (hb hby at_8) rfl  k) ?_
    show own_Fin p e below G (s₁.setTop (mkF m 9 #[iv p1, iv (12 : Int32), .unset] [(.int (12 : Int32))]))
    obtain ⟨_, _, ⟨T82, L82, k82, n82⟩, -, X82, ⟨Lc82, hQ82, l82, y82, z82⟩, st82⟩ := Jvm.LawKit.callS X0 hx (y := own_y0) hown (mvT hZ (own_w hw 1 rfl)) (mvT hZ (own_w hw 2 rfl)) (mvT hZ (own_w hw 3 rfl)) (mvT hZ (own_w hw 4 rfl)) (by decide) (backOf (W := 0) (rm_pick l Z a0 hw [] (12 : Int32) a_FLAG a_COUNT a_PAGE_SIZE a_PASSWORD_LENGTH a_DAYS a_SECONDS a_PORT a_IP_ADDRESS a_OTP_CODE a_TENANT a_JDBC_URL a_HTTP_URL a_AES_KEY a_TEXT a_SECRET h0 n0 (Nat.le_trans Z0 K0.1) Sa_FLAG Sa_COUNT Sa_PAGE_SIZE Sa_PASSWORD_LENGTH Sa_DAYS Sa_SECONDS Sa_PORT Sa_IP_ADDRESS Sa_OTP_CODE Sa_TENANT Sa_JDBC_URL Sa_HTTP_URL Sa_AES_KEY Sa_TEXT Sa_SECRET) hZ (own_w hw 4 rfl) (own_w hw 3 rfl) (by decide) (by decide)) (g := (mkF m 9 #[iv p1, iv (12 : Int32), .unset] [(.int (12 : Int32))])) rfl (by rw [hml]; rfl) (argsL := [(.int (12 : Int32))]) (rest := []) (lenOf pd__I_Lcom_example_rollkeeper_rollkeeper_core_Setting_Format__572 rfl) rfl (by show 2 * 0 + _ ≤ _; exact Nat.le_of_eq rfl) (hb hby at_9) (fun _ _ => ⟨rfl, e0, (by decide : 0 + 0 ≤ _), (by decide : 0 + 0 ≤ _)⟩)
    dsimp only [Pt.U, Pt.locs, Pt.cells, Pt.slots] at X82 l82 y82 z82 st82 hQ82
    subst l82 y82 z82
    obtain ⟨rfl, N82q, e82⟩ := hQ82
    skip
    have N82 := Fr.app N0 N82q
    refine own_st st82 ?_
    show own_Fin p e below G (T82.setTop (mkF m 12 #[iv p1, iv (12 : Int32), .unset] [(.ref a_AES_KEY)]))
    refine own_st (fun _ k => XS.astoreN X82.here hx rfl (hb hby at_12) rfl rfl (l' := #[iv p1, iv (12 : Int32), rv a_AES_KEY]) rfl k) ?_
    show own_Fin p e below G (T82.setTop (mkF m 13 #[iv p1, iv (12 : Int32), rv a_AES_KEY] []))
    refine own_st (fun _ k => XS.aloadN X82.here hx rfl (hb hby at_13) rfl rfl k) ?_
    show own_Fin p e below G (T82.setTop (mkF m 14 #[iv p1, iv (12 : Int32), rv a_AES_KEY] [(.ref a_AES_KEY)]))
    obtain ⟨cq83, kq83, q83a, q83b, q83c⟩ := isOf hZ e82 Ea_AES_KEY
    obtain ⟨_, _, ⟨T83, L83, k83, n83⟩, -, X83, ⟨Lc83, hQ83, l83, y83, z83⟩, st83⟩ := X82.virtualBack hx (y := own_y2) (z := own_y2) hown (mvT hZ (own_w hw 8 rfl)) (mvT hZ (own_w hw 9 rfl)) (notFace_of_selects (args := #[]) (mvT hZ (own_w hw 11 rfl))) (mvT hZ (own_w hw 11 rfl)) (mvT hZ (own_w hw 10 rfl)) (by decide) (backOf (W := 0) (rm_num l Z a0 hw [] a_AES_KEY (0 : Int32) (-1 : Int32) h0 n0 (Nat.le_trans Z0 K0.1) Fa_AES_KEY_min Fa_AES_KEY_max) hZ (own_w hw 12 rfl) (own_w hw 6 rfl) (by decide) (by decide)) q83a q83c (g := (mkF m 14 #[iv p1, iv (12 : Int32), rv a_AES_KEY] [(.ref a_AES_KEY)])) rfl (by rw [hml]; rfl) (Steps.refl _) (argsL := []) (rest := []) (lenOf pd___Z_171 rfl) rfl (by show 2 * 0 + _ ≤ _; exact Nat.le_of_eq rfl) (hb hby at_14) (fun _ _ => ⟨rfl, e82, (by decide : 0 + 0 ≤ _), (by decide : 0 + 0 ≤ _)⟩)
    dsimp only [Pt.U, Pt.locs, Pt.cells, Pt.slots] at X83 l83 y83 z83 st83 hQ83
    subst l83 y83 z83
    obtain ⟨rfl, N83q, e83⟩ := hQ83
    skip
    have N83 := Fr.app N82 N83q
    refine own_tr st83 ?_
    show own_Fin p e below G (T83.setTop (mkF m 17 #[iv p1, iv (12 : Int32), rv a_AES_KEY] [(.int (own_num (0 : Int32) (-1 : Int32)))]))
    refine own_st (fun _ k => XS.aloadN X83.here hx rfl (hb hby at_17) rfl rfl k) ?_
    show own_Fin p e below G (T83.setTop (mkF m 18 #[iv p1, iv (12 : Int32), rv a_AES_KEY] [(.ref a_AES_KEY), (.int (own_num (0 : Int32) (-1 : Int32)))]))
    obtain ⟨_, _, ⟨T84, L84, k84, n84⟩, -, X84, ⟨Lc84, hQ84, l84, y84, z84⟩, st84⟩ := Jvm.LawKit.callS X83 hx (y := own_y1) hown (mvT hZ (own_w hw 17 rfl)) (mvT hZ (own_w hw 18 rfl)) (mvT hZ (own_w hw 3 rfl)) (mvT hZ (own_w hw 19 rfl)) (by decide) (backOf (W := 1) (rm_six l Z a0 hw [] a_AES_KEY a_COUNT a_PAGE_SIZE a_PASSWORD_LENGTH a_DAYS a_SECONDS a_PORT h0 n0 (Nat.le_trans Z0 K0.1) Sa_COUNT Sa_PAGE_SIZE Sa_PASSWORD_LENGTH Sa_DAYS Sa_SECONDS Sa_PORT) hZ (own_w hw 19 rfl) (own_w hw 3 rfl) (by decide) (by decide)) (g := (mkF m 18 #[iv p1, iv (12 : Int32), rv a_AES_KEY] [(.ref a_AES_KEY), (.int (own_num (0 : Int32) (-1 : Int32)))])) rfl (by rw [hml]; rfl) (argsL := [(.ref a_AES_KEY)]) (rest := [(.int (own_num (0 : Int32) (-1 : Int32)))]) (lenOf pd__Lcom_example_rollkeeper_rollkeeper_core_Setting_Format__Z_589 rfl) rfl (by show 2 * 0 + _ ≤ _; exact Nat.le_of_eq rfl) (hb hby at_18) (fun _ _ => ⟨rfl, e83, (by decide : 0 + 0 ≤ _), (by decide : 0 + 0 ≤ _)⟩)
    dsimp only [Pt.U, Pt.locs, Pt.cells, Pt.slots] at X84 l84 y84 z84 st84 hQ84
    subst l84 y84 z84
    obtain ⟨rfl, N84q, e84⟩ := hQ84
    skip
    have N84 := Fr.app N83 N84q
    refine own_st st84 ?_
    show own_Fin p e below G (T84.setTop (mkF m 21 #[iv p1, iv (12 : Int32), rv a_AES_KEY] [(.int (own_six a_AES_KEY a_COUNT a_PAGE_SIZE a_PASSWORD_LENGTH a_DAYS a_SECONDS a_PORT)), (.int (own_num (0 : Int32) (-1 : Int32)))]))
    refine own_st (fun _ k => XS.icmpNo X84.here hx rfl (hb hby at_21) rfl (teq (by unfold own_num own_six; rw [if_neg ne_a_AES_KEY_a_COUNT, if_neg ne_a_AES_KEY_a_PAGE_SIZE, if_neg ne_a_AES_KEY_a_PASSWORD_LENGTH, if_neg ne_a_AES_KEY_a_DAYS, if_neg ne_a_AES_KEY_a_SECONDS, if_neg ne_a_AES_KEY_a_PORT]; decide)).2 k) ?_
    show own_Fin p e below G (T84.setTop (mkF m 24 #[iv p1, iv (12 : Int32), rv a_AES_KEY] []))
    refine own_st (fun _ k => XS.iconst X84.here hx rfl (hb hby at_24) k) ?_
    show own_Fin p e below G (T84.setTop (mkF m 25 #[iv p1, iv (12 : Int32), rv a_AES_KEY] [(.int (1 : Int32))]))
    refine own_st (fun _ k => XS.goto X84.here hx rfl (pc0 := 25) (pc' := 29) rfl (hb hby at_25) (by decide) (by decide) k) ?_
    show own_Fin p e below G (T84.setTop (mkF m 29 #[iv p1, iv (12 : Int32), rv a_AES_KEY] [(.int (1 : Int32))]))
    refine own_out X84 Bd.notSynchronized (v := (some (.int (1 : Int32)))) (fun h => by rw [Bd.returns] at h; cases h) hG (fun fs hr => retN X84 hx (t := .boolean) Bd.returns (by simp) (hb hby at_29) hr) (by decide) (by decide) ?_
    exact ⟨rfl, N84⟩
  · show own_Fin p e below G (s₁.setTop (mkF m 8 #[iv p1, iv (13 : Int32), .unset] []))
    refine own_st (fun _ k => XS.iloadN X0.here hx rfl (hb hby at_8) rfl  k) ?_
    show own_Fin p e below G (s₁.setTop (mkF m 9 #[iv p1, iv (13 : Int32), .unset] [(.int (13 : Int32))]))
    obtain ⟨_, _, ⟨T85, L85, k85, n85⟩, -, X85, ⟨Lc85, hQ85, l85, y85, z85⟩, st85⟩ := Jvm.LawKit.callS X0 hx (y := own_y0) hown (mvT hZ (own_w hw 1 rfl)) (mvT hZ (own_w hw 2 rfl)) (mvT hZ (own_w hw 3 rfl)) (mvT hZ (own_w hw 4 rfl)) (by decide) (backOf (W := 0) (rm_pick l Z a0 hw [] (13 : Int32) a_FLAG a_COUNT a_PAGE_SIZE a_PASSWORD_LENGTH a_DAYS a_SECONDS a_PORT a_IP_ADDRESS a_OTP_CODE a_TENANT a_JDBC_URL a_HTTP_URL a_AES_KEY a_TEXT a_SECRET h0 n0 (Nat.le_trans Z0 K0.1) Sa_FLAG Sa_COUNT Sa_PAGE_SIZE Sa_PASSWORD_LENGTH Sa_DAYS Sa_SECONDS Sa_PORT Sa_IP_ADDRESS Sa_OTP_CODE Sa_TENANT Sa_JDBC_URL Sa_HTTP_URL Sa_AES_KEY Sa_TEXT Sa_SECRET) hZ (own_w hw 4 rfl) (own_w hw 3 rfl) (by decide) (by decide)) (g := (mkF m 9 #[iv p1, iv (13 : Int32), .unset] [(.int (13 : Int32))])) rfl (by rw [hml]; rfl) (argsL := [(.int (13 : Int32))]) (rest := []) (lenOf pd__I_Lcom_example_rollkeeper_rollkeeper_core_Setting_Format__572 rfl) rfl (by show 2 * 0 + _ ≤ _; exact Nat.le_of_eq rfl) (hb hby at_9) (fun _ _ => ⟨rfl, e0, (by decide : 0 + 0 ≤ _), (by decide : 0 + 0 ≤ _)⟩)
    dsimp only [Pt.U, Pt.locs, Pt.cells, Pt.slots] at X85 l85 y85 z85 st85 hQ85
    subst l85 y85 z85
    obtain ⟨rfl, N85q, e85⟩ := hQ85
    skip
    have N85 := Fr.app N0 N85q
    refine own_st st85 ?_
    show own_Fin p e below G (T85.setTop (mkF m 12 #[iv p1, iv (13 : Int32), .unset] [(.ref a_TEXT)]))
    refine own_st (fun _ k => XS.astoreN X85.here hx rfl (hb hby at_12) rfl rfl (l' := #[iv p1, iv (13 : Int32), rv a_TEXT]) rfl k) ?_
    show own_Fin p e below G (T85.setTop (mkF m 13 #[iv p1, iv (13 : Int32), rv a_TEXT] []))
    refine own_st (fun _ k => XS.aloadN X85.here hx rfl (hb hby at_13) rfl rfl k) ?_
    show own_Fin p e below G (T85.setTop (mkF m 14 #[iv p1, iv (13 : Int32), rv a_TEXT] [(.ref a_TEXT)]))
    obtain ⟨cq86, kq86, q86a, q86b, q86c⟩ := isOf hZ e85 Ea_TEXT
    obtain ⟨_, _, ⟨T86, L86, k86, n86⟩, -, X86, ⟨Lc86, hQ86, l86, y86, z86⟩, st86⟩ := X85.virtualBack hx (y := own_y2) (z := own_y2) hown (mvT hZ (own_w hw 8 rfl)) (mvT hZ (own_w hw 9 rfl)) (notFace_of_selects (args := #[]) (mvT hZ (own_w hw 11 rfl))) (mvT hZ (own_w hw 11 rfl)) (mvT hZ (own_w hw 10 rfl)) (by decide) (backOf (W := 0) (rm_num l Z a0 hw [] a_TEXT (0 : Int32) (-1 : Int32) h0 n0 (Nat.le_trans Z0 K0.1) Fa_TEXT_min Fa_TEXT_max) hZ (own_w hw 12 rfl) (own_w hw 6 rfl) (by decide) (by decide)) q86a q86c (g := (mkF m 14 #[iv p1, iv (13 : Int32), rv a_TEXT] [(.ref a_TEXT)])) rfl (by rw [hml]; rfl) (Steps.refl _) (argsL := []) (rest := []) (lenOf pd___Z_171 rfl) rfl (by show 2 * 0 + _ ≤ _; exact Nat.le_of_eq rfl) (hb hby at_14) (fun _ _ => ⟨rfl, e85, (by decide : 0 + 0 ≤ _), (by decide : 0 + 0 ≤ _)⟩)
    dsimp only [Pt.U, Pt.locs, Pt.cells, Pt.slots] at X86 l86 y86 z86 st86 hQ86
    subst l86 y86 z86
    obtain ⟨rfl, N86q, e86⟩ := hQ86
    skip
    have N86 := Fr.app N85 N86q
    refine own_tr st86 ?_
    show own_Fin p e below G (T86.setTop (mkF m 17 #[iv p1, iv (13 : Int32), rv a_TEXT] [(.int (own_num (0 : Int32) (-1 : Int32)))]))
    refine own_st (fun _ k => XS.aloadN X86.here hx rfl (hb hby at_17) rfl rfl k) ?_
    show own_Fin p e below G (T86.setTop (mkF m 18 #[iv p1, iv (13 : Int32), rv a_TEXT] [(.ref a_TEXT), (.int (own_num (0 : Int32) (-1 : Int32)))]))
    obtain ⟨_, _, ⟨T87, L87, k87, n87⟩, -, X87, ⟨Lc87, hQ87, l87, y87, z87⟩, st87⟩ := Jvm.LawKit.callS X86 hx (y := own_y1) hown (mvT hZ (own_w hw 17 rfl)) (mvT hZ (own_w hw 18 rfl)) (mvT hZ (own_w hw 3 rfl)) (mvT hZ (own_w hw 19 rfl)) (by decide) (backOf (W := 1) (rm_six l Z a0 hw [] a_TEXT a_COUNT a_PAGE_SIZE a_PASSWORD_LENGTH a_DAYS a_SECONDS a_PORT h0 n0 (Nat.le_trans Z0 K0.1) Sa_COUNT Sa_PAGE_SIZE Sa_PASSWORD_LENGTH Sa_DAYS Sa_SECONDS Sa_PORT) hZ (own_w hw 19 rfl) (own_w hw 3 rfl) (by decide) (by decide)) (g := (mkF m 18 #[iv p1, iv (13 : Int32), rv a_TEXT] [(.ref a_TEXT), (.int (own_num (0 : Int32) (-1 : Int32)))])) rfl (by rw [hml]; rfl) (argsL := [(.ref a_TEXT)]) (rest := [(.int (own_num (0 : Int32) (-1 : Int32)))]) (lenOf pd__Lcom_example_rollkeeper_rollkeeper_core_Setting_Format__Z_589 rfl) rfl (by show 2 * 0 + _ ≤ _; exact Nat.le_of_eq rfl) (hb hby at_18) (fun _ _ => ⟨rfl, e86, (by decide : 0 + 0 ≤ _), (by decide : 0 + 0 ≤ _)⟩)
    dsimp only [Pt.U, Pt.locs, Pt.cells, Pt.slots] at X87 l87 y87 z87 st87 hQ87
    subst l87 y87 z87
    obtain ⟨rfl, N87q, e87⟩ := hQ87
    skip
    have N87 := Fr.app N86 N87q
    refine own_st st87 ?_
    show own_Fin p e below G (T87.setTop (mkF m 21 #[iv p1, iv (13 : Int32), rv a_TEXT] [(.int (own_six a_TEXT a_COUNT a_PAGE_SIZE a_PASSWORD_LENGTH a_DAYS a_SECONDS a_PORT)), (.int (own_num (0 : Int32) (-1 : Int32)))]))
    refine own_st (fun _ k => XS.icmpNo X87.here hx rfl (hb hby at_21) rfl (teq (by unfold own_num own_six; rw [if_neg ne_a_TEXT_a_COUNT, if_neg ne_a_TEXT_a_PAGE_SIZE, if_neg ne_a_TEXT_a_PASSWORD_LENGTH, if_neg ne_a_TEXT_a_DAYS, if_neg ne_a_TEXT_a_SECONDS, if_neg ne_a_TEXT_a_PORT]; decide)).2 k) ?_
    show own_Fin p e below G (T87.setTop (mkF m 24 #[iv p1, iv (13 : Int32), rv a_TEXT] []))
    refine own_st (fun _ k => XS.iconst X87.here hx rfl (hb hby at_24) k) ?_
    show own_Fin p e below G (T87.setTop (mkF m 25 #[iv p1, iv (13 : Int32), rv a_TEXT] [(.int (1 : Int32))]))
    refine own_st (fun _ k => XS.goto X87.here hx rfl (pc0 := 25) (pc' := 29) rfl (hb hby at_25) (by decide) (by decide) k) ?_
    show own_Fin p e below G (T87.setTop (mkF m 29 #[iv p1, iv (13 : Int32), rv a_TEXT] [(.int (1 : Int32))]))
    refine own_out X87 Bd.notSynchronized (v := (some (.int (1 : Int32)))) (fun h => by rw [Bd.returns] at h; cases h) hG (fun fs hr => retN X87 hx (t := .boolean) Bd.returns (by simp) (hb hby at_29) hr) (by decide) (by decide) ?_
    exact ⟨rfl, N87⟩
  · show own_Fin p e below G (s₁.setTop (mkF m 8 #[iv p1, iv (14 : Int32), .unset] []))
    refine own_st (fun _ k => XS.iloadN X0.here hx rfl (hb hby at_8) rfl  k) ?_
    show own_Fin p e below G (s₁.setTop (mkF m 9 #[iv p1, iv (14 : Int32), .unset] [(.int (14 : Int32))]))
    obtain ⟨_, _, ⟨T88, L88, k88, n88⟩, -, X88, ⟨Lc88, hQ88, l88, y88, z88⟩, st88⟩ := Jvm.LawKit.callS X0 hx (y := own_y0) hown (mvT hZ (own_w hw 1 rfl)) (mvT hZ (own_w hw 2 rfl)) (mvT hZ (own_w hw 3 rfl)) (mvT hZ (own_w hw 4 rfl)) (by decide) (backOf (W := 0) (rm_pick l Z a0 hw [] (14 : Int32) a_FLAG a_COUNT a_PAGE_SIZE a_PASSWORD_LENGTH a_DAYS a_SECONDS a_PORT a_IP_ADDRESS a_OTP_CODE a_TENANT a_JDBC_URL a_HTTP_URL a_AES_KEY a_TEXT a_SECRET h0 n0 (Nat.le_trans Z0 K0.1) Sa_FLAG Sa_COUNT Sa_PAGE_SIZE Sa_PASSWORD_LENGTH Sa_DAYS Sa_SECONDS Sa_PORT Sa_IP_ADDRESS Sa_OTP_CODE Sa_TENANT Sa_JDBC_URL Sa_HTTP_URL Sa_AES_KEY Sa_TEXT Sa_SECRET) hZ (own_w hw 4 rfl) (own_w hw 3 rfl) (by decide) (by decide)) (g := (mkF m 9 #[iv p1, iv (14 : Int32), .unset] [(.int (14 : Int32))])) rfl (by rw [hml]; rfl) (argsL := [(.int (14 : Int32))]) (rest := []) (lenOf pd__I_Lcom_example_rollkeeper_rollkeeper_core_Setting_Format__572 rfl) rfl (by show 2 * 0 + _ ≤ _; exact Nat.le_of_eq rfl) (hb hby at_9) (fun _ _ => ⟨rfl, e0, (by decide : 0 + 0 ≤ _), (by decide : 0 + 0 ≤ _)⟩)
    dsimp only [Pt.U, Pt.locs, Pt.cells, Pt.slots] at X88 l88 y88 z88 st88 hQ88
    subst l88 y88 z88
    obtain ⟨rfl, N88q, e88⟩ := hQ88
    skip
    have N88 := Fr.app N0 N88q
    refine own_st st88 ?_
    show own_Fin p e below G (T88.setTop (mkF m 12 #[iv p1, iv (14 : Int32), .unset] [(.ref a_SECRET)]))
    refine own_st (fun _ k => XS.astoreN X88.here hx rfl (hb hby at_12) rfl rfl (l' := #[iv p1, iv (14 : Int32), rv a_SECRET]) rfl k) ?_
    show own_Fin p e below G (T88.setTop (mkF m 13 #[iv p1, iv (14 : Int32), rv a_SECRET] []))
    refine own_st (fun _ k => XS.aloadN X88.here hx rfl (hb hby at_13) rfl rfl k) ?_
    show own_Fin p e below G (T88.setTop (mkF m 14 #[iv p1, iv (14 : Int32), rv a_SECRET] [(.ref a_SECRET)]))
    obtain ⟨cq89, kq89, q89a, q89b, q89c⟩ := isOf hZ e88 Ea_SECRET
    obtain ⟨_, _, ⟨T89, L89, k89, n89⟩, -, X89, ⟨Lc89, hQ89, l89, y89, z89⟩, st89⟩ := X88.virtualBack hx (y := own_y2) (z := own_y2) hown (mvT hZ (own_w hw 8 rfl)) (mvT hZ (own_w hw 9 rfl)) (notFace_of_selects (args := #[]) (mvT hZ (own_w hw 11 rfl))) (mvT hZ (own_w hw 11 rfl)) (mvT hZ (own_w hw 10 rfl)) (by decide) (backOf (W := 0) (rm_num l Z a0 hw [] a_SECRET (0 : Int32) (-1 : Int32) h0 n0 (Nat.le_trans Z0 K0.1) Fa_SECRET_min Fa_SECRET_max) hZ (own_w hw 12 rfl) (own_w hw 6 rfl) (by decide) (by decide)) q89a q89c (g := (mkF m 14 #[iv p1, iv (14 : Int32), rv a_SECRET] [(.ref a_SECRET)])) rfl (by rw [hml]; rfl) (Steps.refl _) (argsL := []) (rest := []) (lenOf pd___Z_171 rfl) rfl (by show 2 * 0 + _ ≤ _; exact Nat.le_of_eq rfl) (hb hby at_14) (fun _ _ => ⟨rfl, e88, (by decide : 0 + 0 ≤ _), (by decide : 0 + 0 ≤ _)⟩)
    dsimp only [Pt.U, Pt.locs, Pt.cells, Pt.slots] at X89 l89 y89 z89 st89 hQ89
    subst l89 y89 z89
    obtain ⟨rfl, N89q, e89⟩ := hQ89
    skip
    have N89 := Fr.app N88 N89q
    refine own_tr st89 ?_
    show own_Fin p e below G (T89.setTop (mkF m 17 #[iv p1, iv (14 : Int32), rv a_SECRET] [(.int (own_num (0 : Int32) (-1 : Int32)))]))
    refine own_st (fun _ k => XS.aloadN X89.here hx rfl (hb hby at_17) rfl rfl k) ?_
    show own_Fin p e below G (T89.setTop (mkF m 18 #[iv p1, iv (14 : Int32), rv a_SECRET] [(.ref a_SECRET), (.int (own_num (0 : Int32) (-1 : Int32)))]))
    obtain ⟨_, _, ⟨T90, L90, k90, n90⟩, -, X90, ⟨Lc90, hQ90, l90, y90, z90⟩, st90⟩ := Jvm.LawKit.callS X89 hx (y := own_y1) hown (mvT hZ (own_w hw 17 rfl)) (mvT hZ (own_w hw 18 rfl)) (mvT hZ (own_w hw 3 rfl)) (mvT hZ (own_w hw 19 rfl)) (by decide) (backOf (W := 1) (rm_six l Z a0 hw [] a_SECRET a_COUNT a_PAGE_SIZE a_PASSWORD_LENGTH a_DAYS a_SECONDS a_PORT h0 n0 (Nat.le_trans Z0 K0.1) Sa_COUNT Sa_PAGE_SIZE Sa_PASSWORD_LENGTH Sa_DAYS Sa_SECONDS Sa_PORT) hZ (own_w hw 19 rfl) (own_w hw 3 rfl) (by decide) (by decide)) (g := (mkF m 18 #[iv p1, iv (14 : Int32), rv a_SECRET] [(.ref a_SECRET), (.int (own_num (0 : Int32) (-1 : Int32)))])) rfl (by rw [hml]; rfl) (argsL := [(.ref a_SECRET)]) (rest := [(.int (own_num (0 : Int32) (-1 : Int32)))]) (lenOf pd__Lcom_example_rollkeeper_rollkeeper_core_Setting_Format__Z_589 rfl) rfl (by show 2 * 0 + _ ≤ _; exact Nat.le_of_eq rfl) (hb hby at_18) (fun _ _ => ⟨rfl, e89, (by decide : 0 + 0 ≤ _), (by decide : 0 + 0 ≤ _)⟩)
    dsimp only [Pt.U, Pt.locs, Pt.cells, Pt.slots] at X90 l90 y90 z90 st90 hQ90
    subst l90 y90 z90
    obtain ⟨rfl, N90q, e90⟩ := hQ90
    skip
    have N90 := Fr.app N89 N90q
    refine own_st st90 ?_
    show own_Fin p e below G (T90.setTop (mkF m 21 #[iv p1, iv (14 : Int32), rv a_SECRET] [(.int (own_six a_SECRET a_COUNT a_PAGE_SIZE a_PASSWORD_LENGTH a_DAYS a_SECONDS a_PORT)), (.int (own_num (0 : Int32) (-1 : Int32)))]))
    refine own_st (fun _ k => XS.icmpNo X90.here hx rfl (hb hby at_21) rfl (teq (by unfold own_num own_six; rw [if_neg ne_a_SECRET_a_COUNT, if_neg ne_a_SECRET_a_PAGE_SIZE, if_neg ne_a_SECRET_a_PASSWORD_LENGTH, if_neg ne_a_SECRET_a_DAYS, if_neg ne_a_SECRET_a_SECONDS, if_neg ne_a_SECRET_a_PORT]; decide)).2 k) ?_
    show own_Fin p e below G (T90.setTop (mkF m 24 #[iv p1, iv (14 : Int32), rv a_SECRET] []))
    refine own_st (fun _ k => XS.iconst X90.here hx rfl (hb hby at_24) k) ?_
    show own_Fin p e below G (T90.setTop (mkF m 25 #[iv p1, iv (14 : Int32), rv a_SECRET] [(.int (1 : Int32))]))
    refine own_st (fun _ k => XS.goto X90.here hx rfl (pc0 := 25) (pc' := 29) rfl (hb hby at_25) (by decide) (by decide) k) ?_
    show own_Fin p e below G (T90.setTop (mkF m 29 #[iv p1, iv (14 : Int32), rv a_SECRET] [(.int (1 : Int32))]))
    refine own_out X90 Bd.notSynchronized (v := (some (.int (1 : Int32)))) (fun h => by rw [Bd.returns] at h; cases h) hG (fun fs hr => retN X90 hx (t := .boolean) Bd.returns (by simp) (hb hby at_29) hr) (by decide) (by decide) ?_
    exact ⟨rfl, N90⟩

set_option maxRecDepth 65536 in
set_option maxHeartbeats 40000000 in
theorem comes_1 {Post : Tables → Env → Array Value → State → Outcome → State → Prop} (hpost : ∀ tb e args s v u, (limb_1_1.after args s (.returned v) u = true ∧ limb_1_2.after args s (.returned v) u = true ∧ True) → FrameEnd s (.returned v) u (Jvm.fieldLocs frame_1_writes args s ++ Jvm.arrayLocs frame_1_arrays args s ++ Jvm.staticLocs frame_1_statics s) 0 0 → Post tb e args s (.returned v) u) :
    ArmFor flags0 classFile x code maxLocals ret World_1 tables_1 room_1 Calls_1 rest_1 Pre_1 Post := by
  intro l hfl _ _ p e ha hc hk s m args below hf hA hF happ hP
  obtain ⟨hcalls, hrest, hpre⟩ := hP
  obtain ⟨-, -, -, hnamed, -, -, -, hat⟩ := (Spec.applies_iff hf).mp happ
  obtain ⟨hg, hn⟩ := and_e (Cond.before_iff.mp (show (Jvm.Cond.and given_1 narrow_1).before args s = true from hpre))
  obtain ⟨hg0, hh0⟩ := and_e hg
  obtain ⟨w0, rfl⟩ : ∃ w0 : Value, args = #[w0] := by
    have hs : args.size = 1 := by simpa [Cond.value, given_1] using hg0
    obtain ⟨L⟩ := args
    match L, hs with
    | [w0], _ => exact ⟨w0, rfl⟩
  have hw := fun d (hd : d ∈ tables_1) => atoms_spec (ws := Jvm.Cond.code x code maxLocals ret :: tables_1) hat d (List.mem_cons_of_mem _ hd)
  have hfit : Fit s := fun {y c} hc i hi => by
    obtain ⟨ha, rfl⟩ := Array.getElem?_eq_some_iff.mp hc
    have q := List.all_eq_true.mp ((Array.all_eq_true_iff_forall_mem.mp hF) _ (Array.getElem_mem ha)) i (List.mem_range.mpr hi)
    simpa [Array.getElem?_eq_getElem hi] using q
  obtain ⟨i0, ei0⟩ := is_v hh0
  obtain rfl : w0 = (.int i0) := Option.some.inj ei0
  obtain ⟨hn0, hm0⟩ := and_e hn
  obtain ⟨hn1, hm1⟩ := and_e hm0
  obtain ⟨hn2, hm2⟩ := and_e hm1
  obtain ⟨hn3, hm3⟩ := and_e hm2
  obtain ⟨hn4, hm4⟩ := and_e hm3
  obtain ⟨hn5, hm5⟩ := and_e hm4
  obtain ⟨hn6, hm6⟩ := and_e hm5
  obtain ⟨hn7, hm7⟩ := and_e hm6
  obtain ⟨hn8, hm8⟩ := and_e hm7
  obtain ⟨hn9, hm9⟩ := and_e hm8
  obtain ⟨hn10, hm10⟩ := and_e hm9
  obtain ⟨hn11, hm11⟩ := and_e hm10
  obtain ⟨hn12, hm12⟩ := and_e hm11
  obtain ⟨hn13, hm13⟩ := and_e hm12
  obtain ⟨hn14, hm14⟩ := and_e hm13
  obtain ⟨hn15, hm15⟩ := and_e hm14
  obtain ⟨hn16, hm16⟩ := and_e hm15
  obtain ⟨hn17, hm17⟩ := and_e hm16
  obtain ⟨hn18, hm18⟩ := and_e hm17
  obtain ⟨hn19, hm19⟩ := and_e hm18
  obtain ⟨hn20, hm20⟩ := and_e hm19
  obtain ⟨hn21, hm21⟩ := and_e hm20
  obtain ⟨hn22, hm22⟩ := and_e hm21
  obtain ⟨hn23, hm23⟩ := and_e hm22
  obtain ⟨hn24, hm24⟩ := and_e hm23
  obtain ⟨hn25, hm25⟩ := and_e hm24
  obtain ⟨hn26, hm26⟩ := and_e hm25
  obtain ⟨hn27, hm27⟩ := and_e hm26
  obtain ⟨hn28, hm28⟩ := and_e hm27
  obtain ⟨hn29, hm29⟩ := and_e hm28
  obtain ⟨hn30, hm30⟩ := and_e hm29
  obtain ⟨hn31, hm31⟩ := and_e hm30
  obtain ⟨hn32, hm32⟩ := and_e hm31
  obtain ⟨hn33, hm33⟩ := and_e hm32
  obtain ⟨hn34, hm34⟩ := and_e hm33
  obtain ⟨hn35, hm35⟩ := and_e hm34
  obtain ⟨hn36, hm36⟩ := and_e hm35
  obtain ⟨hn37, hm37⟩ := and_e hm36
  obtain ⟨hn38, hm38⟩ := and_e hm37
  obtain ⟨hn39, hm39⟩ := and_e hm38
  obtain ⟨hn40, hm40⟩ := and_e hm39
  obtain ⟨hn41, hm41⟩ := and_e hm40
  obtain ⟨hn42, hm42⟩ := and_e hm41
  obtain ⟨hn43, hm43⟩ := and_e hm42
  obtain ⟨hn44, hm44⟩ := and_e hm43
  obtain ⟨hn45, hm45⟩ := and_e hm44
  obtain ⟨hn46, hm46⟩ := and_e hm45
  obtain ⟨hn47, hm47⟩ := and_e hm46
  obtain ⟨hn48, hm48⟩ := and_e hm47
  obtain ⟨hn49, hm49⟩ := and_e hm48
  obtain ⟨hn50, hm50⟩ := and_e hm49
  obtain ⟨hn51, hm51⟩ := and_e hm50
  obtain ⟨hn52, hm52⟩ := and_e hm51
  obtain ⟨hn53, hm53⟩ := and_e hm52
  obtain ⟨hn54, hm54⟩ := and_e hm53
  obtain ⟨hn55, hm55⟩ := and_e hm54
  obtain ⟨hn56, hm56⟩ := and_e hm55
  obtain ⟨hn57, hm57⟩ := and_e hm56
  obtain ⟨hn58, hm58⟩ := and_e hm57
  obtain ⟨a_FLAG, ea_FLAG⟩ := exa_v hn0
  have Ea_FLAG := Exa.start ea_FLAG hn0
  have Sa_FLAG := Sta.start ea_FLAG (Or.inr ⟨(own_w hw 6 rfl), (own_w hw 7 rfl)⟩)
  obtain ⟨a_COUNT, ea_COUNT⟩ := exa_v hn3
  have Ea_COUNT := Exa.start ea_COUNT hn3
  have Sa_COUNT := Sta.start ea_COUNT (Or.inr ⟨(own_w hw 6 rfl), (own_w hw 21 rfl)⟩)
  obtain ⟨a_PAGE_SIZE, ea_PAGE_SIZE⟩ := exa_v hn6
  have Ea_PAGE_SIZE := Exa.start ea_PAGE_SIZE hn6
  have Sa_PAGE_SIZE := Sta.start ea_PAGE_SIZE (Or.inr ⟨(own_w hw 6 rfl), (own_w hw 23 rfl)⟩)
  obtain ⟨a_PASSWORD_LENGTH, ea_PASSWORD_LENGTH⟩ := exa_v hn8
  have Ea_PASSWORD_LENGTH := Exa.start ea_PASSWORD_LENGTH hn8
  have Sa_PASSWORD_LENGTH := Sta.start ea_PASSWORD_LENGTH (Or.inr ⟨(own_w hw 6 rfl), (own_w hw 25 rfl)⟩)
  obtain ⟨a_DAYS, ea_DAYS⟩ := exa_v hn10
  have Ea_DAYS := Exa.start ea_DAYS hn10
  have Sa_DAYS := Sta.start ea_DAYS (Or.inr ⟨(own_w hw 6 rfl), (own_w hw 27 rfl)⟩)
  obtain ⟨a_SECONDS, ea_SECONDS⟩ := exa_v hn12
  have Ea_SECONDS := Exa.start ea_SECONDS hn12
  have Sa_SECONDS := Sta.start ea_SECONDS (Or.inr ⟨(own_w hw 6 rfl), (own_w hw 29 rfl)⟩)
  obtain ⟨a_PORT, ea_PORT⟩ := exa_v hn14
  have Ea_PORT := Exa.start ea_PORT hn14
  have Sa_PORT := Sta.start ea_PORT (Or.inr ⟨(own_w hw 6 rfl), (own_w hw 31 rfl)⟩)
  obtain ⟨a_TEXT, ea_TEXT⟩ := exa_v hn20
  have Ea_TEXT := Exa.start ea_TEXT hn20
  have Sa_TEXT := Sta.start ea_TEXT (Or.inr ⟨(own_w hw 6 rfl), (own_w hw 33 rfl)⟩)
  obtain ⟨a_SECRET, ea_SECRET⟩ := exa_v hn26
  have Ea_SECRET := Exa.start ea_SECRET hn26
  have Sa_SECRET := Sta.start ea_SECRET (Or.inr ⟨(own_w hw 6 rfl), (own_w hw 35 rfl)⟩)
  obtain ⟨a_IP_ADDRESS, ea_IP_ADDRESS⟩ := exa_v hn30
  have Ea_IP_ADDRESS := Exa.start ea_IP_ADDRESS hn30
  have Sa_IP_ADDRESS := Sta.start ea_IP_ADDRESS (Or.inr ⟨(own_w hw 6 rfl), (own_w hw 37 rfl)⟩)
  obtain ⟨a_HTTP_URL, ea_HTTP_URL⟩ := exa_v hn36
  have Ea_HTTP_URL := Exa.start ea_HTTP_URL hn36
  have Sa_HTTP_URL := Sta.start ea_HTTP_URL (Or.inr ⟨(own_w hw 6 rfl), (own_w hw 39 rfl)⟩)
  obtain ⟨a_JDBC_URL, ea_JDBC_URL⟩ := exa_v hn40
  have Ea_JDBC_URL := Exa.start ea_JDBC_URL hn40
  have Sa_JDBC_URL := Sta.start ea_JDBC_URL (Or.inr ⟨(own_w hw 6 rfl), (own_w hw 41 rfl)⟩)
  obtain ⟨a_OTP_CODE, ea_OTP_CODE⟩ := exa_v hn44
  have Ea_OTP_CODE := Exa.start ea_OTP_CODE hn44
  have Sa_OTP_CODE := Sta.start ea_OTP_CODE (Or.inr ⟨(own_w hw 6 rfl), (own_w hw 43 rfl)⟩)
  obtain ⟨a_AES_KEY, ea_AES_KEY⟩ := exa_v hn50
  have Ea_AES_KEY := Exa.start ea_AES_KEY hn50
  have Sa_AES_KEY := Sta.start ea_AES_KEY (Or.inr ⟨(own_w hw 6 rfl), (own_w hw 45 rfl)⟩)
  obtain ⟨a_TENANT, ea_TENANT⟩ := exa_v hn56
  have Ea_TENANT := Exa.start ea_TENANT hn56
  have Sa_TENANT := Sta.start ea_TENANT (Or.inr ⟨(own_w hw 6 rfl), (own_w hw 47 rfl)⟩)
  have Fa_FLAG_min := Fld.start ((fld_at ea_FLAG).symm.trans (own_eqI hn1))
  have Fa_FLAG_max := Fld.start ((fld_at ea_FLAG).symm.trans (own_eqI hn2))
  have Fa_FLAG_ordinal := Fld.start ((fld_at ea_FLAG).symm.trans (own_eqI hn4))
  have Fa_COUNT_ordinal := Fld.start ((fld_at ea_COUNT).symm.trans (own_eqI hn5))
  have Fa_PAGE_SIZE_ordinal := Fld.start ((fld_at ea_PAGE_SIZE).symm.trans (own_eqI hn7))
  have Fa_PASSWORD_LENGTH_ordinal := Fld.start ((fld_at ea_PASSWORD_LENGTH).symm.trans (own_eqI hn9))
  have Fa_DAYS_ordinal := Fld.start ((fld_at ea_DAYS).symm.trans (own_eqI hn11))
  have Fa_SECONDS_ordinal := Fld.start ((fld_at ea_SECONDS).symm.trans (own_eqI hn13))
  have Fa_PORT_ordinal := Fld.start ((fld_at ea_PORT).symm.trans (own_eqI hn15))
  have Fa_PASSWORD_LENGTH_min := Fld.start ((fld_at ea_PASSWORD_LENGTH).symm.trans (own_eqI hn16))
  have Fa_PASSWORD_LENGTH_max := Fld.start ((fld_at ea_PASSWORD_LENGTH).symm.trans (own_eqI hn17))
  have Fa_SECONDS_min := Fld.start ((fld_at ea_SECONDS).symm.trans (own_eqI hn18))
  have Fa_SECONDS_max := Fld.start ((fld_at ea_SECONDS).symm.trans (own_eqI hn19))
  have Fa_TEXT_min := Fld.start ((fld_at ea_TEXT).symm.trans (own_eqI hn21))
  have Fa_TEXT_max := Fld.start ((fld_at ea_TEXT).symm.trans (own_eqI hn22))
  have Fa_TEXT_ordinal := Fld.start ((fld_at ea_TEXT).symm.trans (own_eqI hn23))
  have Fa_PORT_min := Fld.start ((fld_at ea_PORT).symm.trans (own_eqI hn24))
  have Fa_PORT_max := Fld.start ((fld_at ea_PORT).symm.trans (own_eqI hn25))
  have Fa_SECRET_min := Fld.start ((fld_at ea_SECRET).symm.trans (own_eqI hn27))
  have Fa_SECRET_max := Fld.start ((fld_at ea_SECRET).symm.trans (own_eqI hn28))
  have Fa_SECRET_ordinal := Fld.start ((fld_at ea_SECRET).symm.trans (own_eqI hn29))
  have Fa_IP_ADDRESS_min := Fld.start ((fld_at ea_IP_ADDRESS).symm.trans (own_eqI hn31))
  have Fa_IP_ADDRESS_max := Fld.start ((fld_at ea_IP_ADDRESS).symm.trans (own_eqI hn32))
  have Fa_IP_ADDRESS_ordinal := Fld.start ((fld_at ea_IP_ADDRESS).symm.trans (own_eqI hn33))
  have Fa_PAGE_SIZE_min := Fld.start ((fld_at ea_PAGE_SIZE).symm.trans (own_eqI hn34))
  have Fa_PAGE_SIZE_max := Fld.start ((fld_at ea_PAGE_SIZE).symm.trans (own_eqI hn35))
  have Fa_HTTP_URL_min := Fld.start ((fld_at ea_HTTP_URL).symm.trans (own_eqI hn37))
  have Fa_HTTP_URL_max := Fld.start ((fld_at ea_HTTP_URL).symm.trans (own_eqI hn38))
  have Fa_HTTP_URL_ordinal := Fld.start ((fld_at ea_HTTP_URL).symm.trans (own_eqI hn39))
  have Fa_JDBC_URL_min := Fld.start ((fld_at ea_JDBC_URL).symm.trans (own_eqI hn41))
  have Fa_JDBC_URL_max := Fld.start ((fld_at ea_JDBC_URL).symm.trans (own_eqI hn42))
  have Fa_JDBC_URL_ordinal := Fld.start ((fld_at ea_JDBC_URL).symm.trans (own_eqI hn43))
  have Fa_OTP_CODE_min := Fld.start ((fld_at ea_OTP_CODE).symm.trans (own_eqI hn45))
  have Fa_OTP_CODE_max := Fld.start ((fld_at ea_OTP_CODE).symm.trans (own_eqI hn46))
  have Fa_OTP_CODE_ordinal := Fld.start ((fld_at ea_OTP_CODE).symm.trans (own_eqI hn47))
  have Fa_COUNT_min := Fld.start ((fld_at ea_COUNT).symm.trans (own_eqI hn48))
  have Fa_COUNT_max := Fld.start ((fld_at ea_COUNT).symm.trans (own_eqI hn49))
  have Fa_AES_KEY_min := Fld.start ((fld_at ea_AES_KEY).symm.trans (own_eqI hn51))
  have Fa_AES_KEY_max := Fld.start ((fld_at ea_AES_KEY).symm.trans (own_eqI hn52))
  have Fa_AES_KEY_ordinal := Fld.start ((fld_at ea_AES_KEY).symm.trans (own_eqI hn53))
  have Fa_DAYS_min := Fld.start ((fld_at ea_DAYS).symm.trans (own_eqI hn54))
  have Fa_DAYS_max := Fld.start ((fld_at ea_DAYS).symm.trans (own_eqI hn55))
  have Fa_TENANT_min := Fld.start ((fld_at ea_TENANT).symm.trans (own_eqI hn57))
  have Fa_TENANT_max := Fld.start ((fld_at ea_TENANT).symm.trans (own_eqI hn58))
  have Fa_TENANT_ordinal := Fld.start ((fld_at ea_TENANT).symm.trans (own_eqI hm58))
  obtain ⟨n, o, h1, h2, h3, _, L, rfl, ⟨rfl, N⟩, hq⟩ := rm0 l s _ hw tables_1 i0 a_FLAG a_COUNT a_PAGE_SIZE a_PASSWORD_LENGTH a_DAYS a_SECONDS a_PORT a_IP_ADDRESS a_OTP_CODE a_TENANT a_JDBC_URL a_HTTP_URL a_AES_KEY a_TEXT a_SECRET s.heap s.heap.size (Nat.le_refl _) Ea_FLAG Sa_FLAG Ea_COUNT Sa_COUNT Ea_PAGE_SIZE Sa_PAGE_SIZE Ea_PASSWORD_LENGTH Sa_PASSWORD_LENGTH Ea_DAYS Sa_DAYS Ea_SECONDS Sa_SECONDS Ea_PORT Sa_PORT Ea_TEXT Sa_TEXT Ea_SECRET Sa_SECRET Ea_IP_ADDRESS Sa_IP_ADDRESS Ea_HTTP_URL Sa_HTTP_URL Ea_JDBC_URL Sa_JDBC_URL Ea_OTP_CODE Sa_OTP_CODE Ea_AES_KEY Sa_AES_KEY Ea_TENANT Sa_TENANT Fa_FLAG_min Fa_FLAG_max Fa_FLAG_ordinal Fa_COUNT_ordinal Fa_PAGE_SIZE_ordinal Fa_PASSWORD_LENGTH_ordinal Fa_DAYS_ordinal Fa_SECONDS_ordinal Fa_PORT_ordinal Fa_PASSWORD_LENGTH_min Fa_PASSWORD_LENGTH_max Fa_SECONDS_min Fa_SECONDS_max Fa_TEXT_min Fa_TEXT_max Fa_TEXT_ordinal Fa_PORT_min Fa_PORT_max Fa_SECRET_min Fa_SECRET_max Fa_SECRET_ordinal Fa_IP_ADDRESS_min Fa_IP_ADDRESS_max Fa_IP_ADDRESS_ordinal Fa_PAGE_SIZE_min Fa_PAGE_SIZE_max Fa_HTTP_URL_min Fa_HTTP_URL_max Fa_HTTP_URL_ordinal Fa_JDBC_URL_min Fa_JDBC_URL_max Fa_JDBC_URL_ordinal Fa_OTP_CODE_min Fa_OTP_CODE_max Fa_OTP_CODE_ordinal Fa_COUNT_min Fa_COUNT_max Fa_AES_KEY_min Fa_AES_KEY_max Fa_AES_KEY_ordinal Fa_DAYS_min Fa_DAYS_max Fa_TENANT_min Fa_TENANT_max Fa_TENANT_ordinal p e ha hc hk s m _ below hf ((Spec.applies_iff_loose hf).mp happ).1 ⟨rfl, State.Warmed39.refl s, rfl⟩ trivial
  refine ⟨n, _, h1, h2, h3, hpost _ _ _ _ _ _ ⟨Cond.after_iff.mpr rfl, Cond.after_iff.mpr (eq_i res_at (Term.int_eval (1)) rfl), trivial⟩ ⟨hq.1, hq.2.1, (hq.2.2.sift fun y hy => Or.inr (N y hy)).mono (by decide) (by decide)⟩⟩
theorem main_1_1 : Claimed_1_1 := comes_1 fun _ _ _ _ _ _ h hF => ⟨h.1, hF⟩
theorem main_1_2 : Claimed_1_2 := comes_1 fun _ _ _ _ _ _ h hF => ⟨h.2.1, hF⟩
end Jvm.Pilot.@@N@@
namespace Jvm.Pilot.@@N@@
open Jvm Jvm.ClassFile Sem Op Lib Jvm.Free Jvm.Stand Jvm.Pilot.@@N@@.Jvm.D
/-! MADE BY PROGRAM (witnessworld.py) out of the Statement's table words and the real class files: 12 classes; the members and pool entries that the words name. The judged class is class 1, her method 3. -/
namespace start1
open Jvm.ClassFile
def u (s : String) : CpInfo := .utf8 (stringToUtf16 s)
/-- a pool by its gaps: so many unusable entries, then the entry; so many at the end -/
def gap : Nat → List CpInfo → List CpInfo
  | 0, r => r
  | n + 1, r => .unusable :: gap n r
def poolList (es : List (Nat × CpInfo)) (last : Nat) : List CpInfo := es.foldr (fun e r => gap e.1 (e.2 :: r)) (gap last [])
def pool (es : List (Nat × CpInfo)) (last : Nat) : Array CpInfo := ⟨poolList es last⟩
def fileOf (pool : Array CpInfo) (this : Nat) (attrs : Array Attribute := #[]) (ms : Array MethodInfo := #[]) (fl : Nat := 33) (sup : Nat := 0) (ifs : Array Nat := #[]) (fds : Array FieldInfo := #[]) : ClassFile where
  minorVersion := 0
  majorVersion := 65
  constantPool := pool
  accessFlags := fl
  thisClass := this
  superClass := sup
  interfaces := ifs
  fields := fds
  methods := ms
  attributes := attrs
def plain (name : String) (sup : Option ClassId) : Class where
  name := name
  kind := .ordinary
  loader := none
  accessFlags := 33
  super := sup
  interfaces := #[]
  cf := none
  fields := #[]
  methods := #[]
  instanceTypes := #[]
  staticTypes := #[]
  resolved := #[]
  callSites := []
  init := .initialized
  statics := none
  mirror := none

def pool0 : Array CpInfo := pool [(5, u "<init>"), (0, u "()V"), (1, .class_ 10), (1, u "java/lang/Object")] 113

def k0m0 : Method := { name := "<init>", desc := "()V", sig := { parameters := [], returnType := none }, accessFlags := 1, code := none }
/-- java/lang/Object -/
def k0 : Class := { plain "java/lang/Object" none with
  accessFlags := 33
  interfaces := #[]
  cf := some (fileOf pool0 8 #[] #[{ accessFlags := 1, nameIndex := 5, descriptorIndex := 6, attributes := #[] }] 33 0 #[] #[])
  fields := #[]
  methods := #[k0m0]
  instanceTypes := #[]
  staticTypes := #[]
  resolved := Array.replicate 124 none
  statics := none }

def pool1 : Array CpInfo := pool [(2, .class_ 4), (1, u "java/lang/Object"), (0, u "<init>"), (0, u "()V"), (0, .fieldref 8 9), (0, .class_ 10), (0, .nameAndType 11 12), (0, u "com/example/rollkeeper/rollkeeper/core/Setting$Format"), (0, u "FLAG"), (0, u "Lcom/example/rollkeeper/rollkeeper/core/Setting$Format;"), (0, .fieldref 8 14), (0, .nameAndType 15 12), (0, u "COUNT"), (0, .fieldref 8 17), (0, .nameAndType 18 12), (0, u "PAGE_SIZE"), (0, .fieldref 8 20), (0, .nameAndType 21 12), (0, u "PASSWORD_LENGTH"), (0, .fieldref 8 23), (0, .nameAndType 24 12), (0, u "DAYS"), (0, .fieldref 8 26), (0, .nameAndType 27 12), (0, u "SECONDS"), (0, .fieldref 8 29), (0, .nameAndType 30 12), (0, u "PORT"), (0, .fieldref 8 32), (0, .nameAndType 33 12), (0, u "IP_ADDRESS"), (0, .fieldref 8 35), (0, .nameAndType 36 12), (0, u "OTP_CODE"), (0, .fieldref 8 38), (0, .nameAndType 39 12), (0, u "TENANT"), (0, .fieldref 8 41), (0, .nameAndType 42 12), (0, u "JDBC_URL"), (0, .fieldref 8 44), (0, .nameAndType 45 12), (0, u "HTTP_URL"), (0, .fieldref 8 47), (0, .nameAndType 48 12), (0, u "AES_KEY"), (0, .fieldref 8 50), (0, .nameAndType 51 12), (0, u "TEXT"), (0, .fieldref 8 53), (0, .nameAndType 54 12), (0, u "SECRET"), (0, .integer 2147483647), (0, .methodref 57 58), (0, .class_ 59), (0, .nameAndType 60 61), (0, u "com/example/rollkeeper/rollkeeper/core/FormatIsNumberPinLaw"), (0, u "pick"), (0, u "(I)Lcom/example/rollkeeper/rollkeeper/core/Setting$Format;"), (0, .methodref 8 63), (0, .nameAndType 64 65), (0, u "isNumber"), (0, u "()Z"), (0, .methodref 57 67), (0, .nameAndType 68 69), (0, u "expected"), (0, u "(Lcom/example/rollkeeper/rollkeeper/core/Setting$Format;)Z"), (3, u "law"), (0, u "(I)Z")] 6

def k1m0 : Method := { name := "<init>", desc := "()V", sig := { parameters := [], returnType := none }, accessFlags := 2, code := none }
def k1c1 : Code := { maxStack := 2, maxLocals := 1, code := method_2_code, exceptionTable := #[], attributes := #[] }
def k1m1 : Method := { name := "pick", desc := "(I)Lcom/example/rollkeeper/rollkeeper/core/Setting$Format;", sig := { parameters := [.int], returnType := some (.object "com/example/rollkeeper/rollkeeper/core/Setting$Format") }, accessFlags := 10, code := some k1c1 }
def k1c2 : Code := { maxStack := 2, maxLocals := 1, code := method_3_code, exceptionTable := #[], attributes := #[] }
def k1m2 : Method := { name := "expected", desc := "(Lcom/example/rollkeeper/rollkeeper/core/Setting$Format;)Z", sig := { parameters := [(.object "com/example/rollkeeper/rollkeeper/core/Setting$Format")], returnType := some .boolean }, accessFlags := 10, code := some k1c2 }
def k1c3 : Code := { maxStack := 2, maxLocals := 3, code := code, exceptionTable := #[], attributes := #[] }
def k1m3 : Method := { name := "law", desc := "(I)Z", sig := { parameters := [.int], returnType := some .boolean }, accessFlags := 9, code := some k1c3 }
/-- com/example/rollkeeper/rollkeeper/core/FormatIsNumberPinLaw -/
def k1 : Class := { plain "com/example/rollkeeper/rollkeeper/core/FormatIsNumberPinLaw" (some 0) with
  accessFlags := 49
  interfaces := #[]
  cf := some (fileOf pool1 57 #[] #[{ accessFlags := 2, nameIndex := 5, descriptorIndex := 6, attributes := #[] }, { accessFlags := 10, nameIndex := 60, descriptorIndex := 61, attributes := #[] }, { accessFlags := 10, nameIndex := 68, descriptorIndex := 69, attributes := #[] }, { accessFlags := 9, nameIndex := 73, descriptorIndex := 74, attributes := #[] }] 49 2 #[] #[])
  fields := #[]
  methods := #[k1m0, k1m1, k1m2, k1m3]
  instanceTypes := #[]
  staticTypes := #[]
  resolved := Array.replicate 81 none
  statics := none }

def pool2 : Array CpInfo := pool [(1, .class_ 2), (0, u "java/lang/constant/Constable"), (0, .class_ 4), (0, u "java/lang/Object")] 6

/-- java/lang/constant/Constable -/
def k2 : Class := { plain "java/lang/constant/Constable" (some 0) with
  accessFlags := 1537
  interfaces := #[]
  cf := some (fileOf pool2 1 #[] #[] 1537 3 #[] #[])
  fields := #[]
  methods := #[]
  instanceTypes := #[]
  staticTypes := #[]
  resolved := Array.replicate 11 none
  statics := none }

def pool3 : Array CpInfo := pool [(1, .class_ 2), (0, u "java/lang/Comparable"), (0, .class_ 4), (0, u "java/lang/Object")] 7

/-- java/lang/Comparable -/
def k3 : Class := { plain "java/lang/Comparable" (some 0) with
  accessFlags := 1537
  interfaces := #[]
  cf := some (fileOf pool3 1 #[] #[] 1537 3 #[] #[])
  fields := #[]
  methods := #[]
  instanceTypes := #[]
  staticTypes := #[]
  resolved := Array.replicate 12 none
  statics := none }

def pool4 : Array CpInfo := pool [(1, .class_ 2), (0, u "java/io/Serializable"), (0, .class_ 4), (0, u "java/lang/Object")] 2

/-- java/io/Serializable -/
def k4 : Class := { plain "java/io/Serializable" (some 0) with
  accessFlags := 1537
  interfaces := #[]
  cf := some (fileOf pool4 1 #[] #[] 1537 3 #[] #[])
  fields := #[]
  methods := #[]
  instanceTypes := #[]
  staticTypes := #[]
  resolved := Array.replicate 7 none
  statics := none }

def pool5 : Array CpInfo := pool [(2, .class_ 4), (1, u "java/lang/Enum"), (0, u "name"), (0, u "Ljava/lang/String;"), (2, u "ordinal"), (0, u "I"), (1, .class_ 14), (1, u "java/lang/Object"), (4, u "hash"), (86, .class_ 108), (1, u "java/lang/Enum$EnumDesc"), (2, .class_ 112), (0, u "java/lang/constant/Constable"), (0, .class_ 114), (0, u "java/lang/Comparable"), (0, .class_ 116), (0, u "java/io/Serializable")] 87

/-- java/lang/Enum -/
def k5 : Class := { plain "java/lang/Enum" (some 0) with
  accessFlags := 1057
  interfaces := #[2, 3, 4]
  cf := some (fileOf pool5 2 #[.nestMembers #[106]] #[] 1057 12 #[111, 113, 115] #[{ accessFlags := 18, nameIndex := 5, descriptorIndex := 6, attributes := #[] }, { accessFlags := 18, nameIndex := 9, descriptorIndex := 10, attributes := #[] }, { accessFlags := 2, nameIndex := 19, descriptorIndex := 10, attributes := #[] }])
  fields := #[{ name := "name", type := (.object "java/lang/String"), accessFlags := 18, slot := 0, constantValue := 0 }, { name := "ordinal", type := .int, accessFlags := 18, slot := 1, constantValue := 0 }, { name := "hash", type := .int, accessFlags := 2, slot := 2, constantValue := 0 }]
  methods := #[]
  instanceTypes := #[(.object "java/lang/String"), .int, .int]
  staticTypes := #[]
  resolved := Array.replicate 204 none
  statics := none }

def pool6 : Array CpInfo := pool [(1, .class_ 2), (0, u "com/example/rollkeeper/rollkeeper/core/Setting"), (0, .class_ 4), (0, u "com/example/rollkeeper/rollkeeper/core/Setting$Format"), (2, u "FLAG"), (0, u "Lcom/example/rollkeeper/rollkeeper/core/Setting$Format;"), (2, u "COUNT"), (2, u "PAGE_SIZE"), (2, u "PASSWORD_LENGTH"), (2, u "DAYS"), (2, u "SECONDS"), (2, u "PORT"), (2, u "IP_ADDRESS"), (2, u "OTP_CODE"), (2, u "TENANT"), (2, u "JDBC_URL"), (2, u "HTTP_URL"), (2, u "AES_KEY"), (2, u "TEXT"), (2, u "SECRET"), (2, u "$VALUES"), (0, u "[Lcom/example/rollkeeper/rollkeeper/core/Setting$Format;"), (6, .class_ 63), (1, u "java/lang/Enum"), (8, u "description"), (0, u "Ljava/lang/String;"), (2, u "sensitive"), (0, u "Z"), (0, .fieldref 3 79), (0, .nameAndType 80 81), (0, u "min"), (0, u "I"), (0, .fieldref 3 83), (0, .nameAndType 84 81), (0, u "max"), (9, u "()Z"), (63, u "isNumber"), (2, u "DIGITS"), (0, u "Ljava/util/regex/Pattern;"), (33, u "SIX_DIGITS")] 190

def k6c0 : Code := { maxStack := 2, maxLocals := 1, code := prog_20_method_7_code, exceptionTable := #[], attributes := #[] }
def k6m0 : Method := { name := "isNumber", desc := "()Z", sig := { parameters := [], returnType := some .boolean }, accessFlags := 0, code := some k6c0 }
/-- com/example/rollkeeper/rollkeeper/core/Setting$Format -/
def k6 : Class := { plain "com/example/rollkeeper/rollkeeper/core/Setting$Format" (some 5) with
  accessFlags := 16432
  interfaces := #[]
  cf := some (fileOf pool6 3 #[.nestHost 1] #[{ accessFlags := 0, nameIndex := 158, descriptorIndex := 94, attributes := #[] }] 16432 61 #[] #[{ accessFlags := 16409, nameIndex := 7, descriptorIndex := 8, attributes := #[] }, { accessFlags := 16409, nameIndex := 11, descriptorIndex := 8, attributes := #[] }, { accessFlags := 16409, nameIndex := 14, descriptorIndex := 8, attributes := #[] }, { accessFlags := 16409, nameIndex := 17, descriptorIndex := 8, attributes := #[] }, { accessFlags := 16409, nameIndex := 20, descriptorIndex := 8, attributes := #[] }, { accessFlags := 16409, nameIndex := 23, descriptorIndex := 8, attributes := #[] }, { accessFlags := 16409, nameIndex := 26, descriptorIndex := 8, attributes := #[] }, { accessFlags := 16409, nameIndex := 29, descriptorIndex := 8, attributes := #[] }, { accessFlags := 16409, nameIndex := 32, descriptorIndex := 8, attributes := #[] }, { accessFlags := 16409, nameIndex := 35, descriptorIndex := 8, attributes := #[] }, { accessFlags := 16409, nameIndex := 38, descriptorIndex := 8, attributes := #[] }, { accessFlags := 16409, nameIndex := 41, descriptorIndex := 8, attributes := #[] }, { accessFlags := 16409, nameIndex := 44, descriptorIndex := 8, attributes := #[] }, { accessFlags := 16409, nameIndex := 47, descriptorIndex := 8, attributes := #[] }, { accessFlags := 16409, nameIndex := 50, descriptorIndex := 8, attributes := #[] }, { accessFlags := 26, nameIndex := 196, descriptorIndex := 162, attributes := #[] }, { accessFlags := 26, nameIndex := 161, descriptorIndex := 162, attributes := #[] }, { accessFlags := 18, nameIndex := 72, descriptorIndex := 73, attributes := #[] }, { accessFlags := 18, nameIndex := 76, descriptorIndex := 77, attributes := #[] }, { accessFlags := 18, nameIndex := 80, descriptorIndex := 81, attributes := #[] }, { accessFlags := 18, nameIndex := 84, descriptorIndex := 81, attributes := #[] }, { accessFlags := 4122, nameIndex := 53, descriptorIndex := 54, attributes := #[] }])
  fields := #[{ name := "FLAG", type := (.object "com/example/rollkeeper/rollkeeper/core/Setting$Format"), accessFlags := 16409, slot := 0, constantValue := 0 }, { name := "COUNT", type := (.object "com/example/rollkeeper/rollkeeper/core/Setting$Format"), accessFlags := 16409, slot := 1, constantValue := 0 }, { name := "PAGE_SIZE", type := (.object "com/example/rollkeeper/rollkeeper/core/Setting$Format"), accessFlags := 16409, slot := 2, constantValue := 0 }, { name := "PASSWORD_LENGTH", type := (.object "com/example/rollkeeper/rollkeeper/core/Setting$Format"), accessFlags := 16409, slot := 3, constantValue := 0 }, { name := "DAYS", type := (.object "com/example/rollkeeper/rollkeeper/core/Setting$Format"), accessFlags := 16409, slot := 4, constantValue := 0 }, { name := "SECONDS", type := (.object "com/example/rollkeeper/rollkeeper/core/Setting$Format"), accessFlags := 16409, slot := 5, constantValue := 0 }, { name := "PORT", type := (.object "com/example/rollkeeper/rollkeeper/core/Setting$Format"), accessFlags := 16409, slot := 6, constantValue := 0 }, { name := "IP_ADDRESS", type := (.object "com/example/rollkeeper/rollkeeper/core/Setting$Format"), accessFlags := 16409, slot := 7, constantValue := 0 }, { name := "OTP_CODE", type := (.object "com/example/rollkeeper/rollkeeper/core/Setting$Format"), accessFlags := 16409, slot := 8, constantValue := 0 }, { name := "TENANT", type := (.object "com/example/rollkeeper/rollkeeper/core/Setting$Format"), accessFlags := 16409, slot := 9, constantValue := 0 }, { name := "JDBC_URL", type := (.object "com/example/rollkeeper/rollkeeper/core/Setting$Format"), accessFlags := 16409, slot := 10, constantValue := 0 }, { name := "HTTP_URL", type := (.object "com/example/rollkeeper/rollkeeper/core/Setting$Format"), accessFlags := 16409, slot := 11, constantValue := 0 }, { name := "AES_KEY", type := (.object "com/example/rollkeeper/rollkeeper/core/Setting$Format"), accessFlags := 16409, slot := 12, constantValue := 0 }, { name := "TEXT", type := (.object "com/example/rollkeeper/rollkeeper/core/Setting$Format"), accessFlags := 16409, slot := 13, constantValue := 0 }, { name := "SECRET", type := (.object "com/example/rollkeeper/rollkeeper/core/Setting$Format"), accessFlags := 16409, slot := 14, constantValue := 0 }, { name := "SIX_DIGITS", type := (.object "java/util/regex/Pattern"), accessFlags := 26, slot := 15, constantValue := 0 }, { name := "DIGITS", type := (.object "java/util/regex/Pattern"), accessFlags := 26, slot := 16, constantValue := 0 }, { name := "description", type := (.object "java/lang/String"), accessFlags := 18, slot := 3, constantValue := 0 }, { name := "sensitive", type := .boolean, accessFlags := 18, slot := 4, constantValue := 0 }, { name := "min", type := .int, accessFlags := 18, slot := 5, constantValue := 0 }, { name := "max", type := .int, accessFlags := 18, slot := 6, constantValue := 0 }, { name := "$VALUES", type := (.array (.object "com/example/rollkeeper/rollkeeper/core/Setting$Format")), accessFlags := 4122, slot := 17, constantValue := 0 }]
  methods := #[k6m0]
  instanceTypes := #[(.object "java/lang/String"), .int, .int, (.object "java/lang/String"), .boolean, .int, .int]
  staticTypes := #[(.object "com/example/rollkeeper/rollkeeper/core/Setting$Format"), (.object "com/example/rollkeeper/rollkeeper/core/Setting$Format"), (.object "com/example/rollkeeper/rollkeeper/core/Setting$Format"), (.object "com/example/rollkeeper/rollkeeper/core/Setting$Format"), (.object "com/example/rollkeeper/rollkeeper/core/Setting$Format"), (.object "com/example/rollkeeper/rollkeeper/core/Setting$Format"), (.object "com/example/rollkeeper/rollkeeper/core/Setting$Format"), (.object "com/example/rollkeeper/rollkeeper/core/Setting$Format"), (.object "com/example/rollkeeper/rollkeeper/core/Setting$Format"), (.object "com/example/rollkeeper/rollkeeper/core/Setting$Format"), (.object "com/example/rollkeeper/rollkeeper/core/Setting$Format"), (.object "com/example/rollkeeper/rollkeeper/core/Setting$Format"), (.object "com/example/rollkeeper/rollkeeper/core/Setting$Format"), (.object "com/example/rollkeeper/rollkeeper/core/Setting$Format"), (.object "com/example/rollkeeper/rollkeeper/core/Setting$Format"), (.object "java/util/regex/Pattern"), (.object "java/util/regex/Pattern"), (.array (.object "com/example/rollkeeper/rollkeeper/core/Setting$Format"))]
  resolved := Array.replicate 387 none
  statics := some 0 }

def pool7 : Array CpInfo := pool [(1, u "java/lang/Cloneable"), (0, .class_ 1), (0, u "java/lang/Object"), (0, .class_ 3)] 3

/-- java/lang/Cloneable -/
def k7 : Class := { plain "java/lang/Cloneable" (some 0) with
  accessFlags := 1537
  interfaces := #[]
  cf := some (fileOf pool7 2 #[] #[] 1537 4 #[] #[])
  fields := #[]
  methods := #[]
  instanceTypes := #[]
  staticTypes := #[]
  resolved := Array.replicate 8 none
  statics := none }

/-- the primitive byte -/
def k8 : Class := { plain "byte" none with kind := .primitive 'B', accessFlags := 0x411 }
/-- [B -/
def k9 : Class := { plain "[B" (some 0) with kind := .array 8 .byte, interfaces := #[7, 4], accessFlags := 1041 }

/-- the primitive int -/
def k10 : Class := { plain "int" none with kind := .primitive 'I', accessFlags := 0x411 }
/-- [I -/
def k11 : Class := { plain "[I" (some 0) with kind := .array 10 .int, interfaces := #[7, 4], accessFlags := 1041 }

def heap : Heap := #[{ cls := 6, slots := #[.ref 1, .ref 2, .ref 3, .ref 4, .ref 5, .ref 6, .ref 7, .ref 10, .ref 13, .ref 15, .ref 12, .ref 11, .ref 14, .ref 8, .ref 9, .null, .null, .null], vm := .statics 6 },
  { cls := 6, slots := #[.null, .int 0, .int 0, .null, .int 0, .int 0, .int (-1)], vm := .none },
  { cls := 6, slots := #[.null, .int 1, .int 0, .null, .int 0, .int 1, .int 2147483647], vm := .none },
  { cls := 6, slots := #[.null, .int 2, .int 0, .null, .int 0, .int 1, .int 100], vm := .none },
  { cls := 6, slots := #[.null, .int 3, .int 0, .null, .int 0, .int 8, .int 64], vm := .none },
  { cls := 6, slots := #[.null, .int 4, .int 0, .null, .int 0, .int 1, .int 36500], vm := .none },
  { cls := 6, slots := #[.null, .int 5, .int 0, .null, .int 0, .int 0, .int 3600], vm := .none },
  { cls := 6, slots := #[.null, .int 6, .int 0, .null, .int 0, .int 0, .int 65535], vm := .none },
  { cls := 6, slots := #[.null, .int 13, .int 0, .null, .int 0, .int 0, .int (-1)], vm := .none },
  { cls := 6, slots := #[.null, .int 14, .int 0, .null, .int 0, .int 0, .int (-1)], vm := .none },
  { cls := 6, slots := #[.null, .int 7, .int 0, .null, .int 0, .int 0, .int (-1)], vm := .none },
  { cls := 6, slots := #[.null, .int 11, .int 0, .null, .int 0, .int 0, .int (-1)], vm := .none },
  { cls := 6, slots := #[.null, .int 10, .int 0, .null, .int 0, .int 0, .int (-1)], vm := .none },
  { cls := 6, slots := #[.null, .int 8, .int 0, .null, .int 0, .int 0, .int (-1)], vm := .none },
  { cls := 6, slots := #[.null, .int 12, .int 0, .null, .int 0, .int 0, .int (-1)], vm := .none },
  { cls := 6, slots := #[.null, .int 9, .int 0, .null, .int 0, .int 0, .int (-1)], vm := .none }]
def classes : Array Class := #[k0, k1, k2, k3, k4, k5, k6, k7, k8, k9, k10, k11]
def interned : List (Array UInt16 × Addr) := []
def slotsUsed : Nat := 123
def theMethod : MethodId := ⟨1, 3⟩
def args0 : Array Value := #[.int 5]
def aboutOver (below : List Frame) : State where
  vm := { classes := classes, interned := interned.toArray }
  heap := heap
  slotsUsed := slotsUsed
  threads := #[{ frames := .invoking theMethod args0 :: below }]
def below0 : List Frame := [.native { method := ⟨0, 0⟩, args := #[] }]
def about1 : State := aboutOver below0
def p0 : Program := .bare "" "" ""
def e0 : Env := launch0.env 0 0 0
theorem w_frames : about1.frames = Frame.invoking theMethod args0 :: below0 := rfl
set_option maxRecDepth 65536 in
theorem w_args : argsFit about1.vm theMethod args0 = true := by decide +kernel
set_option maxRecDepth 65536 in
theorem w_heap : heapFits about1 = true := by decide +kernel
set_option maxRecDepth 65536 in
theorem w_runnable : about1.curStatus? = some .runnable := by decide +kernel
set_option maxRecDepth 65536 in
theorem w_alone : about1.alone = true := by decide +kernel
set_option maxRecDepth 65536 in
theorem w_named : about1.methodNamed? x = some theMethod := by decide +kernel
set_option maxRecDepth 65536 in
theorem w_hears : about1.hears theMethod below0 = true := by decide +kernel
set_option maxRecDepth 65536 in
theorem w_ripe : about1.ripe theMethod args0 below0 = true := by decide +kernel
theorem w_running : about1.status = .running := rfl
set_option maxRecDepth 65536 in
theorem w_room : about1.hasRoom e0.platform room_1 = true :=
  launch0.hasRoom_least _ room_1 (by decide +kernel) (by decide +kernel) (by decide +kernel) (by decide +kernel) (by decide +kernel) (by decide +kernel)
theorem allAtoms_all (ts : List Jvm.Cond) (a : Array Jvm.Value) (st : Jvm.State) : (allAtoms ts).before a st = ts.all (fun c => c.before a st) := by
  induction ts with
  | nil => rfl
  | cons c t ih =>
    show (Jvm.Cond.and c (allAtoms t)).before a st = _
    rw [Jvm.Cond.before_and, ih, List.all_cons]
def words1 : List Jvm.Cond := Jvm.Cond.code x code maxLocals ret :: tables_1
/-- a 'code' word, met by the world's own term for the bytes: nothing is compared byte by byte -/
theorem code_word {y : MethodName} {bytes : ByteArray} {mx : Nat} {rt : Option FieldType} {a : Array Value} {s : State} {m : MethodId} {meth : Method} {c : Code} (h1 : s.methodNamed? y = some m) (h2 : s.vm.method? m = some meth) (h3 : meth.code = some c) (h4 : c.code = bytes)
    (h5 : (c.maxLocals == mx && c.exceptionTable.isEmpty && decide (c.maxStack ≤ mostOperands) && decide (meth.sig.returnType = rt) && !meth.locks && decide (parseMethodDescriptor y.desc = some meth.sig)) = true) : (Jvm.Cond.code y bytes mx rt).before a s = true := by
  simp only [Bool.and_eq_true, beq_iff_eq, Bool.not_eq_true', decide_eq_true_eq] at h5
  obtain ⟨⟨⟨⟨⟨g1, g2⟩, g3⟩, g4⟩, g5⟩, g6⟩ := h5
  simp [Cond.before, Cond.holds, Cond.value, h1, h2, h3, h4, g1, g2, g3, g4, g5, g6]
def isCode : Jvm.Cond → Bool
  | .code _ _ _ _ => true
  | _ => false
theorem all_split {L : List Jvm.Cond} {P : Jvm.Cond → Bool} (h1 : L.all (fun c => isCode c || P c) = true) (h2 : ∀ c ∈ L.filter isCode, P c = true) : L.all P = true := by
  refine List.all_eq_true.mpr fun c hc => ?_
  have h := List.all_eq_true.mp h1 c hc
  rcases Bool.eq_false_or_eq_true (isCode c) with hi | hi
  · exact h2 c (List.mem_filter.mpr ⟨hc, hi⟩)
  · simpa [hi] using h
set_option maxRecDepth 65536 in
theorem w_c0 : (Jvm.Cond.code x code maxLocals ret).before args0 about1 = true := code_word (m := ⟨1, 3⟩) (meth := k1m3) (c := k1c3) (by decide +kernel) rfl rfl rfl (by decide +kernel)
set_option maxRecDepth 65536 in
theorem w_c1 : (Jvm.Cond.code ({ cls := "com/example/rollkeeper/rollkeeper/core/FormatIsNumberPinLaw", name := "pick", desc := "(I)Lcom/example/rollkeeper/rollkeeper/core/Setting$Format;" } : Jvm.MethodName) method_2_code (1 : Nat) (Option.some (Jvm.ClassFile.FieldType.object "com/example/rollkeeper/rollkeeper/core/Setting$Format"))).before args0 about1 = true := code_word (m := ⟨1, 1⟩) (meth := k1m1) (c := k1c1) (by decide +kernel) rfl rfl rfl (by decide +kernel)
set_option maxRecDepth 65536 in
theorem w_c2 : (Jvm.Cond.code ({ cls := "com/example/rollkeeper/rollkeeper/core/Setting$Format", name := "isNumber", desc := "()Z" } : Jvm.MethodName) prog_20_method_7_code (1 : Nat) (Option.some Jvm.ClassFile.FieldType.boolean)).before args0 about1 = true := code_word (m := ⟨6, 0⟩) (meth := k6m0) (c := k6c0) (by decide +kernel) rfl rfl rfl (by decide +kernel)
set_option maxRecDepth 65536 in
theorem w_c3 : (Jvm.Cond.code ({ cls := "com/example/rollkeeper/rollkeeper/core/FormatIsNumberPinLaw", name := "expected", desc := "(Lcom/example/rollkeeper/rollkeeper/core/Setting$Format;)Z" } : Jvm.MethodName) method_3_code (1 : Nat) (Option.some Jvm.ClassFile.FieldType.boolean)).before args0 about1 = true := code_word (m := ⟨1, 2⟩) (meth := k1m2) (c := k1c2) (by decide +kernel) rfl rfl rfl (by decide +kernel)
def codes1 : List Jvm.Cond := [Jvm.Cond.code x code maxLocals ret, Jvm.Cond.code ({ cls := "com/example/rollkeeper/rollkeeper/core/FormatIsNumberPinLaw", name := "pick", desc := "(I)Lcom/example/rollkeeper/rollkeeper/core/Setting$Format;" } : Jvm.MethodName) method_2_code (1 : Nat) (Option.some (Jvm.ClassFile.FieldType.object "com/example/rollkeeper/rollkeeper/core/Setting$Format")), Jvm.Cond.code ({ cls := "com/example/rollkeeper/rollkeeper/core/Setting$Format", name := "isNumber", desc := "()Z" } : Jvm.MethodName) prog_20_method_7_code (1 : Nat) (Option.some Jvm.ClassFile.FieldType.boolean), Jvm.Cond.code ({ cls := "com/example/rollkeeper/rollkeeper/core/FormatIsNumberPinLaw", name := "expected", desc := "(Lcom/example/rollkeeper/rollkeeper/core/Setting$Format;)Z" } : Jvm.MethodName) method_3_code (1 : Nat) (Option.some Jvm.ClassFile.FieldType.boolean)]
set_option maxRecDepth 65536 in
theorem codes_eq : words1.filter isCode = codes1 := rfl
theorem w_codes : ∀ c ∈ words1.filter isCode, c.before args0 about1 = true := by
  rw [codes_eq]
  intro c hc
  simp only [codes1, List.mem_cons, List.not_mem_nil, or_false] at hc
  rcases hc with rfl | rfl | rfl | rfl
  · exact w_c0
  · exact w_c1
  · exact w_c2
  · exact w_c3
set_option maxRecDepth 65536 in
theorem w_t1 : (words1.take 24).all (fun c => isCode c || c.before args0 about1) = true := by decide +kernel
set_option maxRecDepth 65536 in
theorem w_t2 : ((words1.drop 24).take 24).all (fun c => isCode c || c.before args0 about1) = true := by decide +kernel
set_option maxRecDepth 65536 in
theorem w_t3 : ((words1.drop 24).drop 24).all (fun c => isCode c || c.before args0 about1) = true := by decide +kernel
theorem w_tables : (allAtoms (Jvm.Cond.code x code maxLocals ret :: tables_1)).before args0 about1 = true := by
  rw [allAtoms_all]
  show words1.all (fun c => c.before args0 about1) = true
  refine all_split ?_ w_codes
  rw [← List.take_append_drop 24 words1, List.all_append, w_t1, ← List.take_append_drop 24 (words1.drop 24), List.all_append, w_t2, w_t3]
  rfl
set_option maxRecDepth 65536 in
theorem w_case : (Jvm.Cond.and given_1 narrow_1).before args0 about1 = true := by decide +kernel
theorem w_applies : (headSpec (Jvm.Cond.code x code maxLocals ret :: tables_1) room_1).applies x e0.platform about1 = true :=
  (Spec.applies_iff w_frames).mpr ⟨w_running, w_runnable, w_alone, w_named, w_hears, w_ripe, w_room, w_tables⟩
theorem atStart : AtStart classFile x code maxLocals ret World_1 tables_1 room_1 Calls_1 rest_1 Pre_1 launch0 p0 e0 about1 theMethod args0 below0 :=
  ⟨lists_1, trivial, launch0.admits_env _ _ _, launch0.least_env, fairChoices_fair.cas, fairChoices_fair.clock, w_frames, w_args, w_heap, w_applies, trivial, trivial, w_case⟩
end start1
theorem witness_1 : WitnessClaimed_1 := ⟨start1.p0, start1.e0, start1.about1, start1.theMethod, start1.args0, start1.below0, start1.atStart⟩
end Jvm.Pilot.@@N@@
