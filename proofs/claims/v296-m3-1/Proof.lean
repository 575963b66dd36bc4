import JvmDerived
import JvmDerived.Pilot.@@N@@Statement
import JvmDerived.Pilot.@@N@@Code
set_option linter.unusedVariables false
set_option linter.unusedSimpArgs false
namespace Jvm.Pilot.@@N@@
open Jvm Jvm.ClassFile Sem Op Lib Jvm.Free Jvm.Stand Jvm.LawKit Jvm.RoadKit Bundle Jvm.Pilot.@@N@@.Jvm.D

theorem own_w {Z : State} {a0 : Array Value} (hw : ∀ d ∈ tables_1, d.before a0 Z = true) (i : Nat) {d : Jvm.Cond} (h : tables_1[i]? = some d) : d.before a0 Z = true := hw d (List.mem_of_getElem? h)
def own_Fin (p : Program) (e : Env) (below : List Frame) (G : Outcome → State → Prop) (st : State) : Prop := ∃ t o, Steps p.tables e below st t ∧ t.status = .running ∧ Ended t below o ∧ G o t
section OwnKit
variable {p : Program} {l : Launch} {e : Env} {R : Room} {s : State} {m : MethodId} {args : Array Value} {below : List Frame} {meth : Method} {c : Code} {T : State} {locs : List Loc} {cells slots : Nat} {Z : State} {a0 : Array Value} {h h' : Heap} {G : Outcome → State → Prop} {st st' : State} {Qk : Option Value → Heap → List Loc → Prop} {K N : Nat} {a b : Addr} {ty : FieldType} {vs : List Value} {ws : List Addr} {sl : Nat} {v : Value}
theorem own_st (k : ∀ target, Steps p.tables e below st' target → Steps p.tables e below st target) (q : own_Fin p e below G st') : own_Fin p e below G st := by
  obtain ⟨t, o, h1, h2⟩ := q; exact ⟨t, o, k t h1, h2⟩
theorem own_tr (k : Steps p.tables e below st st') (q : own_Fin p e below G st') : own_Fin p e below G st := by
  obtain ⟨t, o, h1, h2⟩ := q; exact ⟨t, o, k.trans h1, h2⟩
theorem own_start (q : ∀ G : Outcome → State → Prop, (∀ v L t, Qk v t.heap L → FrameEnd s (.returned v) t L K N → G (.returned v) t) → own_Fin p e below G st) : ∃ s₂ o, Steps p.tables e below st s₂ ∧ s₂.status = .running ∧ Ended s₂ below o ∧ ∃ v L, o = .returned v ∧ Qk v s₂.heap L ∧ FrameEnd s o s₂ L K N :=
  q _ (fun v L t q f => ⟨v, L, rfl, q, f⟩)
theorem own_out (X : Stand p l e R s m args below meth c T locs cells slots) (hlocks : meth.locks = false) {v : Option Value} (hv : meth.sig.returnType = none → v = none) (hG : ∀ v L t, Qk v t.heap L → FrameEnd s (.returned v) t L K N → G (.returned v) t)
    (hstep : ∀ fs, (∀ (f : JFrame) (acts : List Action), f.method = m → f.locked = none → f.entered = [] → (doReturn e (T.setTop f) acts v).1 = T.setFrames fs) → Steps p.tables e below st (T.setFrames fs)) (hc : cells ≤ K) (hn : slots ≤ N) (hQ : Qk v T.heap locs) : own_Fin p e below G st := by
  obtain ⟨fs, hr, hrun, hended, hW, hsame⟩ := X.leave hv hlocks
  exact ⟨_, _, hstep fs hr, hrun, hended, hG _ _ _ hQ ⟨⟨_, rfl⟩, hW, hsame.mono hc hn⟩⟩
theorem own_ldc (X : Stand p l e R s m args below meth c T locs cells slots) (hx : p.tables.exec = Jvm.exec) (hZ : Z.Warmed39 s.vm) {own : String} {index : Nat} {v : Int32} (hown : s.vm.findClass own = some m.cls) (w : (Cond.constant own index v).before a0 Z = true) {g : JFrame} (hg : g.method = m) (hd : decode c.code g.pc = .ok (.ldc index, 2)) {target : State}
    (kk : Steps p.tables e below (T.setTop { g with pc := g.pc + 2, stack := .int v :: g.stack }) target) : Steps p.tables e below (T.setTop g) target := X.ldcInt hx hown (mvT hZ w) hg hd target kk
theorem own_ldcJ (X : Stand p l e R s m args below meth c T locs cells slots) (hx : p.tables.exec = Jvm.exec) (hZ : Z.Warmed39 s.vm) {own : String} {index : Nat} {v : Int64} (hown : s.vm.findClass own = some m.cls) (w : (Cond.constantLong own index v).before a0 Z = true) {g : JFrame} (hg : g.method = m) (hd : decode c.code g.pc = .ok (.ldc2_w index, 3)) {target : State}
    (kk : Steps p.tables e below (T.setTop { g with pc := g.pc + 3, stack := .long v :: g.stack }) target) : Steps p.tables e below (T.setTop g) target := X.ldc2Long hx hown (mvT hZ w) hg hd target kk
theorem own_ldcF (X : Stand p l e R s m args below meth c T locs cells slots) (hx : p.tables.exec = Jvm.exec) (hZ : Z.Warmed39 s.vm) {own : String} {index : Nat} {v : UInt32} (hown : s.vm.findClass own = some m.cls) (w : (Cond.constantFloat own index v).before a0 Z = true) {g : JFrame} (hg : g.method = m) (hd : decode c.code g.pc = .ok (.ldc index, 2)) {target : State}
    (kk : Steps p.tables e below (T.setTop { g with pc := g.pc + 2, stack := .float v :: g.stack }) target) : Steps p.tables e below (T.setTop g) target := X.ldcFloatC hx hown (mvT hZ w) hg hd target kk
def own_AV (Z : State) (h : Heap) (a : Addr) (ty : FieldType) (vs : List Value) : Prop := ∃ c : Cell, Arr Z h a c ty ∧ c.slots.toList = vs
def own_is (xs : List Int32) : List Value := xs.map Value.int
def own_js (xs : List Int64) : List Value := xs.map Value.long
theorem own_AV.lt (A : own_AV Z h a ty vs) : a < h.size := by obtain ⟨c, A, -⟩ := A; exact A.lt
theorem own_AV.ext (A : own_AV Z h a ty vs) (E : Ext h h') : own_AV Z h' a ty vs := by obtain ⟨c, A, r⟩ := A; exact ⟨c, A.ext E, r⟩
theorem own_AV.other (A : own_AV Z h b ty vs) (W : Wr h h' a sl v) (q : b ≠ a) : own_AV Z h' b ty vs := by obtain ⟨c, A, r⟩ := A; exact ⟨c, A.other W q, r⟩
theorem own_AV.keep (A : own_AV Z h a ty vs) (K : Keep h h' ws) (q : a ∉ ws) : own_AV Z h' a ty vs := by obtain ⟨c, A, r⟩ := A; exact ⟨c, ⟨K.2.1 a c A.1 q, A.2⟩, r⟩
theorem own_AV_new {k : ClassId} {z : Int32} (A : Arr Z h a (newA k ty z) ty) : own_AV Z h a ty (List.replicate z.toNatClampNeg (defaultValue ty)) := ⟨_, A, by simp [newA]⟩
theorem own_AV_newI {k : ClassId} {z : Int32} (A : Arr Z h a (newA k .int z) .int) : own_AV Z h a .int (own_is (List.replicate z.toNatClampNeg 0)) := ⟨_, A, by simp [newA, own_is, defaultValue]⟩
theorem own_AV_newJ {k : ClassId} {z : Int32} (A : Arr Z h a (newA k .long z) .long) : own_AV Z h a .long (own_js (List.replicate z.toNatClampNeg 0)) := ⟨_, A, by simp [newA, own_js, defaultValue]⟩
theorem own_in {c : Cell} {n : Nat} {j : Int32} (r : c.slots.toList = vs) (hn : vs.length = n) (hj : ¬ (j < 0 ∨ n ≤ j.toNatClampNeg)) : ¬ (j < 0 ∨ c.slots.size ≤ j.toNatClampNeg) := by
  rw [← Array.length_toList, r, hn]; exact hj
theorem own_nat {n : Nat} {j : Int32} (hj : ¬ (j < 0 ∨ n ≤ j.toNatClampNeg)) : j.toNatClampNeg < n := Nat.lt_of_not_le fun q => hj (Or.inr q)
theorem own_ldI (X : Stand p l e R s m args below meth c T locs cells slots) (hx : p.tables.exec = Jvm.exec) (hZ : Z.Warmed39 s.vm) (eT : T.heap = h) {xs : List Int32} (A : own_AV Z h a .int (own_is xs)) {j : Int32} {n : Nat} (hn : xs.length = n) (hj : ¬ (j < 0 ∨ n ≤ j.toNatClampNeg))
    {g : JFrame} (hg : g.method = m) {rest : List Value} (hs : g.stack = .int j :: .ref a :: rest) (hd : decode c.code g.pc = .ok (.iaload, 1)) {target : State} (kk : Steps p.tables e below (T.setTop { g with pc := g.pc + 1, stack := .int (xs.getD j.toNatClampNeg 0) :: rest }) target) : Steps p.tables e below (T.setTop g) target := by
  obtain ⟨cl, A, r⟩ := A
  have hlt := own_nat hj
  refine X.iaload hx (by rw [eT]; exact A.1) (State.isArrayOf_alike hZ.alike A.2.1) A.2.2 (own_in r (by simp [own_is, hn]) hj) ?_ hg hs hd _ kk
  rw [← Array.getElem?_toList, r]
  simp [own_is, List.getD_eq_getElem?_getD, List.getElem?_eq_getElem (hn ▸ hlt)]
theorem own_ldJ (X : Stand p l e R s m args below meth c T locs cells slots) (hx : p.tables.exec = Jvm.exec) (hZ : Z.Warmed39 s.vm) (eT : T.heap = h) {xs : List Int64} (A : own_AV Z h a .long (own_js xs)) {j : Int32} {n : Nat} (hn : xs.length = n) (hj : ¬ (j < 0 ∨ n ≤ j.toNatClampNeg))
    {g : JFrame} (hg : g.method = m) {rest : List Value} (hs : g.stack = .int j :: .ref a :: rest) (hd : decode c.code g.pc = .ok (.laload, 1)) {target : State} (kk : Steps p.tables e below (T.setTop { g with pc := g.pc + 1, stack := .long (xs.getD j.toNatClampNeg 0) :: rest }) target) : Steps p.tables e below (T.setTop g) target := by
  obtain ⟨cl, A, r⟩ := A
  have hlt := own_nat hj
  refine X.laload hx (by rw [eT]; exact A.1) (State.isArrayOf_alike hZ.alike A.2.1) A.2.2 (own_in r (by simp [own_js, hn]) hj) ?_ hg hs hd _ kk
  rw [← Array.getElem?_toList, r]
  simp [own_js, List.getD_eq_getElem?_getD, List.getElem?_eq_getElem (hn ▸ hlt)]
theorem own_set {cl : Cell} {j : Nat} (A : Arr Z h a cl ty) (r : cl.slots.toList = vs) (W : Wr h h' a j v) : own_AV Z h' a ty (vs.set j v) := ⟨_, A.same W, by simp [Cell.setSlot, ← r]⟩
theorem own_stI (X : Stand p l e R s m args below meth c T locs cells slots) (hx : p.tables.exec = Jvm.exec) (hZ : Z.Warmed39 s.vm) (eT : T.heap = h) {xs : List Int32} (A : own_AV Z h a .int (own_is xs)) {j x : Int32} {n : Nat} (hn : xs.length = n) (hj : ¬ (j < 0 ∨ n ≤ j.toNatClampNeg))
    {g : JFrame} (hg : g.method = m) {rest : List Value} (hs : g.stack = .int x :: .int j :: .ref a :: rest) (hd : decode c.code g.pc = .ok (.iastore, 1)) :
    ∃ T' h', Stand p l e R s m args below meth c T' (locs ++ [⟨a, j.toNatClampNeg⟩]) cells slots ∧ T'.heap = h' ∧ Wr h h' a j.toNatClampNeg (.int x) ∧ own_AV Z h' a .int (own_is (xs.set j.toNatClampNeg x)) ∧ ∀ target, Steps p.tables e below (T'.setTop { g with pc := g.pc + 1, stack := rest }) target → Steps p.tables e below (T.setTop g) target := by
  obtain ⟨cl, A, r⟩ := A
  obtain ⟨T', h', X', e', W, st⟩ := stI X hx hZ eT A (own_in r (by simp [own_is, hn]) hj) hg hs hd
  exact ⟨T', h', X', e', W, by have q := own_set A r W; simpa [own_is, List.map_set] using q, st⟩
theorem own_stJ (X : Stand p l e R s m args below meth c T locs cells slots) (hx : p.tables.exec = Jvm.exec) (hZ : Z.Warmed39 s.vm) (eT : T.heap = h) {xs : List Int64} (A : own_AV Z h a .long (own_js xs)) {j : Int32} {x : Int64} {n : Nat} (hn : xs.length = n) (hj : ¬ (j < 0 ∨ n ≤ j.toNatClampNeg))
    {g : JFrame} (hg : g.method = m) {rest : List Value} (hs : g.stack = .long x :: .int j :: .ref a :: rest) (hd : decode c.code g.pc = .ok (.lastore, 1)) :
    ∃ T' h', Stand p l e R s m args below meth c T' (locs ++ [⟨a, j.toNatClampNeg⟩]) cells slots ∧ T'.heap = h' ∧ Wr h h' a j.toNatClampNeg (.long x) ∧ own_AV Z h' a .long (own_js (xs.set j.toNatClampNeg x)) ∧ ∀ target, Steps p.tables e below (T'.setTop { g with pc := g.pc + 1, stack := rest }) target → Steps p.tables e below (T.setTop g) target := by
  obtain ⟨cl, A, r⟩ := A
  obtain ⟨T', h', X', e', W, st⟩ := stJ X hx hZ eT A (own_in r (by simp [own_js, hn]) hj) hg hs hd
  exact ⟨T', h', X', e', W, by have q := own_set A r W; simpa [own_js, List.map_set] using q, st⟩
theorem own_len (X : Stand p l e R s m args below meth c T locs cells slots) (hx : p.tables.exec = Jvm.exec) (hZ : Z.Warmed39 s.vm) (eT : T.heap = h) (A : own_AV Z h a ty vs) {z : Int32} (hz : vs.length.toInt32 = z)
    {g : JFrame} (hg : g.method = m) {rest : List Value} (hs : g.stack = .ref a :: rest) (hd : decode c.code g.pc = .ok (.arraylength, 1)) {target : State} (kk : Steps p.tables e below (T.setTop { g with pc := g.pc + 1, stack := .int z :: rest }) target) : Steps p.tables e below (T.setTop g) target := by
  obtain ⟨cl, A, r⟩ := A
  refine X.arraylength hx (by rw [eT]; exact A.1) (State.isArrayOf_alike hZ.alike A.2.1) hg hs hd target ?_
  rw [← Array.length_toList, r, hz]; exact kk
def own_ds (xs : List UInt64) : List Value := xs.map Value.double
theorem own_AV_newD {k : ClassId} {z : Int32} (A : Arr Z h a (newA k .double z) .double) : own_AV Z h a .double (own_ds (List.replicate z.toNatClampNeg 0)) := ⟨_, A, by simp [newA, own_ds, defaultValue]⟩
theorem own_stD (X : Stand p l e R s m args below meth c T locs cells slots) (hx : p.tables.exec = Jvm.exec) (hZ : Z.Warmed39 s.vm) (eT : T.heap = h) {xs : List UInt64} (A : own_AV Z h a .double (own_ds xs)) {j : Int32} {x : UInt64} {n : Nat} (hn : xs.length = n) (hj : ¬ (j < 0 ∨ n ≤ j.toNatClampNeg))
    {g : JFrame} (hg : g.method = m) {rest : List Value} (hs : g.stack = .double x :: .int j :: .ref a :: rest) (hd : decode c.code g.pc = .ok (.dastore, 1)) :
    ∃ T' h', Stand p l e R s m args below meth c T' (locs ++ [⟨a, j.toNatClampNeg⟩]) cells slots ∧ T'.heap = h' ∧ Wr h h' a j.toNatClampNeg (.double x) ∧ own_AV Z h' a .double (own_ds (xs.set j.toNatClampNeg x)) ∧ ∀ target, Steps p.tables e below (T'.setTop { g with pc := g.pc + 1, stack := rest }) target → Steps p.tables e below (T.setTop g) target := by
  obtain ⟨cl, A, r⟩ := A
  obtain ⟨T', h', X', e', W, st⟩ := stD X hx hZ eT A (own_in r (by simp [own_ds, hn]) hj) hg hs hd
  exact ⟨T', h', X', e', W, by have q := own_set A r W; simpa [own_ds, List.map_set] using q, st⟩
theorem own_ldD (X : Stand p l e R s m args below meth c T locs cells slots) (hx : p.tables.exec = Jvm.exec) (hZ : Z.Warmed39 s.vm) (eT : T.heap = h) {xs : List UInt64} (A : own_AV Z h a .double (own_ds xs)) {j : Int32} {n : Nat} (hn : xs.length = n) (hj : ¬ (j < 0 ∨ n ≤ j.toNatClampNeg))
    {g : JFrame} (hg : g.method = m) {rest : List Value} (hs : g.stack = .int j :: .ref a :: rest) (hd : decode c.code g.pc = .ok (.daload, 1)) {target : State} (kk : Steps p.tables e below (T.setTop { g with pc := g.pc + 1, stack := .double (xs.getD j.toNatClampNeg 0) :: rest }) target) : Steps p.tables e below (T.setTop g) target := by
  obtain ⟨cl, A, r⟩ := A
  have hlt := own_nat hj
  refine X.daload hx (by rw [eT]; exact A.1) (State.isArrayOf_alike hZ.alike A.2.1) A.2.2 (own_in r (by simp [own_ds, hn]) hj) ?_ hg hs hd _ kk
  rw [← Array.getElem?_toList, r]
  simp [own_ds, List.getD_eq_getElem?_getD, List.getElem?_eq_getElem (hn ▸ hlt)]
def own_AVk (Z : State) (h : Heap) (a : Addr) (k : ClassId) (ty : FieldType) (vs : List Value) : Prop := ∃ c : Cell, Arr Z h a c ty ∧ c.cls = k ∧ c.slots.toList = vs
variable {k : ClassId}
theorem own_AVk.lt (A : own_AVk Z h a k ty vs) : a < h.size := by obtain ⟨c, A, -⟩ := A; exact A.lt
theorem own_AVk.ext (A : own_AVk Z h a k ty vs) (E : Ext h h') : own_AVk Z h' a k ty vs := by obtain ⟨c, A, r⟩ := A; exact ⟨c, A.ext E, r⟩
theorem own_AVk.other (A : own_AVk Z h b k ty vs) (W : Wr h h' a sl v) (q : b ≠ a) : own_AVk Z h' b k ty vs := by obtain ⟨c, A, r⟩ := A; exact ⟨c, A.other W q, r⟩
theorem own_AVk.keep (A : own_AVk Z h a k ty vs) (K : Keep h h' ws) (q : a ∉ ws) : own_AVk Z h' a k ty vs := by obtain ⟨c, A, r⟩ := A; exact ⟨c, ⟨K.2.1 a c A.1 q, A.2⟩, r⟩
theorem own_AVk.av (A : own_AVk Z h a k ty vs) : own_AV Z h a ty vs := by obtain ⟨c, A, -, r⟩ := A; exact ⟨c, A, r⟩
theorem own_AVk_new {z : Int32} (A : Arr Z h a (newA k ty z) ty) : own_AVk Z h a k ty (List.replicate z.toNatClampNeg (defaultValue ty)) := ⟨_, A, rfl, by simp [newA]⟩
theorem own_stR (X : Stand p l e R s m args below meth c T locs cells slots) (hx : p.tables.exec = Jvm.exec) (hZ : Z.Warmed39 s.vm) (eT : T.heap = h) (A : own_AVk Z h a k ty vs) {j : Int32} {n : Nat} (hn : vs.length = n) (hj : ¬ (j < 0 ∨ n ≤ j.toNatClampNeg)) (hty : ty.isReference = true)
    (F : ∀ {c : Cell}, Arr Z h a c ty → c.cls = k → Sto Z h a v) {g : JFrame} (hg : g.method = m) {rest : List Value} (hs : g.stack = v :: .int j :: .ref a :: rest) (hd : decode c.code g.pc = .ok (.aastore, 1)) :
    ∃ T' h', Stand p l e R s m args below meth c T' (locs ++ [⟨a, j.toNatClampNeg⟩]) cells slots ∧ T'.heap = h' ∧ Wr h h' a j.toNatClampNeg v ∧ own_AVk Z h' a k ty (vs.set j.toNatClampNeg v) ∧ ∀ target, Steps p.tables e below (T'.setTop { g with pc := g.pc + 1, stack := rest }) target → Steps p.tables e below (T.setTop g) target := by
  obtain ⟨cl, A, q, r⟩ := A
  obtain ⟨T', h', X', e', W, st⟩ := stR X hx hZ eT A (own_in r hn hj) hty (F A q) hg hs hd
  exact ⟨T', h', X', e', W, ⟨_, A.same W, q, by simp [Cell.setSlot, ← r]⟩, st⟩
theorem own_ldR (X : Stand p l e R s m args below meth c T locs cells slots) (hx : p.tables.exec = Jvm.exec) (hZ : Z.Warmed39 s.vm) (eT : T.heap = h) (A : own_AVk Z h a k ty vs) {j : Int32} {n : Nat} (hn : vs.length = n) (hj : ¬ (j < 0 ∨ n ≤ j.toNatClampNeg)) (hty : ty.isReference = true) (hv : vs[j.toNatClampNeg]? = some v)
    {g : JFrame} (hg : g.method = m) {rest : List Value} (hs : g.stack = .int j :: .ref a :: rest) (hd : decode c.code g.pc = .ok (.aaload, 1)) {target : State} (kk : Steps p.tables e below (T.setTop { g with pc := g.pc + 1, stack := v :: rest }) target) : Steps p.tables e below (T.setTop g) target := by
  obtain ⟨cl, A, -, r⟩ := A
  exact X.aaload hx (by rw [eT]; exact A.1) (State.isArrayOf_alike hZ.alike A.2.1) hty A.2.2 (own_in r hn hj) (by rw [← Array.getElem?_toList, r]; exact hv) hg hs hd _ kk
theorem own_ldB (X : Stand p l e R s m args below meth c T locs cells slots) (hx : p.tables.exec = Jvm.exec) (hZ : Z.Warmed39 s.vm) (eT : T.heap = h) {xs : List Int32} (A : own_AV Z h a .byte (own_is xs)) {j : Int32} {n : Nat} (hn : xs.length = n) (hj : ¬ (j < 0 ∨ n ≤ j.toNatClampNeg))
    {g : JFrame} (hg : g.method = m) {rest : List Value} (hs : g.stack = .int j :: .ref a :: rest) (hd : decode c.code g.pc = .ok (.baload, 1)) {target : State} (kk : Steps p.tables e below (T.setTop { g with pc := g.pc + 1, stack := .int (xs.getD j.toNatClampNeg 0) :: rest }) target) : Steps p.tables e below (T.setTop g) target := by
  obtain ⟨cl, A, r⟩ := A
  have hlt := own_nat hj
  refine X.baloadBytes hx (by rw [eT]; exact A.1) (State.isArrayOf_alike hZ.alike A.2.1) A.2.2 (own_in r (by simp [own_is, hn]) hj) ?_ hg hs hd _ kk
  rw [← Array.getElem?_toList, r]
  simp [own_is, List.getD_eq_getElem?_getD, List.getElem?_eq_getElem (hn ▸ hlt)]
theorem own_eqI {args : Array Value} {s : State} {t : Term} {n : Int32} (q : (Jvm.Cond.eq t (Term.int n)).value args s none s [] = some true) : t.eval args s none [] s = some (.int n) := by
  obtain ⟨x, y, h1, h2, h3, h4⟩ := cmp_v (Or.inl q)
  cases h2.symm.trans (Term.int_eval n)
  obtain ⟨z, rfl⟩ := h4
  simp only [Cond.value, h1, h2] at q
  simpa [h1] using q
theorem own_AV.cell (A : own_AV Z h a ty vs) : ∃ c : Cell, h[a]? = some c ∧ ∀ q, c.vm ≠ .statics q := by obtain ⟨c, A, -⟩ := A; exact ⟨c, A.1, A.2.1.1⟩
theorem own_AVk.cell (A : own_AVk Z h a k ty vs) : ∃ c : Cell, h[a]? = some c ∧ ∀ q, c.vm ≠ .statics q := A.av.cell
theorem own_Sta_keep {C n d : String} {v : Value} (F : Sta Z h C n d v) (K : Keep h h' ws) (q : ∀ x ∈ ws, ∃ c : Cell, h[x]? = some c ∧ ∀ q, c.vm ≠ .statics q) : Sta Z h' C n d v := by
  obtain ⟨cf, i, k, f, st, cell, h1, h2, h3, h4, h5, h6, h7⟩ := F
  refine ⟨cf, i, k, f, st, cell, h1, h2, h3, h4, K.2.1 st cell h5 fun m => ?_, h6, h7⟩
  obtain ⟨c', g1, g2⟩ := q st m
  cases h5.symm.trans g1
  cases hv : cell.vm <;> first | exact g2 _ hv | (rw [hv] at h6; cases h6)
end OwnKit
abbrev own_y0 : MethodName := ⟨"java/lang/Record", "<init>", "()V"⟩
abbrev own_y1 : MethodName := ⟨"com/example/rollkeeper/rollkeeper/server/StoredHash$Argon2idHash", "<init>", "(III[B[B)V"⟩
abbrev own_y2 : MethodName := ⟨"com/example/rollkeeper/rollkeeper/server/StoredHash$Argon2idHash", "checkBounds", "()V"⟩

theorem own_rng (x b d : Int32) (lo n : Int) (hb : b.toInt = lo) (hd : d.toInt = n) (hn : 0 < n) (h1 : 0 ≤ lo) (h2 : lo + n ≤ 2147483647) : lo ≤ (b + (x &&& 2147483647) % d).toInt ∧ (b + (x &&& 2147483647) % d).toInt < lo + n := by
  have e1 := c_mask x 2147483647 31 (by decide) (by decide)
  have q1 : 0 ≤ (x &&& 2147483647).toInt := by rw [e1]; omega
  have e2 := (c_irem (x &&& 2147483647) d n hd).1 q1
  have e3 := c_iadd b ((x &&& 2147483647) % d)
  have r := rng32 (b + (x &&& 2147483647) % d)
  have q2 : 0 ≤ (x &&& 2147483647).toInt % n := Int.emod_nonneg _ (by omega)
  have q3 : (x &&& 2147483647).toInt % n < n := Int.emod_lt_of_pos _ hn
  rw [e2, hb] at e3
  omega
theorem own_rng7 (x : Int32) : 1 ≤ ((1 : Int32) + (x &&& 7)).toInt ∧ ((1 : Int32) + (x &&& 7)).toInt < 9 := by
  have e1 := c_and x 7 (by decide)
  have a : (7 : Int32).toInt = 7 := rfl
  have b : (1 : Int32).toInt = 1 := rfl
  have e3 := c_iadd 1 (x &&& 7)
  have r := rng32 (1 + (x &&& 7))
  omega
theorem own_nlt {x y : Int32} {n : Int} (hy : y.toInt = n) (h : n ≤ x.toInt) : ¬ x < y := by rw [Int32.lt_iff_toInt_lt]; omega
theorem own_ngt {x y : Int32} {n : Int} (hy : y.toInt = n) (h : x.toInt ≤ n) : ¬ y < x := by rw [Int32.lt_iff_toInt_lt]; omega
theorem own_cap {x : Int32} {k : Nat} (h : x.toInt ≤ k) : x.toNatClampNeg ≤ k := by
  have e1 : x.toNatClampNeg = x.toInt.toNat := rfl
  omega
theorem own_repl {n : Int32} (hn : ¬ n < 0) (v : Value) : (List.replicate n.toNatClampNeg v).length.toInt32 = n := by rw [List.length_replicate]; exact (back32 hn).1
theorem d2_0 : decode jdk_30_method_1_code 0 = .ok (.aload_n 0, 1) := by decide +kernel
theorem d2_1 : decode jdk_30_method_1_code 1 = .ok (.invokespecial 1, 3) := by decide +kernel
theorem d2_4 : decode jdk_30_method_1_code 4 = .ok (.return_, 1) := by decide +kernel
theorem pn_java_lang_Record : plainName "java/lang/Record" = true := by first | (simp [plainName, overriddenIn]; done) | decide +kernel
theorem ef_2_R (m : MethodId) (x0 : Addr) : entryFrame m #[(.ref x0)] 1 = mkF m 0 #[rv x0] [] := by first | (simp [entryFrame, mkF, argsToLocals, Value.category]; done) | rfl
def Qrm_rec (Z : State) (a1 : Addr) (h0 : Heap) (n0 : Nat) (v : Option Value) (h : Heap) (L : List Loc) : Prop := v = none ∧ Fr n0 L ∧ h = h0
set_option maxRecDepth 65536 in
set_option maxHeartbeats 40000000 in
theorem rm_rec (l : Launch) (Z : State) (a0 : Array Value) (hw : ∀ d ∈ tables_1, d.before a0 Z = true) (ws : List Jvm.Cond) (a1 : Addr) (h0 : Heap) (n0 : Nat) (Z0 : n0 ≤ h0.size) :
    MetFree l own_y0 (head1 (Jvm.Cond.code own_y0 jdk_30_method_1_code 1 none :: ws) ({ frames := 1, cells := 0, slots := 0, locals := 12 } : Room)) (fun a U => a = #[(.ref a1)] ∧ Z.Warmed39 U.vm ∧ U.heap = h0) (fun _ _ _ _ _ => True) (fun _ U o U' => ∃ v L, o = .returned v ∧ Qrm_rec Z a1 h0 n0 v U'.heap L ∧ FrameEnd U o U' L ({ frames := 1, cells := 0, slots := 0, locals := 12 } : Room).cells ({ frames := 1, cells := 0, slots := 0, locals := 12 } : Room).slots) := by
  refine MetFree.of_bodySF (plainFor_of_name pn_java_lang_Record) hisR ?_
  intro p e s m args below meth c s₁ Bd hml0 hP hK
  obtain ⟨rfl, hZ, hh⟩ := hP
  have hx := Bd.exec
  have hby := Bd.bytes
  have hml : c.maxLocals = 1 := hml0
  have hown : s.vm.findClass "java/lang/Record" = some m.cls := findClass_of_methodNamed Bd.named
  have hnm := (name_of_methodNamed Bd.named Bd.method).1
  have X0 : Stand p l e ({ frames := 1, cells := 0, slots := 0, locals := 12 } : Room) s m #[(.ref a1)] below meth c s₁ [] 0 0 := Stand.of_body Bd
  have e0 : s₁.heap = h0 := by rw [← hh, Bd.state]; rfl
  have N0 := Fr.nil n0
  have K0 : Keep h0 h0 [] := Keep.refl _ _
  refine own_start (Qk := Qrm_rec Z a1 h0 n0) (fun G hG => ?_)
  refine own_st (fun _ k => castTop (ef_2_R m a1) k) ?_
  show own_Fin p e below G (s₁.setTop (mkF m 0 #[rv a1] []))
  refine own_st (fun _ k => XS.aloadN X0.here hx rfl (hb hby d2_0) rfl rfl k) ?_
  show own_Fin p e below G (s₁.setTop (mkF m 1 #[rv a1] [(.ref a1)]))
  obtain ⟨T1, X1, e1, st1⟩ := initO X0 hx hZ hown (own_w hw 14 rfl) (own_w hw 15 rfl) (own_w hw 16 rfl) e0 (g := (mkF m 1 #[rv a1] [(.ref a1)])) rfl (by rw [hml]; rfl) rfl (hb hby d2_1) (by decide) (W := 0) (by show 2 * 0 + _ ≤ _; exact Nat.le_of_eq rfl) (by decide)
  refine own_st st1 ?_
  show own_Fin p e below G (T1.setTop (mkF m 4 #[rv a1] []))
  refine own_out X1 Bd.notSynchronized (v := none) (fun _ => rfl) hG (fun fs hr => X1.returnOut hx Bd.returns (hb hby d2_4) hr) (by decide) (by decide) ?_
  exact ⟨rfl, N0, e1⟩

theorem d1_0 : decode prog_38_method_1_code 0 = .ok (.aload_n 0, 1) := by decide +kernel
theorem d1_1 : decode prog_38_method_1_code 1 = .ok (.invokespecial 1, 3) := by decide +kernel
theorem pd___V_167 : parseMethodDescriptor "()V" = some ⟨[], none⟩ := by decide +kernel
theorem d1_4 : decode prog_38_method_1_code 4 = .ok (.aload_n 0, 1) := by decide +kernel
theorem d1_5 : decode prog_38_method_1_code 5 = .ok (.iload_n 1, 1) := by decide +kernel
theorem d1_6 : decode prog_38_method_1_code 6 = .ok (.putfield 7, 3) := by decide +kernel
theorem d1_9 : decode prog_38_method_1_code 9 = .ok (.aload_n 0, 1) := by decide +kernel
theorem d1_10 : decode prog_38_method_1_code 10 = .ok (.iload_n 2, 1) := by decide +kernel
theorem d1_11 : decode prog_38_method_1_code 11 = .ok (.putfield 13, 3) := by decide +kernel
theorem d1_14 : decode prog_38_method_1_code 14 = .ok (.aload_n 0, 1) := by decide +kernel
theorem d1_15 : decode prog_38_method_1_code 15 = .ok (.iload_n 3, 1) := by decide +kernel
theorem d1_16 : decode prog_38_method_1_code 16 = .ok (.putfield 16, 3) := by decide +kernel
theorem d1_19 : decode prog_38_method_1_code 19 = .ok (.aload_n 0, 1) := by decide +kernel
theorem d1_20 : decode prog_38_method_1_code 20 = .ok (.aload 4, 2) := by decide +kernel
theorem d1_22 : decode prog_38_method_1_code 22 = .ok (.putfield 19, 3) := by decide +kernel
theorem d1_25 : decode prog_38_method_1_code 25 = .ok (.aload_n 0, 1) := by decide +kernel
theorem d1_26 : decode prog_38_method_1_code 26 = .ok (.aload 5, 2) := by decide +kernel
theorem d1_28 : decode prog_38_method_1_code 28 = .ok (.putfield 23, 3) := by decide +kernel
theorem d1_31 : decode prog_38_method_1_code 31 = .ok (.return_, 1) := by decide +kernel
theorem pn_com_example_rollkeeper_rollkeeper_server_StoredHash_Argon2idHash : plainName "com/example/rollkeeper/rollkeeper/server/StoredHash$Argon2idHash" = true := by first | (simp [plainName, overriddenIn]; done) | decide +kernel
theorem ef_1_RIIIRR (m : MethodId) (x0 : Addr) (x1 : Int32) (x2 : Int32) (x3 : Int32) (x4 : Addr) (x5 : Addr) : entryFrame m #[(.ref x0), (.int x1), (.int x2), (.int x3), (.ref x4), (.ref x5)] 6 = mkF m 0 #[rv x0, iv x1, iv x2, iv x3, rv x4, rv x5] [] := by first | (simp [entryFrame, mkF, argsToLocals, Value.category]; done) | rfl
def Qrm_ini (Z : State) (a1 : Addr) (p1 : Int32) (p2 : Int32) (p3 : Int32) (a4 : Addr) (a5 : Addr) (h0 : Heap) (n0 : Nat) (v : Option Value) (h : Heap) (L : List Loc) : Prop := v = none ∧ Fr n0 L ∧ Keep h0 h [a1] ∧ Exa Z h a1 "com/example/rollkeeper/rollkeeper/server/StoredHash$Argon2idHash" ∧ Fld Z h a1 "com/example/rollkeeper/rollkeeper/server/StoredHash$Argon2idHash" "memoryKib" "I" (.int p1) ∧ Fld Z h a1 "com/example/rollkeeper/rollkeeper/server/StoredHash$Argon2idHash" "passes" "I" (.int p2) ∧ Fld Z h a1 "com/example/rollkeeper/rollkeeper/server/StoredHash$Argon2idHash" "lanes" "I" (.int p3) ∧ Fld Z h a1 "com/example/rollkeeper/rollkeeper/server/StoredHash$Argon2idHash" "salt" "[B" (.ref a4) ∧ Fld Z h a1 "com/example/rollkeeper/rollkeeper/server/StoredHash$Argon2idHash" "tag" "[B" (.ref a5)
set_option maxRecDepth 65536 in
set_option maxHeartbeats 40000000 in
theorem rm_ini (l : Launch) (Z : State) (a0 : Array Value) (hw : ∀ d ∈ tables_1, d.before a0 Z = true) (ws : List Jvm.Cond) (a1 : Addr) (p1 : Int32) (p2 : Int32) (p3 : Int32) (a4 : Addr) (a5 : Addr) (h0 : Heap) (n0 : Nat) (Z0 : n0 ≤ h0.size) (E1 : Exa Z h0 a1 "com/example/rollkeeper/rollkeeper/server/StoredHash$Argon2idHash") (F0 : Fld Z h0 a1 "com/example/rollkeeper/rollkeeper/server/StoredHash$Argon2idHash" "memoryKib" "I" (.int (0 : Int32))) (F1 : Fld Z h0 a1 "com/example/rollkeeper/rollkeeper/server/StoredHash$Argon2idHash" "passes" "I" (.int (0 : Int32))) (F2 : Fld Z h0 a1 "com/example/rollkeeper/rollkeeper/server/StoredHash$Argon2idHash" "lanes" "I" (.int (0 : Int32))) (F3 : Fld Z h0 a1 "com/example/rollkeeper/rollkeeper/server/StoredHash$Argon2idHash" "salt" "[B" .null) (F4 : Fld Z h0 a1 "com/example/rollkeeper/rollkeeper/server/StoredHash$Argon2idHash" "tag" "[B" .null) (g1 : n0 ≤ a1) :
    MetFree l own_y1 (head1 (Jvm.Cond.code own_y1 prog_38_method_1_code 6 none :: ws) ({ frames := 2, cells := 0, slots := 0, locals := 24 } : Room)) (fun a U => a = #[(.ref a1), (.int p1), (.int p2), (.int p3), (.ref a4), (.ref a5)] ∧ Z.Warmed39 U.vm ∧ U.heap = h0) (fun _ _ _ _ _ => True) (fun _ U o U' => ∃ v L, o = .returned v ∧ Qrm_ini Z a1 p1 p2 p3 a4 a5 h0 n0 v U'.heap L ∧ FrameEnd U o U' L ({ frames := 2, cells := 0, slots := 0, locals := 24 } : Room).cells ({ frames := 2, cells := 0, slots := 0, locals := 24 } : Room).slots) := by
  refine MetFree.of_bodySF (plainFor_of_name pn_com_example_rollkeeper_rollkeeper_server_StoredHash_Argon2idHash) hisR ?_
  intro p e s m args below meth c s₁ Bd hml0 hP hK
  obtain ⟨rfl, hZ, hh⟩ := hP
  have hx := Bd.exec
  have hby := Bd.bytes
  have hml : c.maxLocals = 6 := hml0
  have hown : s.vm.findClass "com/example/rollkeeper/rollkeeper/server/StoredHash$Argon2idHash" = some m.cls := findClass_of_methodNamed Bd.named
  have hnm := (name_of_methodNamed Bd.named Bd.method).1
  have X0 : Stand p l e ({ frames := 2, cells := 0, slots := 0, locals := 24 } : Room) s m #[(.ref a1), (.int p1), (.int p2), (.int p3), (.ref a4), (.ref a5)] below meth c s₁ [] 0 0 := Stand.of_body Bd
  have e0 : s₁.heap = h0 := by rw [← hh, Bd.state]; rfl
  have N0 := Fr.nil n0
  have K0 : Keep h0 h0 [a1] := Keep.refl _ _
  refine own_start (Qk := Qrm_ini Z a1 p1 p2 p3 a4 a5 h0 n0) (fun G hG => ?_)
  refine own_st (fun _ k => castTop (ef_1_RIIIRR m a1 p1 p2 p3 a4 a5) k) ?_
  show own_Fin p e below G (s₁.setTop (mkF m 0 #[rv a1, iv p1, iv p2, iv p3, rv a4, rv a5] []))
  refine own_st (fun _ k => XS.aloadN X0.here hx rfl (hb hby d1_0) rfl rfl k) ?_
  show own_Fin p e below G (s₁.setTop (mkF m 1 #[rv a1, iv p1, iv p2, iv p3, rv a4, rv a5] [(.ref a1)]))
  obtain ⟨_, _, ⟨T2, L2, k2, n2⟩, -, X2, ⟨Lc2, hQ2, l2, y2, z2⟩, st2⟩ := X0.specialBack hx (y := own_y0) rfl hown (mvT hZ (own_w hw 9 rfl)) (mvT hZ (own_w hw 10 rfl)) (mvT hZ (own_w hw 13 rfl)) (by decide) (backOf (W := 0) (rm_rec l Z a0 hw [] a1 h0 n0 (Nat.le_trans Z0 K0.1) ) hZ (own_w hw 13 rfl) (own_w hw 12 rfl) (by decide) (by decide)) (g := (mkF m 1 #[rv a1, iv p1, iv p2, iv p3, rv a4, rv a5] [(.ref a1)])) rfl (by rw [hml]; rfl) (Steps.refl _) (a := a1) (argsL := []) (rest := []) (lenOf pd___V_167 rfl) rfl (by show 2 * 0 + _ ≤ _; exact Nat.le_of_eq rfl) (hb hby d1_1) (fun _ _ => ⟨rfl, e0, (by decide : 0 + 0 ≤ _), (by decide : 0 + 0 ≤ _)⟩)
  dsimp only [Pt.U, Pt.locs, Pt.cells, Pt.slots] at X2 l2 y2 z2 st2 hQ2
  subst l2 y2 z2
  obtain ⟨rfl, N2q, e2⟩ := hQ2
  skip
  have N2 := Fr.app N0 N2q
  refine own_tr st2 ?_
  show own_Fin p e below G (T2.setTop (mkF m 4 #[rv a1, iv p1, iv p2, iv p3, rv a4, rv a5] []))
  refine own_st (fun _ k => XS.aloadN X2.here hx rfl (hb hby d1_4) rfl rfl k) ?_
  show own_Fin p e below G (T2.setTop (mkF m 5 #[rv a1, iv p1, iv p2, iv p3, rv a4, rv a5] [(.ref a1)]))
  refine own_st (fun _ k => XS.iloadN X2.here hx rfl (hb hby d1_5) rfl  k) ?_
  show own_Fin p e below G (T2.setTop (mkF m 6 #[rv a1, iv p1, iv p2, iv p3, rv a4, rv a5] [(.int p1), (.ref a1)]))
  obtain ⟨T3, h3, X3, e3, W3, st3⟩ := putF X2 hx hZ hown (host := "") (Or.inl (own_w hw 17 rfl)) Via.refl e2 F0 E1 (Or.inr ⟨(own_w hw 18 rfl), rfl, hnm⟩) (own_w hw 4 rfl) (ty := .int) (by decide) rfl rfl (g := (mkF m 6 #[rv a1, iv p1, iv p2, iv p3, rv a4, rv a5] [(.int p1), (.ref a1)])) rfl rfl (hb hby d1_6)
  have f4_0 := E1.wr W3
  have sl5 := slot_ne (Z := Z) (a0 := a0) (Or.inr (own_w hw 20 rfl)) (Or.inr (own_w hw 18 rfl)) (by decide) (t := .int) (t' := .int) (by decide) (by decide)
  have f4_2 := F1.other W3 (Or.inr sl5)
  have sl6 := slot_ne (Z := Z) (a0 := a0) (Or.inr (own_w hw 22 rfl)) (Or.inr (own_w hw 18 rfl)) (by decide) (t := .int) (t' := .int) (by decide) (by decide)
  have f4_3 := F2.other W3 (Or.inr sl6)
  have sl7 := slot_ne (Z := Z) (a0 := a0) (Or.inr (own_w hw 24 rfl)) (Or.inr (own_w hw 18 rfl)) (by decide) (t := (.array .byte)) (t' := .int) (by decide) (by decide)
  have f4_4 := F3.other W3 (Or.inr sl7)
  have sl8 := slot_ne (Z := Z) (a0 := a0) (Or.inr (own_w hw 26 rfl)) (Or.inr (own_w hw 18 rfl)) (by decide) (t := (.array .byte)) (t' := .int) (by decide) (by decide)
  have f4_5 := F4.other W3 (Or.inr sl8)
  have K9 : Keep h0 h3 [a1] := K0.wr W3 (Or.inl (List.mem_of_getElem? (i := 0) rfl))
  have N10 := Fr.snoc X3 N2 g1
  have Fw3 : Fld Z h3 a1 "com/example/rollkeeper/rollkeeper/server/StoredHash$Argon2idHash" "memoryKib" "I" (.int p1) := F0.same W3
  refine own_st st3 ?_
  show own_Fin p e below G (T3.setTop (mkF m 9 #[rv a1, iv p1, iv p2, iv p3, rv a4, rv a5] []))
  refine own_st (fun _ k => XS.aloadN X3.here hx rfl (hb hby d1_9) rfl rfl k) ?_
  show own_Fin p e below G (T3.setTop (mkF m 10 #[rv a1, iv p1, iv p2, iv p3, rv a4, rv a5] [(.ref a1)]))
  refine own_st (fun _ k => XS.iloadN X3.here hx rfl (hb hby d1_10) rfl  k) ?_
  show own_Fin p e below G (T3.setTop (mkF m 11 #[rv a1, iv p1, iv p2, iv p3, rv a4, rv a5] [(.int p2), (.ref a1)]))
  obtain ⟨T11, h11, X11, e11, W11, st11⟩ := putF X3 hx hZ hown (host := "") (Or.inl (own_w hw 19 rfl)) Via.refl e3 f4_2 f4_0 (Or.inr ⟨(own_w hw 20 rfl), rfl, hnm⟩) (own_w hw 4 rfl) (ty := .int) (by decide) rfl rfl (g := (mkF m 11 #[rv a1, iv p1, iv p2, iv p3, rv a4, rv a5] [(.int p2), (.ref a1)])) rfl rfl (hb hby d1_11)
  have f12_0 := f4_0.wr W11
  have sl13 := slot_ne (Z := Z) (a0 := a0) (Or.inr (own_w hw 18 rfl)) (Or.inr (own_w hw 20 rfl)) (by decide) (t := .int) (t' := .int) (by decide) (by decide)
  have f12_1 := Fw3.other W11 (Or.inr sl13)
  have sl14 := slot_ne (Z := Z) (a0 := a0) (Or.inr (own_w hw 22 rfl)) (Or.inr (own_w hw 20 rfl)) (by decide) (t := .int) (t' := .int) (by decide) (by decide)
  have f12_3 := f4_3.other W11 (Or.inr sl14)
  have sl15 := slot_ne (Z := Z) (a0 := a0) (Or.inr (own_w hw 24 rfl)) (Or.inr (own_w hw 20 rfl)) (by decide) (t := (.array .byte)) (t' := .int) (by decide) (by decide)
  have f12_4 := f4_4.other W11 (Or.inr sl15)
  have sl16 := slot_ne (Z := Z) (a0 := a0) (Or.inr (own_w hw 26 rfl)) (Or.inr (own_w hw 20 rfl)) (by decide) (t := (.array .byte)) (t' := .int) (by decide) (by decide)
  have f12_5 := f4_5.other W11 (Or.inr sl16)
  have K17 : Keep h0 h11 [a1] := K9.wr W11 (Or.inl (List.mem_of_getElem? (i := 0) rfl))
  have N18 := Fr.snoc X11 N10 g1
  have Fw11 : Fld Z h11 a1 "com/example/rollkeeper/rollkeeper/server/StoredHash$Argon2idHash" "passes" "I" (.int p2) := f4_2.same W11
  refine own_st st11 ?_
  show own_Fin p e below G (T11.setTop (mkF m 14 #[rv a1, iv p1, iv p2, iv p3, rv a4, rv a5] []))
  refine own_st (fun _ k => XS.aloadN X11.here hx rfl (hb hby d1_14) rfl rfl k) ?_
  show own_Fin p e below G (T11.setTop (mkF m 15 #[rv a1, iv p1, iv p2, iv p3, rv a4, rv a5] [(.ref a1)]))
  refine own_st (fun _ k => XS.iloadN X11.here hx rfl (hb hby d1_15) rfl  k) ?_
  show own_Fin p e below G (T11.setTop (mkF m 16 #[rv a1, iv p1, iv p2, iv p3, rv a4, rv a5] [(.int p3), (.ref a1)]))
  obtain ⟨T19, h19, X19, e19, W19, st19⟩ := putF X11 hx hZ hown (host := "") (Or.inl (own_w hw 21 rfl)) Via.refl e11 f12_3 f12_0 (Or.inr ⟨(own_w hw 22 rfl), rfl, hnm⟩) (own_w hw 4 rfl) (ty := .int) (by decide) rfl rfl (g := (mkF m 16 #[rv a1, iv p1, iv p2, iv p3, rv a4, rv a5] [(.int p3), (.ref a1)])) rfl rfl (hb hby d1_16)
  have f20_0 := f12_0.wr W19
  have sl21 := slot_ne (Z := Z) (a0 := a0) (Or.inr (own_w hw 18 rfl)) (Or.inr (own_w hw 22 rfl)) (by decide) (t := .int) (t' := .int) (by decide) (by decide)
  have f20_1 := f12_1.other W19 (Or.inr sl21)
  have sl22 := slot_ne (Z := Z) (a0 := a0) (Or.inr (own_w hw 20 rfl)) (Or.inr (own_w hw 22 rfl)) (by decide) (t := .int) (t' := .int) (by decide) (by decide)
  have f20_2 := Fw11.other W19 (Or.inr sl22)
  have sl23 := slot_ne (Z := Z) (a0 := a0) (Or.inr (own_w hw 24 rfl)) (Or.inr (own_w hw 22 rfl)) (by decide) (t := (.array .byte)) (t' := .int) (by decide) (by decide)
  have f20_4 := f12_4.other W19 (Or.inr sl23)
  have sl24 := slot_ne (Z := Z) (a0 := a0) (Or.inr (own_w hw 26 rfl)) (Or.inr (own_w hw 22 rfl)) (by decide) (t := (.array .byte)) (t' := .int) (by decide) (by decide)
  have f20_5 := f12_5.other W19 (Or.inr sl24)
  have K25 : Keep h0 h19 [a1] := K17.wr W19 (Or.inl (List.mem_of_getElem? (i := 0) rfl))
  have N26 := Fr.snoc X19 N18 g1
  have Fw19 : Fld Z h19 a1 "com/example/rollkeeper/rollkeeper/server/StoredHash$Argon2idHash" "lanes" "I" (.int p3) := f12_3.same W19
  refine own_st st19 ?_
  show own_Fin p e below G (T19.setTop (mkF m 19 #[rv a1, iv p1, iv p2, iv p3, rv a4, rv a5] []))
  refine own_st (fun _ k => XS.aloadN X19.here hx rfl (hb hby d1_19) rfl rfl k) ?_
  show own_Fin p e below G (T19.setTop (mkF m 20 #[rv a1, iv p1, iv p2, iv p3, rv a4, rv a5] [(.ref a1)]))
  refine own_st (fun _ k => XS.aload X19.here hx rfl (hb hby d1_20) rfl rfl k) ?_
  show own_Fin p e below G (T19.setTop (mkF m 22 #[rv a1, iv p1, iv p2, iv p3, rv a4, rv a5] [(.ref a4), (.ref a1)]))
  obtain ⟨T27, h27, X27, e27, W27, st27⟩ := putF X19 hx hZ hown (host := "") (Or.inl (own_w hw 23 rfl)) Via.refl e19 f20_4 f20_0 (Or.inr ⟨(own_w hw 24 rfl), rfl, hnm⟩) (own_w hw 4 rfl) (ty := (.array .byte)) (by decide) rfl rfl (g := (mkF m 22 #[rv a1, iv p1, iv p2, iv p3, rv a4, rv a5] [(.ref a4), (.ref a1)])) rfl rfl (hb hby d1_22)
  have f28_0 := f20_0.wr W27
  have sl29 := slot_ne (Z := Z) (a0 := a0) (Or.inr (own_w hw 18 rfl)) (Or.inr (own_w hw 24 rfl)) (by decide) (t := .int) (t' := (.array .byte)) (by decide) (by decide)
  have f28_1 := f20_1.other W27 (Or.inr sl29)
  have sl30 := slot_ne (Z := Z) (a0 := a0) (Or.inr (own_w hw 20 rfl)) (Or.inr (own_w hw 24 rfl)) (by decide) (t := .int) (t' := (.array .byte)) (by decide) (by decide)
  have f28_2 := f20_2.other W27 (Or.inr sl30)
  have sl31 := slot_ne (Z := Z) (a0 := a0) (Or.inr (own_w hw 22 rfl)) (Or.inr (own_w hw 24 rfl)) (by decide) (t := .int) (t' := (.array .byte)) (by decide) (by decide)
  have f28_3 := Fw19.other W27 (Or.inr sl31)
  have sl32 := slot_ne (Z := Z) (a0 := a0) (Or.inr (own_w hw 26 rfl)) (Or.inr (own_w hw 24 rfl)) (by decide) (t := (.array .byte)) (t' := (.array .byte)) (by decide) (by decide)
  have f28_5 := f20_5.other W27 (Or.inr sl32)
  have K33 : Keep h0 h27 [a1] := K25.wr W27 (Or.inl (List.mem_of_getElem? (i := 0) rfl))
  have N34 := Fr.snoc X27 N26 g1
  have Fw27 : Fld Z h27 a1 "com/example/rollkeeper/rollkeeper/server/StoredHash$Argon2idHash" "salt" "[B" (.ref a4) := f20_4.same W27
  refine own_st st27 ?_
  show own_Fin p e below G (T27.setTop (mkF m 25 #[rv a1, iv p1, iv p2, iv p3, rv a4, rv a5] []))
  refine own_st (fun _ k => XS.aloadN X27.here hx rfl (hb hby d1_25) rfl rfl k) ?_
  show own_Fin p e below G (T27.setTop (mkF m 26 #[rv a1, iv p1, iv p2, iv p3, rv a4, rv a5] [(.ref a1)]))
  refine own_st (fun _ k => XS.aload X27.here hx rfl (hb hby d1_26) rfl rfl k) ?_
  show own_Fin p e below G (T27.setTop (mkF m 28 #[rv a1, iv p1, iv p2, iv p3, rv a4, rv a5] [(.ref a5), (.ref a1)]))
  obtain ⟨T35, h35, X35, e35, W35, st35⟩ := putF X27 hx hZ hown (host := "") (Or.inl (own_w hw 25 rfl)) Via.refl e27 f28_5 f28_0 (Or.inr ⟨(own_w hw 26 rfl), rfl, hnm⟩) (own_w hw 4 rfl) (ty := (.array .byte)) (by decide) rfl rfl (g := (mkF m 28 #[rv a1, iv p1, iv p2, iv p3, rv a4, rv a5] [(.ref a5), (.ref a1)])) rfl rfl (hb hby d1_28)
  have f36_0 := f28_0.wr W35
  have sl37 := slot_ne (Z := Z) (a0 := a0) (Or.inr (own_w hw 18 rfl)) (Or.inr (own_w hw 26 rfl)) (by decide) (t := .int) (t' := (.array .byte)) (by decide) (by decide)
  have f36_1 := f28_1.other W35 (Or.inr sl37)
  have sl38 := slot_ne (Z := Z) (a0 := a0) (Or.inr (own_w hw 20 rfl)) (Or.inr (own_w hw 26 rfl)) (by decide) (t := .int) (t' := (.array .byte)) (by decide) (by decide)
  have f36_2 := f28_2.other W35 (Or.inr sl38)
  have sl39 := slot_ne (Z := Z) (a0 := a0) (Or.inr (own_w hw 22 rfl)) (Or.inr (own_w hw 26 rfl)) (by decide) (t := .int) (t' := (.array .byte)) (by decide) (by decide)
  have f36_3 := f28_3.other W35 (Or.inr sl39)
  have sl40 := slot_ne (Z := Z) (a0 := a0) (Or.inr (own_w hw 24 rfl)) (Or.inr (own_w hw 26 rfl)) (by decide) (t := (.array .byte)) (t' := (.array .byte)) (by decide) (by decide)
  have f36_4 := Fw27.other W35 (Or.inr sl40)
  have K41 : Keep h0 h35 [a1] := K33.wr W35 (Or.inl (List.mem_of_getElem? (i := 0) rfl))
  have N42 := Fr.snoc X35 N34 g1
  have Fw35 : Fld Z h35 a1 "com/example/rollkeeper/rollkeeper/server/StoredHash$Argon2idHash" "tag" "[B" (.ref a5) := f28_5.same W35
  refine own_st st35 ?_
  show own_Fin p e below G (T35.setTop (mkF m 31 #[rv a1, iv p1, iv p2, iv p3, rv a4, rv a5] []))
  refine own_out X35 Bd.notSynchronized (v := none) (fun _ => rfl) hG (fun fs hr => X35.returnOut hx Bd.returns (hb hby d1_31) hr) (by decide) (by decide) ?_
  exact ⟨rfl, N42, e35.symm ▸ K41, e35.symm ▸ f36_0, e35.symm ▸ f36_1, e35.symm ▸ f36_2, e35.symm ▸ f36_3, e35.symm ▸ f36_4, e35.symm ▸ Fw35⟩

theorem d4_0 : decode prog_38_method_3_code 0 = .ok (.aload_n 0, 1) := by decide +kernel
theorem d4_1 : decode prog_38_method_3_code 1 = .ok (.getfield 7, 3) := by decide +kernel
theorem d4_4 : decode prog_38_method_3_code 4 = .ok (.sipush 19456, 3) := by decide +kernel
theorem d4_7 : decode prog_38_method_3_code 7 = .ok (.if_icmp .lt 49, 3) := by decide +kernel
theorem d4_10 : decode prog_38_method_3_code 10 = .ok (.aload_n 0, 1) := by decide +kernel
theorem d4_11 : decode prog_38_method_3_code 11 = .ok (.getfield 7, 3) := by decide +kernel
theorem d4_14 : decode prog_38_method_3_code 14 = .ok (.ldc 28, 2) := by decide +kernel
theorem d4_16 : decode prog_38_method_3_code 16 = .ok (.if_icmp .gt 40, 3) := by decide +kernel
theorem d4_19 : decode prog_38_method_3_code 19 = .ok (.aload_n 0, 1) := by decide +kernel
theorem d4_20 : decode prog_38_method_3_code 20 = .ok (.getfield 13, 3) := by decide +kernel
theorem d4_23 : decode prog_38_method_3_code 23 = .ok (.iconst 2, 1) := by decide +kernel
theorem d4_24 : decode prog_38_method_3_code 24 = .ok (.if_icmp .lt 32, 3) := by decide +kernel
theorem d4_27 : decode prog_38_method_3_code 27 = .ok (.aload_n 0, 1) := by decide +kernel
theorem d4_28 : decode prog_38_method_3_code 28 = .ok (.getfield 13, 3) := by decide +kernel
theorem d4_31 : decode prog_38_method_3_code 31 = .ok (.iconst 4, 1) := by decide +kernel
theorem d4_32 : decode prog_38_method_3_code 32 = .ok (.if_icmp .gt 24, 3) := by decide +kernel
theorem d4_35 : decode prog_38_method_3_code 35 = .ok (.aload_n 0, 1) := by decide +kernel
theorem d4_36 : decode prog_38_method_3_code 36 = .ok (.getfield 16, 3) := by decide +kernel
theorem d4_39 : decode prog_38_method_3_code 39 = .ok (.iconst 1, 1) := by decide +kernel
theorem d4_40 : decode prog_38_method_3_code 40 = .ok (.if_icmp .lt 16, 3) := by decide +kernel
theorem d4_43 : decode prog_38_method_3_code 43 = .ok (.aload_n 0, 1) := by decide +kernel
theorem d4_44 : decode prog_38_method_3_code 44 = .ok (.getfield 16, 3) := by decide +kernel
theorem d4_47 : decode prog_38_method_3_code 47 = .ok (.bipush 8, 2) := by decide +kernel
theorem d4_49 : decode prog_38_method_3_code 49 = .ok (.if_icmp .gt 7, 3) := by decide +kernel
theorem d4_52 : decode prog_38_method_3_code 52 = .ok (.iconst 1, 1) := by decide +kernel
theorem d4_53 : decode prog_38_method_3_code 53 = .ok (.goto 4, 3) := by decide +kernel
theorem d4_57 : decode prog_38_method_3_code 57 = .ok (.istore_n 1, 1) := by decide +kernel
theorem d4_58 : decode prog_38_method_3_code 58 = .ok (.iload_n 1, 1) := by decide +kernel
theorem d4_59 : decode prog_38_method_3_code 59 = .ok (.ifCond .ne 13, 3) := by decide +kernel
theorem d4_72 : decode prog_38_method_3_code 72 = .ok (.aload_n 0, 1) := by decide +kernel
theorem d4_73 : decode prog_38_method_3_code 73 = .ok (.getfield 19, 3) := by decide +kernel
theorem d4_76 : decode prog_38_method_3_code 76 = .ok (.arraylength, 1) := by decide +kernel
theorem d4_77 : decode prog_38_method_3_code 77 = .ok (.bipush 8, 2) := by decide +kernel
theorem d4_79 : decode prog_38_method_3_code 79 = .ok (.if_icmp .lt 33, 3) := by decide +kernel
theorem d4_82 : decode prog_38_method_3_code 82 = .ok (.aload_n 0, 1) := by decide +kernel
theorem d4_83 : decode prog_38_method_3_code 83 = .ok (.getfield 19, 3) := by decide +kernel
theorem d4_86 : decode prog_38_method_3_code 86 = .ok (.arraylength, 1) := by decide +kernel
theorem d4_87 : decode prog_38_method_3_code 87 = .ok (.bipush 64, 2) := by decide +kernel
theorem d4_89 : decode prog_38_method_3_code 89 = .ok (.if_icmp .gt 23, 3) := by decide +kernel
theorem d4_92 : decode prog_38_method_3_code 92 = .ok (.aload_n 0, 1) := by decide +kernel
theorem d4_93 : decode prog_38_method_3_code 93 = .ok (.getfield 23, 3) := by decide +kernel
theorem d4_96 : decode prog_38_method_3_code 96 = .ok (.arraylength, 1) := by decide +kernel
theorem d4_97 : decode prog_38_method_3_code 97 = .ok (.bipush 16, 2) := by decide +kernel
theorem d4_99 : decode prog_38_method_3_code 99 = .ok (.if_icmp .lt 13, 3) := by decide +kernel
theorem d4_102 : decode prog_38_method_3_code 102 = .ok (.aload_n 0, 1) := by decide +kernel
theorem d4_103 : decode prog_38_method_3_code 103 = .ok (.getfield 23, 3) := by decide +kernel
theorem d4_106 : decode prog_38_method_3_code 106 = .ok (.arraylength, 1) := by decide +kernel
theorem d4_107 : decode prog_38_method_3_code 107 = .ok (.bipush 64, 2) := by decide +kernel
theorem d4_109 : decode prog_38_method_3_code 109 = .ok (.if_icmp .le 13, 3) := by decide +kernel
theorem d4_122 : decode prog_38_method_3_code 122 = .ok (.return_, 1) := by decide +kernel
theorem ef_4_R (m : MethodId) (x0 : Addr) : entryFrame m #[(.ref x0)] 2 = mkF m 0 #[rv x0, .unset] [] := by first | (simp [entryFrame, mkF, argsToLocals, Value.category]; done) | rfl
def Qrm_chk (Z : State) (a1 : Addr) (p1 : Int32) (p2 : Int32) (p3 : Int32) (a4 : Addr) (a5 : Addr) (vs4 : List Value) (vs5 : List Value) (z4 : Int32) (z5 : Int32) (h0 : Heap) (n0 : Nat) (v : Option Value) (h : Heap) (L : List Loc) : Prop := v = none ∧ Fr n0 L ∧ h = h0
set_option maxRecDepth 65536 in
set_option maxHeartbeats 40000000 in
theorem rm_chk (l : Launch) (Z : State) (a0 : Array Value) (hw : ∀ d ∈ tables_1, d.before a0 Z = true) (ws : List Jvm.Cond) (a1 : Addr) (p1 : Int32) (p2 : Int32) (p3 : Int32) (a4 : Addr) (a5 : Addr) (vs4 : List Value) (vs5 : List Value) (z4 : Int32) (z5 : Int32) (h0 : Heap) (n0 : Nat) (Z0 : n0 ≤ h0.size) (F0 : Fld Z h0 a1 "com/example/rollkeeper/rollkeeper/server/StoredHash$Argon2idHash" "memoryKib" "I" (.int p1)) (F1 : Fld Z h0 a1 "com/example/rollkeeper/rollkeeper/server/StoredHash$Argon2idHash" "passes" "I" (.int p2)) (F2 : Fld Z h0 a1 "com/example/rollkeeper/rollkeeper/server/StoredHash$Argon2idHash" "lanes" "I" (.int p3)) (F3 : Fld Z h0 a1 "com/example/rollkeeper/rollkeeper/server/StoredHash$Argon2idHash" "salt" "[B" (.ref a4)) (F4 : Fld Z h0 a1 "com/example/rollkeeper/rollkeeper/server/StoredHash$Argon2idHash" "tag" "[B" (.ref a5)) (A4 : own_AV Z h0 a4 .byte vs4) (A5 : own_AV Z h0 a5 .byte vs5) (L4 : vs4.length.toInt32 = z4) (L5 : vs5.length.toInt32 = z5) (lo_p1 : ¬ p1 < (19456 : Int32)) (hi_p1 : ¬ (65536 : Int32) < p1) (lo_p2 : ¬ p2 < (2 : Int32)) (hi_p2 : ¬ (4 : Int32) < p2) (lo_p3 : ¬ p3 < (1 : Int32)) (hi_p3 : ¬ (8 : Int32) < p3) (lo_z4 : ¬ z4 < (8 : Int32)) (hi_z4 : ¬ (64 : Int32) < z4) (lo_z5 : ¬ z5 < (16 : Int32)) (hi_z5 : ¬ (64 : Int32) < z5) :
    MetFree l own_y2 (head1 (Jvm.Cond.code own_y2 prog_38_method_3_code 2 none :: ws) ({ frames := 0, cells := 0, slots := 0, locals := 0 } : Room)) (fun a U => a = #[(.ref a1)] ∧ Z.Warmed39 U.vm ∧ U.heap = h0) (fun _ _ _ _ _ => True) (fun _ U o U' => ∃ v L, o = .returned v ∧ Qrm_chk Z a1 p1 p2 p3 a4 a5 vs4 vs5 z4 z5 h0 n0 v U'.heap L ∧ FrameEnd U o U' L ({ frames := 0, cells := 0, slots := 0, locals := 0 } : Room).cells ({ frames := 0, cells := 0, slots := 0, locals := 0 } : Room).slots) := by
  refine MetFree.of_bodySF (plainFor_of_name pn_com_example_rollkeeper_rollkeeper_server_StoredHash_Argon2idHash) hisR ?_
  intro p e s m args below meth c s₁ Bd hml0 hP hK
  obtain ⟨rfl, hZ, hh⟩ := hP
  have hx := Bd.exec
  have hby := Bd.bytes
  have hml : c.maxLocals = 2 := hml0
  have hown : s.vm.findClass "com/example/rollkeeper/rollkeeper/server/StoredHash$Argon2idHash" = some m.cls := findClass_of_methodNamed Bd.named
  have hnm := (name_of_methodNamed Bd.named Bd.method).1
  have X0 : Stand p l e ({ frames := 0, cells := 0, slots := 0, locals := 0 } : Room) s m #[(.ref a1)] below meth c s₁ [] 0 0 := Stand.of_body Bd
  have e0 : s₁.heap = h0 := by rw [← hh, Bd.state]; rfl
  have N0 := Fr.nil n0
  have K0 : Keep h0 h0 [] := Keep.refl _ _
  refine own_start (Qk := Qrm_chk Z a1 p1 p2 p3 a4 a5 vs4 vs5 z4 z5 h0 n0) (fun G hG => ?_)
  refine own_st (fun _ k => castTop (ef_4_R m a1) k) ?_
  show own_Fin p e below G (s₁.setTop (mkF m 0 #[rv a1, .unset] []))
  refine own_st (fun _ k => XS.aloadN X0.here hx rfl (hb hby d4_0) rfl rfl k) ?_
  show own_Fin p e below G (s₁.setTop (mkF m 1 #[rv a1, .unset] [(.ref a1)]))
  obtain ⟨T43, X43, e43, st43⟩ := getF X0 hx hZ hown (host := "") (Or.inl (own_w hw 17 rfl)) Via.refl e0 F0 (g := (mkF m 1 #[rv a1, .unset] [(.ref a1)])) rfl rfl (hb hby d4_1)
  refine own_st st43 ?_
  show own_Fin p e below G (T43.setTop (mkF m 4 #[rv a1, .unset] [(.int p1)]))
  refine own_st (fun _ k => XS.sipush X43.here hx rfl (hb hby d4_4) k) ?_
  show own_Fin p e below G (T43.setTop (mkF m 7 #[rv a1, .unset] [(.int (19456 : Int32)), (.int p1)]))
  refine own_st (fun _ k => XS.icmpNo X43.here hx rfl (hb hby d4_7) rfl (flt lo_p1).1 k) ?_
  show own_Fin p e below G (T43.setTop (mkF m 10 #[rv a1, .unset] []))
  refine own_st (fun _ k => XS.aloadN X43.here hx rfl (hb hby d4_10) rfl rfl k) ?_
  show own_Fin p e below G (T43.setTop (mkF m 11 #[rv a1, .unset] [(.ref a1)]))
  obtain ⟨T44, X44, e44, st44⟩ := getF X43 hx hZ hown (host := "") (Or.inl (own_w hw 17 rfl)) Via.refl e43 F0 (g := (mkF m 11 #[rv a1, .unset] [(.ref a1)])) rfl rfl (hb hby d4_11)
  refine own_st st44 ?_
  show own_Fin p e below G (T44.setTop (mkF m 14 #[rv a1, .unset] [(.int p1)]))
  refine own_st (fun _ k => own_ldc X44 hx hZ hown (own_w hw 32 rfl) (g := (mkF m 14 #[rv a1, .unset] [(.int p1)])) rfl (hb hby d4_14) k) ?_
  show own_Fin p e below G (T44.setTop (mkF m 16 #[rv a1, .unset] [(.int (65536 : Int32)), (.int p1)]))
  refine own_st (fun _ k => XS.icmpNo X44.here hx rfl (hb hby d4_16) rfl (flt hi_p1).2.2.1 k) ?_
  show own_Fin p e below G (T44.setTop (mkF m 19 #[rv a1, .unset] []))
  refine own_st (fun _ k => XS.aloadN X44.here hx rfl (hb hby d4_19) rfl rfl k) ?_
  show own_Fin p e below G (T44.setTop (mkF m 20 #[rv a1, .unset] [(.ref a1)]))
  obtain ⟨T45, X45, e45, st45⟩ := getF X44 hx hZ hown (host := "") (Or.inl (own_w hw 19 rfl)) Via.refl e44 F1 (g := (mkF m 20 #[rv a1, .unset] [(.ref a1)])) rfl rfl (hb hby d4_20)
  refine own_st st45 ?_
  show own_Fin p e below G (T45.setTop (mkF m 23 #[rv a1, .unset] [(.int p2)]))
  refine own_st (fun _ k => XS.iconst X45.here hx rfl (hb hby d4_23) k) ?_
  show own_Fin p e below G (T45.setTop (mkF m 24 #[rv a1, .unset] [(.int (2 : Int32)), (.int p2)]))
  refine own_st (fun _ k => XS.icmpNo X45.here hx rfl (hb hby d4_24) rfl (flt lo_p2).1 k) ?_
  show own_Fin p e below G (T45.setTop (mkF m 27 #[rv a1, .unset] []))
  refine own_st (fun _ k => XS.aloadN X45.here hx rfl (hb hby d4_27) rfl rfl k) ?_
  show own_Fin p e below G (T45.setTop (mkF m 28 #[rv a1, .unset] [(.ref a1)]))
  obtain ⟨T46, X46, e46, st46⟩ := getF X45 hx hZ hown (host := "") (Or.inl (own_w hw 19 rfl)) Via.refl e45 F1 (g := (mkF m 28 #[rv a1, .unset] [(.ref a1)])) rfl rfl (hb hby d4_28)
  refine own_st st46 ?_
  show own_Fin p e below G (T46.setTop (mkF m 31 #[rv a1, .unset] [(.int p2)]))
  refine own_st (fun _ k => XS.iconst X46.here hx rfl (hb hby d4_31) k) ?_
  show own_Fin p e below G (T46.setTop (mkF m 32 #[rv a1, .unset] [(.int (4 : Int32)), (.int p2)]))
  refine own_st (fun _ k => XS.icmpNo X46.here hx rfl (hb hby d4_32) rfl (flt hi_p2).2.2.1 k) ?_
  show own_Fin p e below G (T46.setTop (mkF m 35 #[rv a1, .unset] []))
  refine own_st (fun _ k => XS.aloadN X46.here hx rfl (hb hby d4_35) rfl rfl k) ?_
  show own_Fin p e below G (T46.setTop (mkF m 36 #[rv a1, .unset] [(.ref a1)]))
  obtain ⟨T47, X47, e47, st47⟩ := getF X46 hx hZ hown (host := "") (Or.inl (own_w hw 21 rfl)) Via.refl e46 F2 (g := (mkF m 36 #[rv a1, .unset] [(.ref a1)])) rfl rfl (hb hby d4_36)
  refine own_st st47 ?_
  show own_Fin p e below G (T47.setTop (mkF m 39 #[rv a1, .unset] [(.int p3)]))
  refine own_st (fun _ k => XS.iconst X47.here hx rfl (hb hby d4_39) k) ?_
  show own_Fin p e below G (T47.setTop (mkF m 40 #[rv a1, .unset] [(.int (1 : Int32)), (.int p3)]))
  refine own_st (fun _ k => XS.icmpNo X47.here hx rfl (hb hby d4_40) rfl (flt lo_p3).1 k) ?_
  show own_Fin p e below G (T47.setTop (mkF m 43 #[rv a1, .unset] []))
  refine own_st (fun _ k => XS.aloadN X47.here hx rfl (hb hby d4_43) rfl rfl k) ?_
  show own_Fin p e below G (T47.setTop (mkF m 44 #[rv a1, .unset] [(.ref a1)]))
  obtain ⟨T48, X48, e48, st48⟩ := getF X47 hx hZ hown (host := "") (Or.inl (own_w hw 21 rfl)) Via.refl e47 F2 (g := (mkF m 44 #[rv a1, .unset] [(.ref a1)])) rfl rfl (hb hby d4_44)
  refine own_st st48 ?_
  show own_Fin p e below G (T48.setTop (mkF m 47 #[rv a1, .unset] [(.int p3)]))
  refine own_st (fun _ k => XS.bipush X48.here hx rfl (hb hby d4_47) k) ?_
  show own_Fin p e below G (T48.setTop (mkF m 49 #[rv a1, .unset] [(.int (8 : Int32)), (.int p3)]))
  refine own_st (fun _ k => XS.icmpNo X48.here hx rfl (hb hby d4_49) rfl (flt hi_p3).2.2.1 k) ?_
  show own_Fin p e below G (T48.setTop (mkF m 52 #[rv a1, .unset] []))
  refine own_st (fun _ k => XS.iconst X48.here hx rfl (hb hby d4_52) k) ?_
  show own_Fin p e below G (T48.setTop (mkF m 53 #[rv a1, .unset] [(.int (1 : Int32))]))
  refine own_st (fun _ k => XS.goto X48.here hx rfl (pc0 := 53) (pc' := 57) rfl (hb hby d4_53) (by decide) (by decide) k) ?_
  show own_Fin p e below G (T48.setTop (mkF m 57 #[rv a1, .unset] [(.int (1 : Int32))]))
  refine own_st (fun _ k => XS.istoreN X48.here hx rfl (hb hby d4_57) rfl (l' := #[rv a1, iv (1 : Int32)]) rfl k) ?_
  show own_Fin p e below G (T48.setTop (mkF m 58 #[rv a1, iv (1 : Int32)] []))
  refine own_st (fun _ k => XS.iloadN X48.here hx rfl (hb hby d4_58) rfl  k) ?_
  show own_Fin p e below G (T48.setTop (mkF m 59 #[rv a1, iv (1 : Int32)] [(.int (1 : Int32))]))
  refine own_st (fun _ k => XS.ifYes X48.here hx rfl (pc0 := 59) (pc' := 72) rfl (hb hby d4_59) rfl ((if0 _ _).trans (feq (by decide : ¬ ((1 : Int32) = (0 : Int32)))).2) (by decide) (by decide) k) ?_
  show own_Fin p e below G (T48.setTop (mkF m 72 #[rv a1, iv (1 : Int32)] []))
  refine own_st (fun _ k => XS.aloadN X48.here hx rfl (hb hby d4_72) rfl rfl k) ?_
  show own_Fin p e below G (T48.setTop (mkF m 73 #[rv a1, iv (1 : Int32)] [(.ref a1)]))
  obtain ⟨T49, X49, e49, st49⟩ := getF X48 hx hZ hown (host := "") (Or.inl (own_w hw 23 rfl)) Via.refl e48 F3 (g := (mkF m 73 #[rv a1, iv (1 : Int32)] [(.ref a1)])) rfl rfl (hb hby d4_73)
  refine own_st st49 ?_
  show own_Fin p e below G (T49.setTop (mkF m 76 #[rv a1, iv (1 : Int32)] [(.ref a4)]))
  refine own_st (fun _ k => own_len X49 hx hZ e49 A4 (z := z4) L4 (g := (mkF m 76 #[rv a1, iv (1 : Int32)] [(.ref a4)])) rfl rfl (hb hby d4_76) k) ?_
  show own_Fin p e below G (T49.setTop (mkF m 77 #[rv a1, iv (1 : Int32)] [(.int z4)]))
  refine own_st (fun _ k => XS.bipush X49.here hx rfl (hb hby d4_77) k) ?_
  show own_Fin p e below G (T49.setTop (mkF m 79 #[rv a1, iv (1 : Int32)] [(.int (8 : Int32)), (.int z4)]))
  refine own_st (fun _ k => XS.icmpNo X49.here hx rfl (hb hby d4_79) rfl (flt lo_z4).1 k) ?_
  show own_Fin p e below G (T49.setTop (mkF m 82 #[rv a1, iv (1 : Int32)] []))
  refine own_st (fun _ k => XS.aloadN X49.here hx rfl (hb hby d4_82) rfl rfl k) ?_
  show own_Fin p e below G (T49.setTop (mkF m 83 #[rv a1, iv (1 : Int32)] [(.ref a1)]))
  obtain ⟨T50, X50, e50, st50⟩ := getF X49 hx hZ hown (host := "") (Or.inl (own_w hw 23 rfl)) Via.refl e49 F3 (g := (mkF m 83 #[rv a1, iv (1 : Int32)] [(.ref a1)])) rfl rfl (hb hby d4_83)
  refine own_st st50 ?_
  show own_Fin p e below G (T50.setTop (mkF m 86 #[rv a1, iv (1 : Int32)] [(.ref a4)]))
  refine own_st (fun _ k => own_len X50 hx hZ e50 A4 (z := z4) L4 (g := (mkF m 86 #[rv a1, iv (1 : Int32)] [(.ref a4)])) rfl rfl (hb hby d4_86) k) ?_
  show own_Fin p e below G (T50.setTop (mkF m 87 #[rv a1, iv (1 : Int32)] [(.int z4)]))
  refine own_st (fun _ k => XS.bipush X50.here hx rfl (hb hby d4_87) k) ?_
  show own_Fin p e below G (T50.setTop (mkF m 89 #[rv a1, iv (1 : Int32)] [(.int (64 : Int32)), (.int z4)]))
  refine own_st (fun _ k => XS.icmpNo X50.here hx rfl (hb hby d4_89) rfl (flt hi_z4).2.2.1 k) ?_
  show own_Fin p e below G (T50.setTop (mkF m 92 #[rv a1, iv (1 : Int32)] []))
  refine own_st (fun _ k => XS.aloadN X50.here hx rfl (hb hby d4_92) rfl rfl k) ?_
  show own_Fin p e below G (T50.setTop (mkF m 93 #[rv a1, iv (1 : Int32)] [(.ref a1)]))
  obtain ⟨T51, X51, e51, st51⟩ := getF X50 hx hZ hown (host := "") (Or.inl (own_w hw 25 rfl)) Via.refl e50 F4 (g := (mkF m 93 #[rv a1, iv (1 : Int32)] [(.ref a1)])) rfl rfl (hb hby d4_93)
  refine own_st st51 ?_
  show own_Fin p e below G (T51.setTop (mkF m 96 #[rv a1, iv (1 : Int32)] [(.ref a5)]))
  refine own_st (fun _ k => own_len X51 hx hZ e51 A5 (z := z5) L5 (g := (mkF m 96 #[rv a1, iv (1 : Int32)] [(.ref a5)])) rfl rfl (hb hby d4_96) k) ?_
  show own_Fin p e below G (T51.setTop (mkF m 97 #[rv a1, iv (1 : Int32)] [(.int z5)]))
  refine own_st (fun _ k => XS.bipush X51.here hx rfl (hb hby d4_97) k) ?_
  show own_Fin p e below G (T51.setTop (mkF m 99 #[rv a1, iv (1 : Int32)] [(.int (16 : Int32)), (.int z5)]))
  refine own_st (fun _ k => XS.icmpNo X51.here hx rfl (hb hby d4_99) rfl (flt lo_z5).1 k) ?_
  show own_Fin p e below G (T51.setTop (mkF m 102 #[rv a1, iv (1 : Int32)] []))
  refine own_st (fun _ k => XS.aloadN X51.here hx rfl (hb hby d4_102) rfl rfl k) ?_
  show own_Fin p e below G (T51.setTop (mkF m 103 #[rv a1, iv (1 : Int32)] [(.ref a1)]))
  obtain ⟨T52, X52, e52, st52⟩ := getF X51 hx hZ hown (host := "") (Or.inl (own_w hw 25 rfl)) Via.refl e51 F4 (g := (mkF m 103 #[rv a1, iv (1 : Int32)] [(.ref a1)])) rfl rfl (hb hby d4_103)
  refine own_st st52 ?_
  show own_Fin p e below G (T52.setTop (mkF m 106 #[rv a1, iv (1 : Int32)] [(.ref a5)]))
  refine own_st (fun _ k => own_len X52 hx hZ e52 A5 (z := z5) L5 (g := (mkF m 106 #[rv a1, iv (1 : Int32)] [(.ref a5)])) rfl rfl (hb hby d4_106) k) ?_
  show own_Fin p e below G (T52.setTop (mkF m 107 #[rv a1, iv (1 : Int32)] [(.int z5)]))
  refine own_st (fun _ k => XS.bipush X52.here hx rfl (hb hby d4_107) k) ?_
  show own_Fin p e below G (T52.setTop (mkF m 109 #[rv a1, iv (1 : Int32)] [(.int (64 : Int32)), (.int z5)]))
  refine own_st (fun _ k => XS.icmpYes X52.here hx rfl (pc0 := 109) (pc' := 122) rfl (hb hby d4_109) rfl (flt hi_z5).2.2.2 (by decide) (by decide) k) ?_
  show own_Fin p e below G (T52.setTop (mkF m 122 #[rv a1, iv (1 : Int32)] []))
  refine own_out X52 Bd.notSynchronized (v := none) (fun _ => rfl) hG (fun fs hr => X52.returnOut hx Bd.returns (hb hby d4_122) hr) (by decide) (by decide) ?_
  exact ⟨rfl, N0, e52⟩

theorem pd__III_B_B_V_700 : parseMethodDescriptor "(III[B[B)V" = some ⟨[.int, .int, .int, (.array .byte), (.array .byte)], none⟩ := by decide +kernel
theorem pn_com_example_rollkeeper_rollkeeper_server_Argon2idHashCheckBoundsPinLaw : plainName "com/example/rollkeeper/rollkeeper/server/Argon2idHashCheckBoundsPinLaw" = true := by first | (simp [plainName, overriddenIn]; done) | decide +kernel
theorem ef_0_IIIII (m : MethodId) (x0 : Int32) (x1 : Int32) (x2 : Int32) (x3 : Int32) (x4 : Int32) : entryFrame m #[(.int x0), (.int x1), (.int x2), (.int x3), (.int x4)] maxLocals = mkF m 0 #[iv x0, iv x1, iv x2, iv x3, iv x4, .unset, .unset, .unset, .unset, .unset, .unset, .unset, .unset] [] := by first | (simp [entryFrame, mkF, argsToLocals, Value.category, maxLocals]; done) | rfl
def Qrm0 (Z : State) (p1 : Int32) (p2 : Int32) (p3 : Int32) (p4 : Int32) (p5 : Int32) (h0 : Heap) (n0 : Nat) (v : Option Value) (h : Heap) (L : List Loc) : Prop := v = some (.int 1) ∧ Fr n0 L
set_option maxRecDepth 65536 in
set_option maxHeartbeats 40000000 in
theorem rm0 (l : Launch) (Z : State) (a0 : Array Value) (hw : ∀ d ∈ tables_1, d.before a0 Z = true) (ws : List Jvm.Cond) (p1 : Int32) (p2 : Int32) (p3 : Int32) (p4 : Int32) (p5 : Int32) (h0 : Heap) (n0 : Nat) (Z0 : n0 ≤ h0.size) :
    MetFree l x (head1 (Jvm.Cond.code x code maxLocals ret :: ws) room_1) (fun a U => a = #[(.int p1), (.int p2), (.int p3), (.int p4), (.int p5)] ∧ Z.Warmed39 U.vm ∧ U.heap = h0) (fun _ _ _ _ _ => True) (fun _ U o U' => ∃ v L, o = .returned v ∧ Qrm0 Z p1 p2 p3 p4 p5 h0 n0 v U'.heap L ∧ FrameEnd U o U' L room_1.cells room_1.slots) := by
  refine MetFree.of_bodySF (plainFor_of_name pn_com_example_rollkeeper_rollkeeper_server_Argon2idHashCheckBoundsPinLaw) hisR ?_
  intro p e s m args below meth c s₁ Bd hml0 hP hK
  obtain ⟨rfl, hZ, hh⟩ := hP
  have hx := Bd.exec
  have hby := Bd.bytes
  have hml : c.maxLocals = 13 := hml0
  have hown : s.vm.findClass "com/example/rollkeeper/rollkeeper/server/Argon2idHashCheckBoundsPinLaw" = some m.cls := findClass_of_methodNamed Bd.named
  have hnm := (name_of_methodNamed Bd.named Bd.method).1
  have X0 : Stand p l e room_1 s m #[(.int p1), (.int p2), (.int p3), (.int p4), (.int p5)] below meth c s₁ [] 0 0 := Stand.of_body Bd
  have e0 : s₁.heap = h0 := by rw [← hh, Bd.state]; rfl
  have N0 := Fr.nil n0
  have K0 : Keep h0 h0 [] := Keep.refl _ _
  refine own_start (Qk := Qrm0 Z p1 p2 p3 p4 p5 h0 n0) (fun G hG => ?_)
  refine own_st (fun _ k => castTop (ef_0_IIIII m p1 p2 p3 p4 p5) k) ?_
  show own_Fin p e below G (s₁.setTop (mkF m 0 #[iv p1, iv p2, iv p3, iv p4, iv p5, .unset, .unset, .unset, .unset, .unset, .unset, .unset, .unset] []))
  refine own_st (fun _ k => XS.sipush X0.here hx rfl (hb hby at_0) k) ?_
  show own_Fin p e below G (s₁.setTop (mkF m 3 #[iv p1, iv p2, iv p3, iv p4, iv p5, .unset, .unset, .unset, .unset, .unset, .unset, .unset, .unset] [(.int (19456 : Int32))]))
  refine own_st (fun _ k => XS.iloadN X0.here hx rfl (hb hby at_3) rfl  k) ?_
  show own_Fin p e below G (s₁.setTop (mkF m 4 #[iv p1, iv p2, iv p3, iv p4, iv p5, .unset, .unset, .unset, .unset, .unset, .unset, .unset, .unset] [(.int p1), (.int (19456 : Int32))]))
  refine own_st (fun _ k => own_ldc X0 hx hZ hown (own_w hw 0 rfl) (g := (mkF m 4 #[iv p1, iv p2, iv p3, iv p4, iv p5, .unset, .unset, .unset, .unset, .unset, .unset, .unset, .unset] [(.int p1), (.int (19456 : Int32))])) rfl (hb hby at_4) k) ?_
  show own_Fin p e below G (s₁.setTop (mkF m 6 #[iv p1, iv p2, iv p3, iv p4, iv p5, .unset, .unset, .unset, .unset, .unset, .unset, .unset, .unset] [(.int (2147483647 : Int32)), (.int p1), (.int (19456 : Int32))]))
  refine own_st (fun _ k => XS.iand X0.here hx rfl (hb hby at_6) rfl k) ?_
  show own_Fin p e below G (s₁.setTop (mkF m 7 #[iv p1, iv p2, iv p3, iv p4, iv p5, .unset, .unset, .unset, .unset, .unset, .unset, .unset, .unset] [(.int (p1 &&& (2147483647 : Int32))), (.int (19456 : Int32))]))
  refine own_st (fun _ k => own_ldc X0 hx hZ hown (own_w hw 1 rfl) (g := (mkF m 7 #[iv p1, iv p2, iv p3, iv p4, iv p5, .unset, .unset, .unset, .unset, .unset, .unset, .unset, .unset] [(.int (p1 &&& (2147483647 : Int32))), (.int (19456 : Int32))])) rfl (hb hby at_7) k) ?_
  show own_Fin p e below G (s₁.setTop (mkF m 9 #[iv p1, iv p2, iv p3, iv p4, iv p5, .unset, .unset, .unset, .unset, .unset, .unset, .unset, .unset] [(.int (46081 : Int32)), (.int (p1 &&& (2147483647 : Int32))), (.int (19456 : Int32))]))
  refine own_st (fun _ k => iremM (g := (mkF m 9 #[iv p1, iv p2, iv p3, iv p4, iv p5, .unset, .unset, .unset, .unset, .unset, .unset, .unset, .unset] [(.int (46081 : Int32)), (.int (p1 &&& (2147483647 : Int32))), (.int (19456 : Int32))])) X0 hx rfl (hb hby at_9) rfl (by decide) k) ?_
  show own_Fin p e below G (s₁.setTop (mkF m 10 #[iv p1, iv p2, iv p3, iv p4, iv p5, .unset, .unset, .unset, .unset, .unset, .unset, .unset, .unset] [(.int ((p1 &&& (2147483647 : Int32)) % (46081 : Int32))), (.int (19456 : Int32))]))
  refine own_st (fun _ k => XS.iadd X0.here hx rfl (hb hby at_10) rfl k) ?_
  show own_Fin p e below G (s₁.setTop (mkF m 11 #[iv p1, iv p2, iv p3, iv p4, iv p5, .unset, .unset, .unset, .unset, .unset, .unset, .unset, .unset] [(.int ((19456 : Int32) + ((p1 &&& (2147483647 : Int32)) % (46081 : Int32))))]))
  generalize e_v53 : ((19456 : Int32) + ((p1 &&& (2147483647 : Int32)) % (46081 : Int32))) = v53
  show own_Fin p e below G (s₁.setTop (mkF m 11 #[iv p1, iv p2, iv p3, iv p4, iv p5, .unset, .unset, .unset, .unset, .unset, .unset, .unset, .unset] [(.int v53)]))
  have r_v53 := own_rng p1 19456 46081 19456 46081 rfl rfl (by decide) (by decide) (by decide)
  rw [e_v53] at r_v53
  have lo_v53 : ¬ v53 < (19456 : Int32) := own_nlt (n := 19456) rfl (by omega)
  have hi_v53 : ¬ (65536 : Int32) < v53 := own_ngt (n := 65536) rfl (by omega)
  refine own_st (fun _ k => XS.istore X0.here hx rfl (hb hby at_11) rfl (l' := #[iv p1, iv p2, iv p3, iv p4, iv p5, iv v53, .unset, .unset, .unset, .unset, .unset, .unset, .unset]) rfl k) ?_
  show own_Fin p e below G (s₁.setTop (mkF m 13 #[iv p1, iv p2, iv p3, iv p4, iv p5, iv v53, .unset, .unset, .unset, .unset, .unset, .unset, .unset] []))
  refine own_st (fun _ k => XS.iconst X0.here hx rfl (hb hby at_13) k) ?_
  show own_Fin p e below G (s₁.setTop (mkF m 14 #[iv p1, iv p2, iv p3, iv p4, iv p5, iv v53, .unset, .unset, .unset, .unset, .unset, .unset, .unset] [(.int (2 : Int32))]))
  refine own_st (fun _ k => XS.iloadN X0.here hx rfl (hb hby at_14) rfl  k) ?_
  show own_Fin p e below G (s₁.setTop (mkF m 15 #[iv p1, iv p2, iv p3, iv p4, iv p5, iv v53, .unset, .unset, .unset, .unset, .unset, .unset, .unset] [(.int p2), (.int (2 : Int32))]))
  refine own_st (fun _ k => own_ldc X0 hx hZ hown (own_w hw 0 rfl) (g := (mkF m 15 #[iv p1, iv p2, iv p3, iv p4, iv p5, iv v53, .unset, .unset, .unset, .unset, .unset, .unset, .unset] [(.int p2), (.int (2 : Int32))])) rfl (hb hby at_15) k) ?_
  show own_Fin p e below G (s₁.setTop (mkF m 17 #[iv p1, iv p2, iv p3, iv p4, iv p5, iv v53, .unset, .unset, .unset, .unset, .unset, .unset, .unset] [(.int (2147483647 : Int32)), (.int p2), (.int (2 : Int32))]))
  refine own_st (fun _ k => XS.iand X0.here hx rfl (hb hby at_17) rfl k) ?_
  show own_Fin p e below G (s₁.setTop (mkF m 18 #[iv p1, iv p2, iv p3, iv p4, iv p5, iv v53, .unset, .unset, .unset, .unset, .unset, .unset, .unset] [(.int (p2 &&& (2147483647 : Int32))), (.int (2 : Int32))]))
  refine own_st (fun _ k => XS.iconst X0.here hx rfl (hb hby at_18) k) ?_
  show own_Fin p e below G (s₁.setTop (mkF m 19 #[iv p1, iv p2, iv p3, iv p4, iv p5, iv v53, .unset, .unset, .unset, .unset, .unset, .unset, .unset] [(.int (3 : Int32)), (.int (p2 &&& (2147483647 : Int32))), (.int (2 : Int32))]))
  refine own_st (fun _ k => iremM (g := (mkF m 19 #[iv p1, iv p2, iv p3, iv p4, iv p5, iv v53, .unset, .unset, .unset, .unset, .unset, .unset, .unset] [(.int (3 : Int32)), (.int (p2 &&& (2147483647 : Int32))), (.int (2 : Int32))])) X0 hx rfl (hb hby at_19) rfl (by decide) k) ?_
  show own_Fin p e below G (s₁.setTop (mkF m 20 #[iv p1, iv p2, iv p3, iv p4, iv p5, iv v53, .unset, .unset, .unset, .unset, .unset, .unset, .unset] [(.int ((p2 &&& (2147483647 : Int32)) % (3 : Int32))), (.int (2 : Int32))]))
  refine own_st (fun _ k => XS.iadd X0.here hx rfl (hb hby at_20) rfl k) ?_
  show own_Fin p e below G (s₁.setTop (mkF m 21 #[iv p1, iv p2, iv p3, iv p4, iv p5, iv v53, .unset, .unset, .unset, .unset, .unset, .unset, .unset] [(.int ((2 : Int32) + ((p2 &&& (2147483647 : Int32)) % (3 : Int32))))]))
  generalize e_v54 : ((2 : Int32) + ((p2 &&& (2147483647 : Int32)) % (3 : Int32))) = v54
  show own_Fin p e below G (s₁.setTop (mkF m 21 #[iv p1, iv p2, iv p3, iv p4, iv p5, iv v53, .unset, .unset, .unset, .unset, .unset, .unset, .unset] [(.int v54)]))
  have r_v54 := own_rng p2 2 3 2 3 rfl rfl (by decide) (by decide) (by decide)
  rw [e_v54] at r_v54
  have lo_v54 : ¬ v54 < (2 : Int32) := own_nlt (n := 2) rfl (by omega)
  have hi_v54 : ¬ (4 : Int32) < v54 := own_ngt (n := 4) rfl (by omega)
  refine own_st (fun _ k => XS.istore X0.here hx rfl (hb hby at_21) rfl (l' := #[iv p1, iv p2, iv p3, iv p4, iv p5, iv v53, iv v54, .unset, .unset, .unset, .unset, .unset, .unset]) rfl k) ?_
  show own_Fin p e below G (s₁.setTop (mkF m 23 #[iv p1, iv p2, iv p3, iv p4, iv p5, iv v53, iv v54, .unset, .unset, .unset, .unset, .unset, .unset] []))
  refine own_st (fun _ k => XS.iconst X0.here hx rfl (hb hby at_23) k) ?_
  show own_Fin p e below G (s₁.setTop (mkF m 24 #[iv p1, iv p2, iv p3, iv p4, iv p5, iv v53, iv v54, .unset, .unset, .unset, .unset, .unset, .unset] [(.int (1 : Int32))]))
  refine own_st (fun _ k => XS.iloadN X0.here hx rfl (hb hby at_24) rfl  k) ?_
  show own_Fin p e below G (s₁.setTop (mkF m 25 #[iv p1, iv p2, iv p3, iv p4, iv p5, iv v53, iv v54, .unset, .unset, .unset, .unset, .unset, .unset] [(.int p3), (.int (1 : Int32))]))
  refine own_st (fun _ k => XS.bipush X0.here hx rfl (hb hby at_25) k) ?_
  show own_Fin p e below G (s₁.setTop (mkF m 27 #[iv p1, iv p2, iv p3, iv p4, iv p5, iv v53, iv v54, .unset, .unset, .unset, .unset, .unset, .unset] [(.int (7 : Int32)), (.int p3), (.int (1 : Int32))]))
  refine own_st (fun _ k => XS.iand X0.here hx rfl (hb hby at_27) rfl k) ?_
  show own_Fin p e below G (s₁.setTop (mkF m 28 #[iv p1, iv p2, iv p3, iv p4, iv p5, iv v53, iv v54, .unset, .unset, .unset, .unset, .unset, .unset] [(.int (p3 &&& (7 : Int32))), (.int (1 : Int32))]))
  refine own_st (fun _ k => XS.iadd X0.here hx rfl (hb hby at_28) rfl k) ?_
  show own_Fin p e below G (s₁.setTop (mkF m 29 #[iv p1, iv p2, iv p3, iv p4, iv p5, iv v53, iv v54, .unset, .unset, .unset, .unset, .unset, .unset] [(.int ((1 : Int32) + (p3 &&& (7 : Int32))))]))
  generalize e_v55 : ((1 : Int32) + (p3 &&& (7 : Int32))) = v55
  show own_Fin p e below G (s₁.setTop (mkF m 29 #[iv p1, iv p2, iv p3, iv p4, iv p5, iv v53, iv v54, .unset, .unset, .unset, .unset, .unset, .unset] [(.int v55)]))
  have r_v55 := own_rng7 p3
  rw [e_v55] at r_v55
  have lo_v55 : ¬ v55 < (1 : Int32) := own_nlt (n := 1) rfl (by omega)
  have hi_v55 : ¬ (8 : Int32) < v55 := own_ngt (n := 8) rfl (by omega)
  refine own_st (fun _ k => XS.istore X0.here hx rfl (hb hby at_29) rfl (l' := #[iv p1, iv p2, iv p3, iv p4, iv p5, iv v53, iv v54, iv v55, .unset, .unset, .unset, .unset, .unset]) rfl k) ?_
  show own_Fin p e below G (s₁.setTop (mkF m 31 #[iv p1, iv p2, iv p3, iv p4, iv p5, iv v53, iv v54, iv v55, .unset, .unset, .unset, .unset, .unset] []))
  refine own_st (fun _ k => XS.bipush X0.here hx rfl (hb hby at_31) k) ?_
  show own_Fin p e below G (s₁.setTop (mkF m 33 #[iv p1, iv p2, iv p3, iv p4, iv p5, iv v53, iv v54, iv v55, .unset, .unset, .unset, .unset, .unset] [(.int (8 : Int32))]))
  refine own_st (fun _ k => XS.iloadN X0.here hx rfl (hb hby at_33) rfl  k) ?_
  show own_Fin p e below G (s₁.setTop (mkF m 34 #[iv p1, iv p2, iv p3, iv p4, iv p5, iv v53, iv v54, iv v55, .unset, .unset, .unset, .unset, .unset] [(.int p4), (.int (8 : Int32))]))
  refine own_st (fun _ k => own_ldc X0 hx hZ hown (own_w hw 0 rfl) (g := (mkF m 34 #[iv p1, iv p2, iv p3, iv p4, iv p5, iv v53, iv v54, iv v55, .unset, .unset, .unset, .unset, .unset] [(.int p4), (.int (8 : Int32))])) rfl (hb hby at_34) k) ?_
  show own_Fin p e below G (s₁.setTop (mkF m 36 #[iv p1, iv p2, iv p3, iv p4, iv p5, iv v53, iv v54, iv v55, .unset, .unset, .unset, .unset, .unset] [(.int (2147483647 : Int32)), (.int p4), (.int (8 : Int32))]))
  refine own_st (fun _ k => XS.iand X0.here hx rfl (hb hby at_36) rfl k) ?_
  show own_Fin p e below G (s₁.setTop (mkF m 37 #[iv p1, iv p2, iv p3, iv p4, iv p5, iv v53, iv v54, iv v55, .unset, .unset, .unset, .unset, .unset] [(.int (p4 &&& (2147483647 : Int32))), (.int (8 : Int32))]))
  refine own_st (fun _ k => XS.bipush X0.here hx rfl (hb hby at_37) k) ?_
  show own_Fin p e below G (s₁.setTop (mkF m 39 #[iv p1, iv p2, iv p3, iv p4, iv p5, iv v53, iv v54, iv v55, .unset, .unset, .unset, .unset, .unset] [(.int (57 : Int32)), (.int (p4 &&& (2147483647 : Int32))), (.int (8 : Int32))]))
  refine own_st (fun _ k => iremM (g := (mkF m 39 #[iv p1, iv p2, iv p3, iv p4, iv p5, iv v53, iv v54, iv v55, .unset, .unset, .unset, .unset, .unset] [(.int (57 : Int32)), (.int (p4 &&& (2147483647 : Int32))), (.int (8 : Int32))])) X0 hx rfl (hb hby at_39) rfl (by decide) k) ?_
  show own_Fin p e below G (s₁.setTop (mkF m 40 #[iv p1, iv p2, iv p3, iv p4, iv p5, iv v53, iv v54, iv v55, .unset, .unset, .unset, .unset, .unset] [(.int ((p4 &&& (2147483647 : Int32)) % (57 : Int32))), (.int (8 : Int32))]))
  refine own_st (fun _ k => XS.iadd X0.here hx rfl (hb hby at_40) rfl k) ?_
  show own_Fin p e below G (s₁.setTop (mkF m 41 #[iv p1, iv p2, iv p3, iv p4, iv p5, iv v53, iv v54, iv v55, .unset, .unset, .unset, .unset, .unset] [(.int ((8 : Int32) + ((p4 &&& (2147483647 : Int32)) % (57 : Int32))))]))
  generalize e_v56 : ((8 : Int32) + ((p4 &&& (2147483647 : Int32)) % (57 : Int32))) = v56
  show own_Fin p e below G (s₁.setTop (mkF m 41 #[iv p1, iv p2, iv p3, iv p4, iv p5, iv v53, iv v54, iv v55, .unset, .unset, .unset, .unset, .unset] [(.int v56)]))
  have r_v56 := own_rng p4 8 57 8 57 rfl rfl (by decide) (by decide) (by decide)
  rw [e_v56] at r_v56
  have lo_v56 : ¬ v56 < (8 : Int32) := own_nlt (n := 8) rfl (by omega)
  have hi_v56 : ¬ (64 : Int32) < v56 := own_ngt (n := 64) rfl (by omega)
  have nn_v56 : ¬ v56 < (0 : Int32) := own_nlt (n := 0) rfl (by omega)
  refine own_st (fun _ k => XS.istore X0.here hx rfl (hb hby at_41) rfl (l' := #[iv p1, iv p2, iv p3, iv p4, iv p5, iv v53, iv v54, iv v55, iv v56, .unset, .unset, .unset, .unset]) rfl k) ?_
  show own_Fin p e below G (s₁.setTop (mkF m 43 #[iv p1, iv p2, iv p3, iv p4, iv p5, iv v53, iv v54, iv v55, iv v56, .unset, .unset, .unset, .unset] []))
  refine own_st (fun _ k => XS.bipush X0.here hx rfl (hb hby at_43) k) ?_
  show own_Fin p e below G (s₁.setTop (mkF m 45 #[iv p1, iv p2, iv p3, iv p4, iv p5, iv v53, iv v54, iv v55, iv v56, .unset, .unset, .unset, .unset] [(.int (16 : Int32))]))
  refine own_st (fun _ k => XS.iload X0.here hx rfl (hb hby at_45) rfl  k) ?_
  show own_Fin p e below G (s₁.setTop (mkF m 47 #[iv p1, iv p2, iv p3, iv p4, iv p5, iv v53, iv v54, iv v55, iv v56, .unset, .unset, .unset, .unset] [(.int p5), (.int (16 : Int32))]))
  refine own_st (fun _ k => own_ldc X0 hx hZ hown (own_w hw 0 rfl) (g := (mkF m 47 #[iv p1, iv p2, iv p3, iv p4, iv p5, iv v53, iv v54, iv v55, iv v56, .unset, .unset, .unset, .unset] [(.int p5), (.int (16 : Int32))])) rfl (hb hby at_47) k) ?_
  show own_Fin p e below G (s₁.setTop (mkF m 49 #[iv p1, iv p2, iv p3, iv p4, iv p5, iv v53, iv v54, iv v55, iv v56, .unset, .unset, .unset, .unset] [(.int (2147483647 : Int32)), (.int p5), (.int (16 : Int32))]))
  refine own_st (fun _ k => XS.iand X0.here hx rfl (hb hby at_49) rfl k) ?_
  show own_Fin p e below G (s₁.setTop (mkF m 50 #[iv p1, iv p2, iv p3, iv p4, iv p5, iv v53, iv v54, iv v55, iv v56, .unset, .unset, .unset, .unset] [(.int (p5 &&& (2147483647 : Int32))), (.int (16 : Int32))]))
  refine own_st (fun _ k => XS.bipush X0.here hx rfl (hb hby at_50) k) ?_
  show own_Fin p e below G (s₁.setTop (mkF m 52 #[iv p1, iv p2, iv p3, iv p4, iv p5, iv v53, iv v54, iv v55, iv v56, .unset, .unset, .unset, .unset] [(.int (49 : Int32)), (.int (p5 &&& (2147483647 : Int32))), (.int (16 : Int32))]))
  refine own_st (fun _ k => iremM (g := (mkF m 52 #[iv p1, iv p2, iv p3, iv p4, iv p5, iv v53, iv v54, iv v55, iv v56, .unset, .unset, .unset, .unset] [(.int (49 : Int32)), (.int (p5 &&& (2147483647 : Int32))), (.int (16 : Int32))])) X0 hx rfl (hb hby at_52) rfl (by decide) k) ?_
  show own_Fin p e below G (s₁.setTop (mkF m 53 #[iv p1, iv p2, iv p3, iv p4, iv p5, iv v53, iv v54, iv v55, iv v56, .unset, .unset, .unset, .unset] [(.int ((p5 &&& (2147483647 : Int32)) % (49 : Int32))), (.int (16 : Int32))]))
  refine own_st (fun _ k => XS.iadd X0.here hx rfl (hb hby at_53) rfl k) ?_
  show own_Fin p e below G (s₁.setTop (mkF m 54 #[iv p1, iv p2, iv p3, iv p4, iv p5, iv v53, iv v54, iv v55, iv v56, .unset, .unset, .unset, .unset] [(.int ((16 : Int32) + ((p5 &&& (2147483647 : Int32)) % (49 : Int32))))]))
  generalize e_v57 : ((16 : Int32) + ((p5 &&& (2147483647 : Int32)) % (49 : Int32))) = v57
  show own_Fin p e below G (s₁.setTop (mkF m 54 #[iv p1, iv p2, iv p3, iv p4, iv p5, iv v53, iv v54, iv v55, iv v56, .unset, .unset, .unset, .unset] [(.int v57)]))
  have r_v57 := own_rng p5 16 49 16 49 rfl rfl (by decide) (by decide) (by decide)
  rw [e_v57] at r_v57
  have lo_v57 : ¬ v57 < (16 : Int32) := own_nlt (n := 16) rfl (by omega)
  have hi_v57 : ¬ (64 : Int32) < v57 := own_ngt (n := 64) rfl (by omega)
  have nn_v57 : ¬ v57 < (0 : Int32) := own_nlt (n := 0) rfl (by omega)
  refine own_st (fun _ k => XS.istore X0.here hx rfl (hb hby at_54) rfl (l' := #[iv p1, iv p2, iv p3, iv p4, iv p5, iv v53, iv v54, iv v55, iv v56, iv v57, .unset, .unset, .unset]) rfl k) ?_
  show own_Fin p e below G (s₁.setTop (mkF m 56 #[iv p1, iv p2, iv p3, iv p4, iv p5, iv v53, iv v54, iv v55, iv v56, iv v57, .unset, .unset, .unset] []))
  refine own_st (fun _ k => XS.iload X0.here hx rfl (hb hby at_56) rfl  k) ?_
  show own_Fin p e below G (s₁.setTop (mkF m 58 #[iv p1, iv p2, iv p3, iv p4, iv p5, iv v53, iv v54, iv v55, iv v56, iv v57, .unset, .unset, .unset] [(.int v56)]))
  obtain ⟨T58, h58, k58, X58, e58, E58, A58, st58⟩ := newP X0 hx hZ (own_w hw 2 rfl) e0 (g := (mkF m 58 #[iv p1, iv p2, iv p3, iv p4, iv p5, iv v53, iv v54, iv v55, iv v56, iv v57, .unset, .unset, .unset] [(.int v56)])) rfl (hb hby at_58) rfl nn_v56 (cap := 64) (own_cap (by omega)) (by decide) (by decide) (by decide)
  obtain ⟨b58, g58⟩ : ∃ z, z = h0.size := ⟨_, rfl⟩
  rw [← g58] at A58 st58
  have sz_b58 : h0.size ≤ b58 := Nat.le_trans K0.1 (Nat.le_of_eq g58.symm)
  have g_b58 : n0 ≤ b58 := Nat.le_trans Z0 sz_b58
  have K60 : Keep h0 h58 [] := K0.ext E58
  have V58 : own_AV Z h58 b58 .byte (List.replicate v56.toNatClampNeg (.int 0)) := own_AV_new A58
  refine own_st st58 ?_
  show own_Fin p e below G (T58.setTop (mkF m 60 #[iv p1, iv p2, iv p3, iv p4, iv p5, iv v53, iv v54, iv v55, iv v56, iv v57, .unset, .unset, .unset] [(.ref b58)]))
  refine own_st (fun _ k => XS.astore X58.here hx rfl (hb hby at_60) rfl rfl (l' := #[iv p1, iv p2, iv p3, iv p4, iv p5, iv v53, iv v54, iv v55, iv v56, iv v57, rv b58, .unset, .unset]) rfl k) ?_
  show own_Fin p e below G (T58.setTop (mkF m 62 #[iv p1, iv p2, iv p3, iv p4, iv p5, iv v53, iv v54, iv v55, iv v56, iv v57, rv b58, .unset, .unset] []))
  refine own_st (fun _ k => XS.iload X58.here hx rfl (hb hby at_62) rfl  k) ?_
  show own_Fin p e below G (T58.setTop (mkF m 64 #[iv p1, iv p2, iv p3, iv p4, iv p5, iv v53, iv v54, iv v55, iv v56, iv v57, rv b58, .unset, .unset] [(.int v57)]))
  obtain ⟨T61, h61, k61, X61, e61, E61, A61, st61⟩ := newP X58 hx hZ (own_w hw 2 rfl) e58 (g := (mkF m 64 #[iv p1, iv p2, iv p3, iv p4, iv p5, iv v53, iv v54, iv v55, iv v56, iv v57, rv b58, .unset, .unset] [(.int v57)])) rfl (hb hby at_64) rfl nn_v57 (cap := 64) (own_cap (by omega)) (by decide) (by decide) (by decide)
  obtain ⟨b61, g61⟩ : ∃ z, z = h58.size := ⟨_, rfl⟩
  rw [← g61] at A61 st61
  have ne_b58_b61 : b58 ≠ b61 := Nat.ne_of_lt (Nat.lt_of_lt_of_le V58.lt (Nat.le_of_eq g61.symm))
  have sz_b61 : h0.size ≤ b61 := Nat.le_trans K60.1 (Nat.le_of_eq g61.symm)
  have g_b61 : n0 ≤ b61 := Nat.le_trans Z0 sz_b61
  have f62_0 := V58.ext E61
  have K63 : Keep h0 h61 [] := K60.ext E61
  have V61 : own_AV Z h61 b61 .byte (List.replicate v57.toNatClampNeg (.int 0)) := own_AV_new A61
  refine own_st st61 ?_
  show own_Fin p e below G (T61.setTop (mkF m 66 #[iv p1, iv p2, iv p3, iv p4, iv p5, iv v53, iv v54, iv v55, iv v56, iv v57, rv b58, .unset, .unset] [(.ref b61)]))
  refine own_st (fun _ k => XS.astore X61.here hx rfl (hb hby at_66) rfl rfl (l' := #[iv p1, iv p2, iv p3, iv p4, iv p5, iv v53, iv v54, iv v55, iv v56, iv v57, rv b58, rv b61, .unset]) rfl k) ?_
  show own_Fin p e below G (T61.setTop (mkF m 68 #[iv p1, iv p2, iv p3, iv p4, iv p5, iv v53, iv v54, iv v55, iv v56, iv v57, rv b58, rv b61, .unset] []))
  obtain ⟨T64, h64, X64, e64, E64, A64, D64, M64, st64⟩ := newO X61 hx hZ hown (own_w hw 3 rfl) (own_w hw 4 rfl) (own_w hw 5 rfl) e61 (g := (mkF m 68 #[iv p1, iv p2, iv p3, iv p4, iv p5, iv v53, iv v54, iv v55, iv v56, iv v57, rv b58, rv b61, .unset] [])) rfl (hb hby at_68) (by decide) (by decide)
  obtain ⟨b64, g64⟩ : ∃ z, z = h61.size := ⟨_, rfl⟩
  rw [← g64] at A64 D64 st64
  have ne_b58_b64 : b58 ≠ b64 := Nat.ne_of_lt (Nat.lt_of_lt_of_le f62_0.lt (Nat.le_of_eq g64.symm))
  have ne_b61_b64 : b61 ≠ b64 := Nat.ne_of_lt (Nat.lt_of_lt_of_le V61.lt (Nat.le_of_eq g64.symm))
  have sz_b64 : h0.size ≤ b64 := Nat.le_trans K63.1 (Nat.le_of_eq g64.symm)
  have g_b64 : n0 ≤ b64 := Nat.le_trans Z0 sz_b64
  have f65_0 := f62_0.ext E64
  have f65_1 := V61.ext E64
  have K66 : Keep h0 h64 [] := K63.ext E64
  have f67 : Fld Z h64 b64 "com/example/rollkeeper/rollkeeper/server/StoredHash$Argon2idHash" "memoryKib" "I" (.int (0 : Int32)) := D64 (Or.inr (own_w hw 18 rfl)) (ty := .int) (by decide)
  have f68 : Fld Z h64 b64 "com/example/rollkeeper/rollkeeper/server/StoredHash$Argon2idHash" "passes" "I" (.int (0 : Int32)) := D64 (Or.inr (own_w hw 20 rfl)) (ty := .int) (by decide)
  have f69 : Fld Z h64 b64 "com/example/rollkeeper/rollkeeper/server/StoredHash$Argon2idHash" "lanes" "I" (.int (0 : Int32)) := D64 (Or.inr (own_w hw 22 rfl)) (ty := .int) (by decide)
  have f70 : Fld Z h64 b64 "com/example/rollkeeper/rollkeeper/server/StoredHash$Argon2idHash" "salt" "[B" .null := D64 (Or.inr (own_w hw 24 rfl)) (ty := (.array .byte)) (by decide)
  have f71 : Fld Z h64 b64 "com/example/rollkeeper/rollkeeper/server/StoredHash$Argon2idHash" "tag" "[B" .null := D64 (Or.inr (own_w hw 26 rfl)) (ty := (.array .byte)) (by decide)
  refine own_st st64 ?_
  show own_Fin p e below G (T64.setTop (mkF m 71 #[iv p1, iv p2, iv p3, iv p4, iv p5, iv v53, iv v54, iv v55, iv v56, iv v57, rv b58, rv b61, .unset] [(.ref b64)]))
  refine own_st (fun _ k => XS.dup X64.here hx rfl (hb hby at_71) rfl rfl k) ?_
  show own_Fin p e below G (T64.setTop (mkF m 72 #[iv p1, iv p2, iv p3, iv p4, iv p5, iv v53, iv v54, iv v55, iv v56, iv v57, rv b58, rv b61, .unset] [(.ref b64), (.ref b64)]))
  refine own_st (fun _ k => XS.iload X64.here hx rfl (hb hby at_72) rfl  k) ?_
  show own_Fin p e below G (T64.setTop (mkF m 74 #[iv p1, iv p2, iv p3, iv p4, iv p5, iv v53, iv v54, iv v55, iv v56, iv v57, rv b58, rv b61, .unset] [(.int v53), (.ref b64), (.ref b64)]))
  refine own_st (fun _ k => XS.iload X64.here hx rfl (hb hby at_74) rfl  k) ?_
  show own_Fin p e below G (T64.setTop (mkF m 76 #[iv p1, iv p2, iv p3, iv p4, iv p5, iv v53, iv v54, iv v55, iv v56, iv v57, rv b58, rv b61, .unset] [(.int v54), (.int v53), (.ref b64), (.ref b64)]))
  refine own_st (fun _ k => XS.iload X64.here hx rfl (hb hby at_76) rfl  k) ?_
  show own_Fin p e below G (T64.setTop (mkF m 78 #[iv p1, iv p2, iv p3, iv p4, iv p5, iv v53, iv v54, iv v55, iv v56, iv v57, rv b58, rv b61, .unset] [(.int v55), (.int v54), (.int v53), (.ref b64), (.ref b64)]))
  refine own_st (fun _ k => XS.aload X64.here hx rfl (hb hby at_78) rfl rfl k) ?_
  show own_Fin p e below G (T64.setTop (mkF m 80 #[iv p1, iv p2, iv p3, iv p4, iv p5, iv v53, iv v54, iv v55, iv v56, iv v57, rv b58, rv b61, .unset] [(.ref b58), (.int v55), (.int v54), (.int v53), (.ref b64), (.ref b64)]))
  refine own_st (fun _ k => XS.aload X64.here hx rfl (hb hby at_80) rfl rfl k) ?_
  show own_Fin p e below G (T64.setTop (mkF m 82 #[iv p1, iv p2, iv p3, iv p4, iv p5, iv v53, iv v54, iv v55, iv v56, iv v57, rv b58, rv b61, .unset] [(.ref b61), (.ref b58), (.int v55), (.int v54), (.int v53), (.ref b64), (.ref b64)]))
  obtain ⟨_, _, ⟨T72, L72, k72, n72⟩, -, X72, ⟨Lc72, hQ72, l72, y72, z72⟩, st72⟩ := X64.specialBack hx (y := own_y1) rfl hown (mvT hZ (own_w hw 6 rfl)) (mvT hZ (own_w hw 7 rfl)) (mvT hZ (own_w hw 8 rfl)) (by decide) (backOf (W := 1) (rm_ini l Z a0 hw [] b64 v53 v54 v55 b58 b61 h64 n0 (Nat.le_trans Z0 K66.1) A64 f67 f68 f69 f70 f71 g_b64) hZ (own_w hw 8 rfl) (own_w hw 5 rfl) (by decide) (by decide)) (g := (mkF m 82 #[iv p1, iv p2, iv p3, iv p4, iv p5, iv v53, iv v54, iv v55, iv v56, iv v57, rv b58, rv b61, .unset] [(.ref b61), (.ref b58), (.int v55), (.int v54), (.int v53), (.ref b64), (.ref b64)])) rfl (by rw [hml]; rfl) (Steps.refl _) (a := b64) (argsL := [(.int v53), (.int v54), (.int v55), (.ref b58), (.ref b61)]) (rest := [(.ref b64)]) (lenOf pd__III_B_B_V_700 rfl) rfl (by show 2 * 0 + _ ≤ _; exact Nat.le_of_eq rfl) (hb hby at_82) (fun _ _ => ⟨rfl, e64, (by decide : 3 + 0 ≤ _), (by decide : 133 + 0 ≤ _)⟩)
  dsimp only [Pt.U, Pt.locs, Pt.cells, Pt.slots] at X72 l72 y72 z72 st72 hQ72
  subst l72 y72 z72
  obtain ⟨rfl, N72q, Kc72, gE72, gF72_0, gF72_1, gF72_2, gF72_3, gF72_4⟩ := hQ72
  have N72 := Fr.app N0 N72q
  have f73_0 := f65_0.keep Kc72 (ninS ne_b58_b64 nin0)
  have f73_1 := f65_1.keep Kc72 (ninS ne_b61_b64 nin0)
  have f73_2 := A64.keep Kc72
  have K74 : Keep h0 T72.heap [] := K66.trans Kc72 (allS (Or.inr sz_b64) all0)
  refine own_tr st72 ?_
  show own_Fin p e below G (T72.setTop (mkF m 85 #[iv p1, iv p2, iv p3, iv p4, iv p5, iv v53, iv v54, iv v55, iv v56, iv v57, rv b58, rv b61, .unset] [(.ref b64)]))
  refine own_st (fun _ k => XS.astore X72.here hx rfl (hb hby at_85) rfl rfl (l' := #[iv p1, iv p2, iv p3, iv p4, iv p5, iv v53, iv v54, iv v55, iv v56, iv v57, rv b58, rv b61, rv b64]) rfl k) ?_
  show own_Fin p e below G (T72.setTop (mkF m 87 #[iv p1, iv p2, iv p3, iv p4, iv p5, iv v53, iv v54, iv v55, iv v56, iv v57, rv b58, rv b61, rv b64] []))
  refine own_st (fun _ k => XS.aload X72.here hx rfl (hb hby at_87) rfl rfl k) ?_
  show own_Fin p e below G (T72.setTop (mkF m 89 #[iv p1, iv p2, iv p3, iv p4, iv p5, iv v53, iv v54, iv v55, iv v56, iv v57, rv b58, rv b61, rv b64] [(.ref b64)]))
  obtain ⟨cq75, kq75, q75a, q75b, q75c⟩ := isOf hZ rfl gE72
  obtain ⟨_, _, ⟨T75, L75, k75, n75⟩, -, X75, ⟨Lc75, hQ75, l75, y75, z75⟩, st75⟩ := X72.virtualBack hx (y := own_y2) (z := own_y2) hown (mvT hZ (own_w hw 27 rfl)) (mvT hZ (own_w hw 28 rfl)) (notFace_of_selects (args := #[]) (mvT hZ (own_w hw 30 rfl))) (mvT hZ (own_w hw 30 rfl)) (mvT hZ (own_w hw 29 rfl)) (by decide) (backOf (W := 0) (rm_chk l Z a0 hw [] b64 v53 v54 v55 b58 b61 (List.replicate v56.toNatClampNeg (.int 0)) (List.replicate v57.toNatClampNeg (.int 0)) v56 v57 T72.heap n0 (Nat.le_trans Z0 K74.1) gF72_0 gF72_1 gF72_2 gF72_3 gF72_4 f73_0 f73_1 (own_repl nn_v56 _) (own_repl nn_v57 _) lo_v53 hi_v53 lo_v54 hi_v54 lo_v55 hi_v55 lo_v56 hi_v56 lo_v57 hi_v57) hZ (own_w hw 31 rfl) (own_w hw 5 rfl) (by decide) (by decide)) q75a q75c (g := (mkF m 89 #[iv p1, iv p2, iv p3, iv p4, iv p5, iv v53, iv v54, iv v55, iv v56, iv v57, rv b58, rv b61, rv b64] [(.ref b64)])) rfl (by rw [hml]; rfl) (Steps.refl _) (argsL := []) (rest := []) (lenOf pd___V_167 rfl) rfl (by show 2 * 0 + _ ≤ _; exact Nat.le_of_eq rfl) (hb hby at_89) (fun _ _ => ⟨rfl, rfl, (by decide : 3 + 0 ≤ _), (by decide : 133 + 0 ≤ _)⟩)
  dsimp only [Pt.U, Pt.locs, Pt.cells, Pt.slots] at X75 l75 y75 z75 st75 hQ75
  subst l75 y75 z75
  obtain ⟨rfl, N75q, e75⟩ := hQ75
  skip
  have N75 := Fr.app N72 N75q
  refine own_tr st75 ?_
  show own_Fin p e below G (T75.setTop (mkF m 92 #[iv p1, iv p2, iv p3, iv p4, iv p5, iv v53, iv v54, iv v55, iv v56, iv v57, rv b58, rv b61, rv b64] []))
  refine own_st (fun _ k => XS.iconst X75.here hx rfl (hb hby at_92) k) ?_
  show own_Fin p e below G (T75.setTop (mkF m 93 #[iv p1, iv p2, iv p3, iv p4, iv p5, iv v53, iv v54, iv v55, iv v56, iv v57, rv b58, rv b61, rv b64] [(.int (1 : Int32))]))
  refine own_out X75 Bd.notSynchronized (v := (some (.int (1 : Int32)))) (fun h => by rw [Bd.returns] at h; cases h) hG (fun fs hr => retN X75 hx (t := .boolean) Bd.returns (by simp) (hb hby at_93) hr) (by decide) (by decide) ?_
  exact ⟨rfl, N75⟩

set_option maxRecDepth 65536 in
set_option maxHeartbeats 40000000 in
theorem comes_1 {Post : Tables → Env → Array Value → State → Outcome → State → Prop} (hpost : ∀ tb e args s v u, (limb_1_1.after args s (.returned v) u = true ∧ limb_1_2.after args s (.returned v) u = true ∧ True) → FrameEnd s (.returned v) u (Jvm.fieldLocs frame_1_writes args s ++ Jvm.arrayLocs frame_1_arrays args s ++ Jvm.staticLocs frame_1_statics s) 16 320 → Post tb e args s (.returned v) u) :
    ArmFor flags0 classFile x code maxLocals ret World_1 tables_1 room_1 Calls_1 rest_1 Pre_1 Post := by
  intro l hfl _ _ p e ha hc hk s m args below hf hA hF happ hP
  obtain ⟨hcalls, hrest, hpre⟩ := hP
  obtain ⟨-, -, -, hnamed, -, -, -, hat⟩ := (Spec.applies_iff hf).mp happ
  obtain ⟨hg, hn⟩ := and_e (Cond.before_iff.mp (show (Jvm.Cond.and given_1 narrow_1).before args s = true from hpre))
  obtain ⟨hg0, hh0⟩ := and_e hg
  obtain ⟨hg1, hh1⟩ := and_e hh0
  obtain ⟨hg2, hh2⟩ := and_e hh1
  obtain ⟨hg3, hh3⟩ := and_e hh2
  obtain ⟨hg4, hh4⟩ := and_e hh3
  obtain ⟨w0, w1, w2, w3, w4, rfl⟩ : ∃ w0 w1 w2 w3 w4 : Value, args = #[w0, w1, w2, w3, w4] := by
    have hs : args.size = 5 := by simpa [Cond.value, given_1] using hg0
    obtain ⟨L⟩ := args
    match L, hs with
    | [w0, w1, w2, w3, w4], _ => exact ⟨w0, w1, w2, w3, w4, rfl⟩
  have hw := fun d (hd : d ∈ tables_1) => atoms_spec (ws := Jvm.Cond.code x code maxLocals ret :: tables_1) hat d (List.mem_cons_of_mem _ hd)
  have hfit : Fit s := fun {y c} hc i hi => by
    obtain ⟨ha, rfl⟩ := Array.getElem?_eq_some_iff.mp hc
    have q := List.all_eq_true.mp ((Array.all_eq_true_iff_forall_mem.mp hF) _ (Array.getElem_mem ha)) i (List.mem_range.mpr hi)
    simpa [Array.getElem?_eq_getElem hi] using q
  obtain ⟨i0, ei0⟩ := is_v hg1
  obtain rfl : w0 = (.int i0) := Option.some.inj ei0
  obtain ⟨i1, ei1⟩ := is_v hg2
  obtain rfl : w1 = (.int i1) := Option.some.inj ei1
  obtain ⟨i2, ei2⟩ := is_v hg3
  obtain rfl : w2 = (.int i2) := Option.some.inj ei2
  obtain ⟨i3, ei3⟩ := is_v hg4
  obtain rfl : w3 = (.int i3) := Option.some.inj ei3
  obtain ⟨i4, ei4⟩ := is_v hh4
  obtain rfl : w4 = (.int i4) := Option.some.inj ei4
  obtain ⟨n, o, h1, h2, h3, _, L, rfl, ⟨rfl, N⟩, hq⟩ := rm0 l s _ hw tables_1 i0 i1 i2 i3 i4 s.heap s.heap.size (Nat.le_refl _)  p e ha hc hk s m _ below hf ((Spec.applies_iff_loose hf).mp happ).1 ⟨rfl, State.Warmed39.refl s, rfl⟩ trivial
  refine ⟨n, _, h1, h2, h3, hpost _ _ _ _ _ _ ⟨Cond.after_iff.mpr rfl, Cond.after_iff.mpr (eq_i res_at (Term.int_eval (1)) rfl), trivial⟩ ⟨hq.1, hq.2.1, (hq.2.2.sift fun y hy => Or.inr (N y hy)).mono (by decide) (by decide)⟩⟩
theorem main_1_1 : Claimed_1_1 := comes_1 fun _ _ _ _ _ _ h hF => ⟨h.1, hF⟩
theorem main_1_2 : Claimed_1_2 := comes_1 fun _ _ _ _ _ _ h hF => ⟨h.2.1, hF⟩
end Jvm.Pilot.@@N@@
namespace Jvm.Pilot.@@N@@
open Jvm Jvm.ClassFile Sem Op Lib Jvm.Free Jvm.Stand Jvm.Pilot.@@N@@.Jvm.D
/-! MADE BY PROGRAM (witnessworld.py) out of the Statement's table words and the real class files: 11 classes; the members and pool entries that the words name. The judged class is class 1, her method 1. -/
namespace start1
open Jvm.ClassFile
def u (s : String) : CpInfo := .utf8 (stringToUtf16 s)
/-- a pool by its gaps: so many unusable entries, then the entry; so many at the end -/
def gap : Nat → List CpInfo → List CpInfo
  | 0, r => r
  | n + 1, r => .unusable :: gap n r
def poolList (es : List (Nat × CpInfo)) (last : Nat) : List CpInfo := es.foldr (fun e r => gap e.1 (e.2 :: r)) (gap last [])
def pool (es : List (Nat × CpInfo)) (last : Nat) : Array CpInfo := ⟨poolList es last⟩
def fileOf (pool : Array CpInfo) (this : Nat) (attrs : Array Attribute := #[]) (ms : Array MethodInfo := #[]) (fl : Nat := 33) (sup : Nat := 0) (ifs : Array Nat := #[]) (fds : Array FieldInfo := #[]) : ClassFile where
  minorVersion := 0
  majorVersion := 65
  constantPool := pool
  accessFlags := fl
  thisClass := this
  superClass := sup
  interfaces := ifs
  fields := fds
  methods := ms
  attributes := attrs
def plain (name : String) (sup : Option ClassId) : Class where
  name := name
  kind := .ordinary
  loader := none
  accessFlags := 33
  super := sup
  interfaces := #[]
  cf := none
  fields := #[]
  methods := #[]
  instanceTypes := #[]
  staticTypes := #[]
  resolved := #[]
  callSites := []
  init := .initialized
  statics := none
  mirror := none

def pool0 : Array CpInfo := pool [(5, u "<init>"), (0, u "()V"), (1, .class_ 10), (1, u "java/lang/Object")] 113

def k0c0 : Code := { maxStack := 0, maxLocals := 1, code := object_method_1_code, exceptionTable := #[], attributes := #[] }
def k0m0 : Method := { name := "<init>", desc := "()V", sig := { parameters := [], returnType := none }, accessFlags := 1, code := some k0c0 }
/-- java/lang/Object -/
def k0 : Class := { plain "java/lang/Object" none with
  accessFlags := 33
  interfaces := #[]
  cf := some (fileOf pool0 8 #[] #[{ accessFlags := 1, nameIndex := 5, descriptorIndex := 6, attributes := #[] }] 33 0 #[] #[])
  fields := #[]
  methods := #[k0m0]
  instanceTypes := #[]
  staticTypes := #[]
  resolved := Array.replicate 124 none
  statics := none }

def pool1 : Array CpInfo := pool [(2, .class_ 4), (1, u "java/lang/Object"), (0, u "<init>"), (0, u "()V"), (0, .integer 2147483647), (0, .integer 46081), (0, .class_ 10), (0, u "com/example/rollkeeper/rollkeeper/server/StoredHash$Argon2idHash"), (0, .methodref 9 12), (0, .nameAndType 5 13), (0, u "(III[B[B)V"), (0, .methodref 9 15), (0, .nameAndType 16 6), (0, u "checkBounds"), (0, .class_ 18), (0, u "com/example/rollkeeper/rollkeeper/server/Argon2idHashCheckBoundsPinLaw"), (2, u "law"), (0, u "(IIIII)Z")] 9

def k1m0 : Method := { name := "<init>", desc := "()V", sig := { parameters := [], returnType := none }, accessFlags := 1, code := none }
def k1c1 : Code := { maxStack := 7, maxLocals := 13, code := code, exceptionTable := #[], attributes := #[] }
def k1m1 : Method := { name := "law", desc := "(IIIII)Z", sig := { parameters := [.int, .int, .int, .int, .int], returnType := some .boolean }, accessFlags := 9, code := some k1c1 }
/-- com/example/rollkeeper/rollkeeper/server/Argon2idHashCheckBoundsPinLaw -/
def k1 : Class := { plain "com/example/rollkeeper/rollkeeper/server/Argon2idHashCheckBoundsPinLaw" (some 0) with
  accessFlags := 49
  interfaces := #[]
  cf := some (fileOf pool1 17 #[] #[{ accessFlags := 1, nameIndex := 5, descriptorIndex := 6, attributes := #[] }, { accessFlags := 9, nameIndex := 21, descriptorIndex := 22, attributes := #[] }] 49 2 #[] #[])
  fields := #[]
  methods := #[k1m0, k1m1]
  instanceTypes := #[]
  staticTypes := #[]
  resolved := Array.replicate 32 none
  statics := none }

def pool2 : Array CpInfo := pool [(1, .methodref 2 3), (0, .class_ 4), (0, .nameAndType 5 6), (0, u "java/lang/Object"), (0, u "<init>"), (0, u "()V"), (0, .class_ 8), (0, u "java/lang/Record")] 13

def k2c0 : Code := { maxStack := 1, maxLocals := 1, code := jdk_30_method_1_code, exceptionTable := #[], attributes := #[] }
def k2m0 : Method := { name := "<init>", desc := "()V", sig := { parameters := [], returnType := none }, accessFlags := 4, code := some k2c0 }
/-- java/lang/Record -/
def k2 : Class := { plain "java/lang/Record" (some 0) with
  accessFlags := 1057
  interfaces := #[]
  cf := some (fileOf pool2 7 #[] #[{ accessFlags := 4, nameIndex := 5, descriptorIndex := 6, attributes := #[] }] 1057 2 #[] #[])
  fields := #[]
  methods := #[k2m0]
  instanceTypes := #[]
  staticTypes := #[]
  resolved := Array.replicate 22 none
  statics := none }

def pool3 : Array CpInfo := pool [(2, .class_ 4), (1, u "com/example/rollkeeper/rollkeeper/server/StoredHash$Argon2idHash"), (9, .class_ 15), (0, u "com/example/rollkeeper/rollkeeper/server/StoredHash$BcryptHash"), (17, .class_ 35), (1, u "com/example/rollkeeper/rollkeeper/server/StoredHash"), (12, .class_ 49), (0, u "com/example/rollkeeper/rollkeeper/server/StoredHash$Refused"), (22, .class_ 73), (0, u "java/lang/Object"), (0, u "MIN_MEMORY_KIB"), (0, u "I"), (2, u "MIN_PASSES"), (1, u "MIN_LANES"), (1, u "MAX_MEMORY_KIB"), (1, u "MAX_PASSES"), (1, u "MAX_LANES"), (1, u "MIN_BCRYPT_COST"), (1, u "MAX_BCRYPT_COST"), (1, u "FORMS"), (0, u "Ljava/lang/String;"), (0, u "BOUNDS")] 20

/-- com/example/rollkeeper/rollkeeper/server/StoredHash -/
def k3 : Class := { plain "com/example/rollkeeper/rollkeeper/server/StoredHash" (some 0) with
  accessFlags := 1536
  interfaces := #[]
  cf := some (fileOf pool3 33 #[.nestMembers #[48, 14, 2]] #[] 1536 72 #[] #[{ accessFlags := 25, nameIndex := 74, descriptorIndex := 75, attributes := #[] }, { accessFlags := 25, nameIndex := 78, descriptorIndex := 75, attributes := #[] }, { accessFlags := 25, nameIndex := 80, descriptorIndex := 75, attributes := #[] }, { accessFlags := 25, nameIndex := 82, descriptorIndex := 75, attributes := #[] }, { accessFlags := 25, nameIndex := 84, descriptorIndex := 75, attributes := #[] }, { accessFlags := 25, nameIndex := 86, descriptorIndex := 75, attributes := #[] }, { accessFlags := 25, nameIndex := 88, descriptorIndex := 75, attributes := #[] }, { accessFlags := 25, nameIndex := 90, descriptorIndex := 75, attributes := #[] }, { accessFlags := 25, nameIndex := 92, descriptorIndex := 93, attributes := #[] }, { accessFlags := 25, nameIndex := 94, descriptorIndex := 93, attributes := #[] }])
  fields := #[{ name := "MIN_MEMORY_KIB", type := .int, accessFlags := 25, slot := 0, constantValue := 0 }, { name := "MIN_PASSES", type := .int, accessFlags := 25, slot := 1, constantValue := 0 }, { name := "MIN_LANES", type := .int, accessFlags := 25, slot := 2, constantValue := 0 }, { name := "MAX_MEMORY_KIB", type := .int, accessFlags := 25, slot := 3, constantValue := 0 }, { name := "MAX_PASSES", type := .int, accessFlags := 25, slot := 4, constantValue := 0 }, { name := "MAX_LANES", type := .int, accessFlags := 25, slot := 5, constantValue := 0 }, { name := "MIN_BCRYPT_COST", type := .int, accessFlags := 25, slot := 6, constantValue := 0 }, { name := "MAX_BCRYPT_COST", type := .int, accessFlags := 25, slot := 7, constantValue := 0 }, { name := "FORMS", type := (.object "java/lang/String"), accessFlags := 25, slot := 8, constantValue := 0 }, { name := "BOUNDS", type := (.object "java/lang/String"), accessFlags := 25, slot := 9, constantValue := 0 }]
  methods := #[]
  instanceTypes := #[]
  staticTypes := #[.int, .int, .int, .int, .int, .int, .int, .int, (.object "java/lang/String"), (.object "java/lang/String")]
  resolved := Array.replicate 115 none
  statics := none }

def pool4 : Array CpInfo := pool [(1, .methodref 2 3), (0, .class_ 4), (0, .nameAndType 5 6), (0, u "java/lang/Record"), (0, u "<init>"), (0, u "()V"), (0, .fieldref 8 9), (0, .class_ 10), (0, .nameAndType 11 12), (0, u "com/example/rollkeeper/rollkeeper/server/StoredHash$Argon2idHash"), (0, u "memoryKib"), (0, u "I"), (0, .fieldref 8 14), (0, .nameAndType 15 12), (0, u "passes"), (0, .fieldref 8 17), (0, .nameAndType 18 12), (0, u "lanes"), (0, .fieldref 8 20), (0, .nameAndType 21 22), (0, u "salt"), (0, u "[B"), (0, .fieldref 8 24), (0, .nameAndType 25 22), (0, u "tag"), (0, .class_ 27), (0, u "com/example/rollkeeper/rollkeeper/server/StoredHash"), (0, .integer 65536), (50, u "FORM"), (0, u "Ljava/util/regex/Pattern;"), (0, u "MIN_SALT"), (2, u "MAX_SALT"), (1, u "MIN_TAG"), (1, u "MAX_TAG"), (0, u "(III[B[B)V"), (6, u "checkBounds")] 43

def k4c0 : Code := { maxStack := 2, maxLocals := 6, code := prog_38_method_1_code, exceptionTable := #[], attributes := #[] }
def k4m0 : Method := { name := "<init>", desc := "(III[B[B)V", sig := { parameters := [.int, .int, .int, (.array .byte), (.array .byte)], returnType := none }, accessFlags := 1, code := some k4c0 }
def k4c1 : Code := { maxStack := 3, maxLocals := 2, code := prog_38_method_3_code, exceptionTable := #[], attributes := #[] }
def k4m1 : Method := { name := "checkBounds", desc := "()V", sig := { parameters := [], returnType := none }, accessFlags := 1, code := some k4c1 }
/-- com/example/rollkeeper/rollkeeper/server/StoredHash$Argon2idHash -/
def k4 : Class := { plain "com/example/rollkeeper/rollkeeper/server/StoredHash$Argon2idHash" (some 2) with
  accessFlags := 49
  interfaces := #[3]
  cf := some (fileOf pool4 8 #[.nestHost 26] #[{ accessFlags := 1, nameIndex := 5, descriptorIndex := 89, attributes := #[] }, { accessFlags := 1, nameIndex := 96, descriptorIndex := 6, attributes := #[] }] 49 2 #[26] #[{ accessFlags := 18, nameIndex := 11, descriptorIndex := 12, attributes := #[] }, { accessFlags := 18, nameIndex := 15, descriptorIndex := 12, attributes := #[] }, { accessFlags := 18, nameIndex := 18, descriptorIndex := 12, attributes := #[] }, { accessFlags := 18, nameIndex := 21, descriptorIndex := 22, attributes := #[] }, { accessFlags := 18, nameIndex := 25, descriptorIndex := 22, attributes := #[] }, { accessFlags := 26, nameIndex := 79, descriptorIndex := 80, attributes := #[] }, { accessFlags := 26, nameIndex := 81, descriptorIndex := 12, attributes := #[] }, { accessFlags := 26, nameIndex := 84, descriptorIndex := 12, attributes := #[] }, { accessFlags := 26, nameIndex := 86, descriptorIndex := 12, attributes := #[] }, { accessFlags := 26, nameIndex := 88, descriptorIndex := 12, attributes := #[] }])
  fields := #[{ name := "memoryKib", type := .int, accessFlags := 18, slot := 0, constantValue := 0 }, { name := "passes", type := .int, accessFlags := 18, slot := 1, constantValue := 0 }, { name := "lanes", type := .int, accessFlags := 18, slot := 2, constantValue := 0 }, { name := "salt", type := (.array .byte), accessFlags := 18, slot := 3, constantValue := 0 }, { name := "tag", type := (.array .byte), accessFlags := 18, slot := 4, constantValue := 0 }, { name := "FORM", type := (.object "java/util/regex/Pattern"), accessFlags := 26, slot := 0, constantValue := 0 }, { name := "MIN_SALT", type := .int, accessFlags := 26, slot := 1, constantValue := 0 }, { name := "MAX_SALT", type := .int, accessFlags := 26, slot := 2, constantValue := 0 }, { name := "MIN_TAG", type := .int, accessFlags := 26, slot := 3, constantValue := 0 }, { name := "MAX_TAG", type := .int, accessFlags := 26, slot := 4, constantValue := 0 }]
  methods := #[k4m0, k4m1]
  instanceTypes := #[.int, .int, .int, (.array .byte), (.array .byte)]
  staticTypes := #[(.object "java/util/regex/Pattern"), .int, .int, .int, .int]
  resolved := Array.replicate 140 none
  statics := none }

def pool5 : Array CpInfo := pool [(1, u "java/lang/Cloneable"), (0, .class_ 1), (0, u "java/lang/Object"), (0, .class_ 3)] 3

/-- java/lang/Cloneable -/
def k5 : Class := { plain "java/lang/Cloneable" (some 0) with
  accessFlags := 1537
  interfaces := #[]
  cf := some (fileOf pool5 2 #[] #[] 1537 4 #[] #[])
  fields := #[]
  methods := #[]
  instanceTypes := #[]
  staticTypes := #[]
  resolved := Array.replicate 8 none
  statics := none }

def pool6 : Array CpInfo := pool [(1, u "java/io/Serializable"), (0, .class_ 1), (0, u "java/lang/Object"), (0, .class_ 3)] 3

/-- java/io/Serializable -/
def k6 : Class := { plain "java/io/Serializable" (some 0) with
  accessFlags := 1537
  interfaces := #[]
  cf := some (fileOf pool6 2 #[] #[] 1537 4 #[] #[])
  fields := #[]
  methods := #[]
  instanceTypes := #[]
  staticTypes := #[]
  resolved := Array.replicate 8 none
  statics := none }

/-- the primitive byte -/
def k7 : Class := { plain "byte" none with kind := .primitive 'B', accessFlags := 0x411 }
/-- [B -/
def k8 : Class := { plain "[B" (some 0) with kind := .array 7 .byte, interfaces := #[5, 6], accessFlags := 1041 }

/-- the primitive int -/
def k9 : Class := { plain "int" none with kind := .primitive 'I', accessFlags := 0x411 }
/-- [I -/
def k10 : Class := { plain "[I" (some 0) with kind := .array 9 .int, interfaces := #[5, 6], accessFlags := 1041 }

def heap : Heap := #[]
def classes : Array Class := #[k0, k1, k2, k3, k4, k5, k6, k7, k8, k9, k10]
def interned : List (Array UInt16 × Addr) := []
def slotsUsed : Nat := 0
def theMethod : MethodId := ⟨1, 1⟩
def args0 : Array Value := #[.int 5, .int 8, .int 11, .int 14, .int 17]
def aboutOver (below : List Frame) : State where
  vm := { classes := classes, interned := interned.toArray }
  heap := heap
  slotsUsed := slotsUsed
  threads := #[{ frames := .invoking theMethod args0 :: below }]
def below0 : List Frame := [.native { method := ⟨0, 0⟩, args := #[] }]
def about1 : State := aboutOver below0
def p0 : Program := .bare "" "" ""
def e0 : Env := launch0.env 0 0 0
theorem w_frames : about1.frames = Frame.invoking theMethod args0 :: below0 := rfl
set_option maxRecDepth 65536 in
theorem w_args : argsFit about1.vm theMethod args0 = true := by decide +kernel
set_option maxRecDepth 65536 in
theorem w_heap : heapFits about1 = true := by decide +kernel
set_option maxRecDepth 65536 in
theorem w_runnable : about1.curStatus? = some .runnable := by decide +kernel
set_option maxRecDepth 65536 in
theorem w_alone : about1.alone = true := by decide +kernel
set_option maxRecDepth 65536 in
theorem w_named : about1.methodNamed? x = some theMethod := by decide +kernel
set_option maxRecDepth 65536 in
theorem w_hears : about1.hears theMethod below0 = true := by decide +kernel
set_option maxRecDepth 65536 in
theorem w_ripe : about1.ripe theMethod args0 below0 = true := by decide +kernel
theorem w_running : about1.status = .running := rfl
set_option maxRecDepth 65536 in
theorem w_room : about1.hasRoom e0.platform room_1 = true :=
  launch0.hasRoom_least _ room_1 (by decide +kernel) (by decide +kernel) (by decide +kernel) (by decide +kernel) (by decide +kernel) (by decide +kernel)
theorem allAtoms_all (ts : List Jvm.Cond) (a : Array Jvm.Value) (st : Jvm.State) : (allAtoms ts).before a st = ts.all (fun c => c.before a st) := by
  induction ts with
  | nil => rfl
  | cons c t ih =>
    show (Jvm.Cond.and c (allAtoms t)).before a st = _
    rw [Jvm.Cond.before_and, ih, List.all_cons]
def words1 : List Jvm.Cond := Jvm.Cond.code x code maxLocals ret :: tables_1
/-- a 'code' word, met by the world's own term for the bytes: nothing is compared byte by byte -/
theorem code_word {y : MethodName} {bytes : ByteArray} {mx : Nat} {rt : Option FieldType} {a : Array Value} {s : State} {m : MethodId} {meth : Method} {c : Code} (h1 : s.methodNamed? y = some m) (h2 : s.vm.method? m = some meth) (h3 : meth.code = some c) (h4 : c.code = bytes)
    (h5 : (c.maxLocals == mx && c.exceptionTable.isEmpty && decide (c.maxStack ≤ mostOperands) && decide (meth.sig.returnType = rt) && !meth.locks && decide (parseMethodDescriptor y.desc = some meth.sig)) = true) : (Jvm.Cond.code y bytes mx rt).before a s = true := by
  simp only [Bool.and_eq_true, beq_iff_eq, Bool.not_eq_true', decide_eq_true_eq] at h5
  obtain ⟨⟨⟨⟨⟨g1, g2⟩, g3⟩, g4⟩, g5⟩, g6⟩ := h5
  simp [Cond.before, Cond.holds, Cond.value, h1, h2, h3, h4, g1, g2, g3, g4, g5, g6]
def isCode : Jvm.Cond → Bool
  | .code _ _ _ _ => true
  | _ => false
theorem all_split {L : List Jvm.Cond} {P : Jvm.Cond → Bool} (h1 : L.all (fun c => isCode c || P c) = true) (h2 : ∀ c ∈ L.filter isCode, P c = true) : L.all P = true := by
  refine List.all_eq_true.mpr fun c hc => ?_
  have h := List.all_eq_true.mp h1 c hc
  rcases Bool.eq_false_or_eq_true (isCode c) with hi | hi
  · exact h2 c (List.mem_filter.mpr ⟨hc, hi⟩)
  · simpa [hi] using h
set_option maxRecDepth 65536 in
theorem w_c0 : (Jvm.Cond.code x code maxLocals ret).before args0 about1 = true := code_word (m := ⟨1, 1⟩) (meth := k1m1) (c := k1c1) (by decide +kernel) rfl rfl rfl (by decide +kernel)
set_option maxRecDepth 65536 in
theorem w_c1 : (Jvm.Cond.code ({ cls := "com/example/rollkeeper/rollkeeper/server/StoredHash$Argon2idHash", name := "<init>", desc := "(III[B[B)V" } : Jvm.MethodName) prog_38_method_1_code (6 : Nat) (Option.none : Option Jvm.ClassFile.FieldType)).before args0 about1 = true := code_word (m := ⟨4, 0⟩) (meth := k4m0) (c := k4c0) (by decide +kernel) rfl rfl rfl (by decide +kernel)
set_option maxRecDepth 65536 in
theorem w_c2 : (Jvm.Cond.code ({ cls := "java/lang/Record", name := "<init>", desc := "()V" } : Jvm.MethodName) jdk_30_method_1_code (1 : Nat) (Option.none : Option Jvm.ClassFile.FieldType)).before args0 about1 = true := code_word (m := ⟨2, 0⟩) (meth := k2m0) (c := k2c0) (by decide +kernel) rfl rfl rfl (by decide +kernel)
set_option maxRecDepth 65536 in
theorem w_c3 : (Jvm.Cond.code ({ cls := "java/lang/Object", name := "<init>", desc := "()V" } : Jvm.MethodName) object_method_1_code (1 : Nat) (Option.none : Option Jvm.ClassFile.FieldType)).before args0 about1 = true := code_word (m := ⟨0, 0⟩) (meth := k0m0) (c := k0c0) (by decide +kernel) rfl rfl rfl (by decide +kernel)
set_option maxRecDepth 65536 in
theorem w_c4 : (Jvm.Cond.code ({ cls := "com/example/rollkeeper/rollkeeper/server/StoredHash$Argon2idHash", name := "checkBounds", desc := "()V" } : Jvm.MethodName) prog_38_method_3_code (2 : Nat) (Option.none : Option Jvm.ClassFile.FieldType)).before args0 about1 = true := code_word (m := ⟨4, 1⟩) (meth := k4m1) (c := k4c1) (by decide +kernel) rfl rfl rfl (by decide +kernel)
def codes1 : List Jvm.Cond := [Jvm.Cond.code x code maxLocals ret, Jvm.Cond.code ({ cls := "com/example/rollkeeper/rollkeeper/server/StoredHash$Argon2idHash", name := "<init>", desc := "(III[B[B)V" } : Jvm.MethodName) prog_38_method_1_code (6 : Nat) (Option.none : Option Jvm.ClassFile.FieldType), Jvm.Cond.code ({ cls := "java/lang/Record", name := "<init>", desc := "()V" } : Jvm.MethodName) jdk_30_method_1_code (1 : Nat) (Option.none : Option Jvm.ClassFile.FieldType), Jvm.Cond.code ({ cls := "java/lang/Object", name := "<init>", desc := "()V" } : Jvm.MethodName) object_method_1_code (1 : Nat) (Option.none : Option Jvm.ClassFile.FieldType), Jvm.Cond.code ({ cls := "com/example/rollkeeper/rollkeeper/server/StoredHash$Argon2idHash", name := "checkBounds", desc := "()V" } : Jvm.MethodName) prog_38_method_3_code (2 : Nat) (Option.none : Option Jvm.ClassFile.FieldType)]
set_option maxRecDepth 65536 in
theorem codes_eq : words1.filter isCode = codes1 := rfl
theorem w_codes : ∀ c ∈ words1.filter isCode, c.before args0 about1 = true := by
  rw [codes_eq]
  intro c hc
  simp only [codes1, List.mem_cons, List.not_mem_nil, or_false] at hc
  rcases hc with rfl | rfl | rfl | rfl | rfl
  · exact w_c0
  · exact w_c1
  · exact w_c2
  · exact w_c3
  · exact w_c4
set_option maxRecDepth 65536 in
theorem w_t1 : (words1.take 24).all (fun c => isCode c || c.before args0 about1) = true := by decide +kernel
set_option maxRecDepth 65536 in
theorem w_t2 : (words1.drop 24).all (fun c => isCode c || c.before args0 about1) = true := by decide +kernel
theorem w_tables : (allAtoms (Jvm.Cond.code x code maxLocals ret :: tables_1)).before args0 about1 = true := by
  rw [allAtoms_all]
  show words1.all (fun c => c.before args0 about1) = true
  refine all_split ?_ w_codes
  rw [← List.take_append_drop 24 words1, List.all_append, w_t1, w_t2]
  rfl
set_option maxRecDepth 65536 in
theorem w_case : (Jvm.Cond.and given_1 narrow_1).before args0 about1 = true := by decide +kernel
theorem w_applies : (headSpec (Jvm.Cond.code x code maxLocals ret :: tables_1) room_1).applies x e0.platform about1 = true :=
  (Spec.applies_iff w_frames).mpr ⟨w_running, w_runnable, w_alone, w_named, w_hears, w_ripe, w_room, w_tables⟩
theorem atStart : AtStart classFile x code maxLocals ret World_1 tables_1 room_1 Calls_1 rest_1 Pre_1 launch0 p0 e0 about1 theMethod args0 below0 :=
  ⟨lists_1, trivial, launch0.admits_env _ _ _, launch0.least_env, fairChoices_fair.cas, fairChoices_fair.clock, w_frames, w_args, w_heap, w_applies, trivial, trivial, w_case⟩
end start1
theorem witness_1 : WitnessClaimed_1 := ⟨start1.p0, start1.e0, start1.about1, start1.theMethod, start1.args0, start1.below0, start1.atStart⟩
end Jvm.Pilot.@@N@@
