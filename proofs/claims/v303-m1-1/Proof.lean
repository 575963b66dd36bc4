import JvmDerived
import JvmDerived.Pilot.@@N@@Statement
import JvmDerived.Pilot.@@N@@Code
set_option linter.unusedVariables false
set_option linter.unusedSimpArgs false
namespace Jvm.Pilot.@@N@@
open Jvm Jvm.ClassFile Sem Op Lib Jvm.Free Jvm.Stand Jvm.LawKit Jvm.RoadKit Bundle Jvm.Pilot.@@N@@.Jvm.D

theorem own_w {Z : State} {a0 : Array Value} (hw : ∀ d ∈ tables_1, d.before a0 Z = true) (i : Nat) {d : Jvm.Cond} (h : tables_1[i]? = some d) : d.before a0 Z = true := hw d (List.mem_of_getElem? h)
def own_Fin (p : Program) (e : Env) (below : List Frame) (G : Outcome → State → Prop) (st : State) : Prop := ∃ t o, Steps p.tables e below st t ∧ t.status = .running ∧ Ended t below o ∧ G o t
section OwnKit
variable {p : Program} {l : Launch} {e : Env} {R : Room} {s : State} {m : MethodId} {args : Array Value} {below : List Frame} {meth : Method} {c : Code} {T : State} {locs : List Loc} {cells slots : Nat} {Z : State} {a0 : Array Value} {h h' : Heap} {G : Outcome → State → Prop} {st st' : State} {Qk : Option Value → Heap → List Loc → Prop} {K N : Nat} {a b : Addr} {ty : FieldType} {vs : List Value} {ws : List Addr} {sl : Nat} {v : Value}
theorem own_st (k : ∀ target, Steps p.tables e below st' target → Steps p.tables e below st target) (q : own_Fin p e below G st') : own_Fin p e below G st := by
  obtain ⟨t, o, h1, h2⟩ := q; exact ⟨t, o, k t h1, h2⟩
theorem own_tr (k : Steps p.tables e below st st') (q : own_Fin p e below G st') : own_Fin p e below G st := by
  obtain ⟨t, o, h1, h2⟩ := q; exact ⟨t, o, k.trans h1, h2⟩
theorem own_start (q : ∀ G : Outcome → State → Prop, (∀ v L t, Qk v t.heap L → FrameEnd s (.returned v) t L K N → G (.returned v) t) → own_Fin p e below G st) : ∃ s₂ o, Steps p.tables e below st s₂ ∧ s₂.status = .running ∧ Ended s₂ below o ∧ ∃ v L, o = .returned v ∧ Qk v s₂.heap L ∧ FrameEnd s o s₂ L K N :=
  q _ (fun v L t q f => ⟨v, L, rfl, q, f⟩)
theorem own_out (X : Stand p l e R s m args below meth c T locs cells slots) (hlocks : meth.locks = false) {v : Option Value} (hv : meth.sig.returnType = none → v = none) (hG : ∀ v L t, Qk v t.heap L → FrameEnd s (.returned v) t L K N → G (.returned v) t)
    (hstep : ∀ fs, (∀ (f : JFrame) (acts : List Action), f.method = m → f.locked = none → f.entered = [] → (doReturn e (T.setTop f) acts v).1 = T.setFrames fs) → Steps p.tables e below st (T.setFrames fs)) (hc : cells ≤ K) (hn : slots ≤ N) (hQ : Qk v T.heap locs) : own_Fin p e below G st := by
  obtain ⟨fs, hr, hrun, hended, hW, hsame⟩ := X.leave hv hlocks
  exact ⟨_, _, hstep fs hr, hrun, hended, hG _ _ _ hQ ⟨⟨_, rfl⟩, hW, hsame.mono hc hn⟩⟩
theorem own_ldc (X : Stand p l e R s m args below meth c T locs cells slots) (hx : p.tables.exec = Jvm.exec) (hZ : Z.Warmed39 s.vm) {own : String} {index : Nat} {v : Int32} (hown : s.vm.findClass own = some m.cls) (w : (Cond.constant own index v).before a0 Z = true) {g : JFrame} (hg : g.method = m) (hd : decode c.code g.pc = .ok (.ldc index, 2)) {target : State}
    (kk : Steps p.tables e below (T.setTop { g with pc := g.pc + 2, stack := .int v :: g.stack }) target) : Steps p.tables e below (T.setTop g) target := X.ldcInt hx hown (mvT hZ w) hg hd target kk
theorem own_ldcJ (X : Stand p l e R s m args below meth c T locs cells slots) (hx : p.tables.exec = Jvm.exec) (hZ : Z.Warmed39 s.vm) {own : String} {index : Nat} {v : Int64} (hown : s.vm.findClass own = some m.cls) (w : (Cond.constantLong own index v).before a0 Z = true) {g : JFrame} (hg : g.method = m) (hd : decode c.code g.pc = .ok (.ldc2_w index, 3)) {target : State}
    (kk : Steps p.tables e below (T.setTop { g with pc := g.pc + 3, stack := .long v :: g.stack }) target) : Steps p.tables e below (T.setTop g) target := X.ldc2Long hx hown (mvT hZ w) hg hd target kk
theorem own_ldcF (X : Stand p l e R s m args below meth c T locs cells slots) (hx : p.tables.exec = Jvm.exec) (hZ : Z.Warmed39 s.vm) {own : String} {index : Nat} {v : UInt32} (hown : s.vm.findClass own = some m.cls) (w : (Cond.constantFloat own index v).before a0 Z = true) {g : JFrame} (hg : g.method = m) (hd : decode c.code g.pc = .ok (.ldc index, 2)) {target : State}
    (kk : Steps p.tables e below (T.setTop { g with pc := g.pc + 2, stack := .float v :: g.stack }) target) : Steps p.tables e below (T.setTop g) target := X.ldcFloatC hx hown (mvT hZ w) hg hd target kk
def own_AV (Z : State) (h : Heap) (a : Addr) (ty : FieldType) (vs : List Value) : Prop := ∃ c : Cell, Arr Z h a c ty ∧ c.slots.toList = vs
def own_is (xs : List Int32) : List Value := xs.map Value.int
def own_js (xs : List Int64) : List Value := xs.map Value.long
theorem own_AV.lt (A : own_AV Z h a ty vs) : a < h.size := by obtain ⟨c, A, -⟩ := A; exact A.lt
theorem own_AV.ext (A : own_AV Z h a ty vs) (E : Ext h h') : own_AV Z h' a ty vs := by obtain ⟨c, A, r⟩ := A; exact ⟨c, A.ext E, r⟩
theorem own_AV.other (A : own_AV Z h b ty vs) (W : Wr h h' a sl v) (q : b ≠ a) : own_AV Z h' b ty vs := by obtain ⟨c, A, r⟩ := A; exact ⟨c, A.other W q, r⟩
theorem own_AV.keep (A : own_AV Z h a ty vs) (K : Keep h h' ws) (q : a ∉ ws) : own_AV Z h' a ty vs := by obtain ⟨c, A, r⟩ := A; exact ⟨c, ⟨K.2.1 a c A.1 q, A.2⟩, r⟩
theorem own_AV_new {k : ClassId} {z : Int32} (A : Arr Z h a (newA k ty z) ty) : own_AV Z h a ty (List.replicate z.toNatClampNeg (defaultValue ty)) := ⟨_, A, by simp [newA]⟩
theorem own_AV_newI {k : ClassId} {z : Int32} (A : Arr Z h a (newA k .int z) .int) : own_AV Z h a .int (own_is (List.replicate z.toNatClampNeg 0)) := ⟨_, A, by simp [newA, own_is, defaultValue]⟩
theorem own_AV_newJ {k : ClassId} {z : Int32} (A : Arr Z h a (newA k .long z) .long) : own_AV Z h a .long (own_js (List.replicate z.toNatClampNeg 0)) := ⟨_, A, by simp [newA, own_js, defaultValue]⟩
theorem own_in {c : Cell} {n : Nat} {j : Int32} (r : c.slots.toList = vs) (hn : vs.length = n) (hj : ¬ (j < 0 ∨ n ≤ j.toNatClampNeg)) : ¬ (j < 0 ∨ c.slots.size ≤ j.toNatClampNeg) := by
  rw [← Array.length_toList, r, hn]; exact hj
theorem own_nat {n : Nat} {j : Int32} (hj : ¬ (j < 0 ∨ n ≤ j.toNatClampNeg)) : j.toNatClampNeg < n := Nat.lt_of_not_le fun q => hj (Or.inr q)
theorem own_ldI (X : Stand p l e R s m args below meth c T locs cells slots) (hx : p.tables.exec = Jvm.exec) (hZ : Z.Warmed39 s.vm) (eT : T.heap = h) {xs : List Int32} (A : own_AV Z h a .int (own_is xs)) {j : Int32} {n : Nat} (hn : xs.length = n) (hj : ¬ (j < 0 ∨ n ≤ j.toNatClampNeg))
    {g : JFrame} (hg : g.method = m) {rest : List Value} (hs : g.stack = .int j :: .ref a :: rest) (hd : decode c.code g.pc = .ok (.iaload, 1)) {target : State} (kk : Steps p.tables e below (T.setTop { g with pc := g.pc + 1, stack := .int (xs.getD j.toNatClampNeg 0) :: rest }) target) : Steps p.tables e below (T.setTop g) target := by
  obtain ⟨cl, A, r⟩ := A
  have hlt := own_nat hj
  refine X.iaload hx (by rw [eT]; exact A.1) (State.isArrayOf_alike hZ.alike A.2.1) A.2.2 (own_in r (by simp [own_is, hn]) hj) ?_ hg hs hd _ kk
  rw [← Array.getElem?_toList, r]
  simp [own_is, List.getD_eq_getElem?_getD, List.getElem?_eq_getElem (hn ▸ hlt)]
theorem own_ldJ (X : Stand p l e R s m args below meth c T locs cells slots) (hx : p.tables.exec = Jvm.exec) (hZ : Z.Warmed39 s.vm) (eT : T.heap = h) {xs : List Int64} (A : own_AV Z h a .long (own_js xs)) {j : Int32} {n : Nat} (hn : xs.length = n) (hj : ¬ (j < 0 ∨ n ≤ j.toNatClampNeg))
    {g : JFrame} (hg : g.method = m) {rest : List Value} (hs : g.stack = .int j :: .ref a :: rest) (hd : decode c.code g.pc = .ok (.laload, 1)) {target : State} (kk : Steps p.tables e below (T.setTop { g with pc := g.pc + 1, stack := .long (xs.getD j.toNatClampNeg 0) :: rest }) target) : Steps p.tables e below (T.setTop g) target := by
  obtain ⟨cl, A, r⟩ := A
  have hlt := own_nat hj
  refine X.laload hx (by rw [eT]; exact A.1) (State.isArrayOf_alike hZ.alike A.2.1) A.2.2 (own_in r (by simp [own_js, hn]) hj) ?_ hg hs hd _ kk
  rw [← Array.getElem?_toList, r]
  simp [own_js, List.getD_eq_getElem?_getD, List.getElem?_eq_getElem (hn ▸ hlt)]
theorem own_set {cl : Cell} {j : Nat} (A : Arr Z h a cl ty) (r : cl.slots.toList = vs) (W : Wr h h' a j v) : own_AV Z h' a ty (vs.set j v) := ⟨_, A.same W, by simp [Cell.setSlot, ← r]⟩
theorem own_stI (X : Stand p l e R s m args below meth c T locs cells slots) (hx : p.tables.exec = Jvm.exec) (hZ : Z.Warmed39 s.vm) (eT : T.heap = h) {xs : List Int32} (A : own_AV Z h a .int (own_is xs)) {j x : Int32} {n : Nat} (hn : xs.length = n) (hj : ¬ (j < 0 ∨ n ≤ j.toNatClampNeg))
    {g : JFrame} (hg : g.method = m) {rest : List Value} (hs : g.stack = .int x :: .int j :: .ref a :: rest) (hd : decode c.code g.pc = .ok (.iastore, 1)) :
    ∃ T' h', Stand p l e R s m args below meth c T' (locs ++ [⟨a, j.toNatClampNeg⟩]) cells slots ∧ T'.heap = h' ∧ Wr h h' a j.toNatClampNeg (.int x) ∧ own_AV Z h' a .int (own_is (xs.set j.toNatClampNeg x)) ∧ ∀ target, Steps p.tables e below (T'.setTop { g with pc := g.pc + 1, stack := rest }) target → Steps p.tables e below (T.setTop g) target := by
  obtain ⟨cl, A, r⟩ := A
  obtain ⟨T', h', X', e', W, st⟩ := stI X hx hZ eT A (own_in r (by simp [own_is, hn]) hj) hg hs hd
  exact ⟨T', h', X', e', W, by have q := own_set A r W; simpa [own_is, List.map_set] using q, st⟩
theorem own_stJ (X : Stand p l e R s m args below meth c T locs cells slots) (hx : p.tables.exec = Jvm.exec) (hZ : Z.Warmed39 s.vm) (eT : T.heap = h) {xs : List Int64} (A : own_AV Z h a .long (own_js xs)) {j : Int32} {x : Int64} {n : Nat} (hn : xs.length = n) (hj : ¬ (j < 0 ∨ n ≤ j.toNatClampNeg))
    {g : JFrame} (hg : g.method = m) {rest : List Value} (hs : g.stack = .long x :: .int j :: .ref a :: rest) (hd : decode c.code g.pc = .ok (.lastore, 1)) :
    ∃ T' h', Stand p l e R s m args below meth c T' (locs ++ [⟨a, j.toNatClampNeg⟩]) cells slots ∧ T'.heap = h' ∧ Wr h h' a j.toNatClampNeg (.long x) ∧ own_AV Z h' a .long (own_js (xs.set j.toNatClampNeg x)) ∧ ∀ target, Steps p.tables e below (T'.setTop { g with pc := g.pc + 1, stack := rest }) target → Steps p.tables e below (T.setTop g) target := by
  obtain ⟨cl, A, r⟩ := A
  obtain ⟨T', h', X', e', W, st⟩ := stJ X hx hZ eT A (own_in r (by simp [own_js, hn]) hj) hg hs hd
  exact ⟨T', h', X', e', W, by have q := own_set A r W; simpa [own_js, List.map_set] using q, st⟩
theorem own_len (X : Stand p l e R s m args below meth c T locs cells slots) (hx : p.tables.exec = Jvm.exec) (hZ : Z.Warmed39 s.vm) (eT : T.heap = h) (A : own_AV Z h a ty vs) {z : Int32} (hz : vs.length.toInt32 = z)
    {g : JFrame} (hg : g.method = m) {rest : List Value} (hs : g.stack = .ref a :: rest) (hd : decode c.code g.pc = .ok (.arraylength, 1)) {target : State} (kk : Steps p.tables e below (T.setTop { g with pc := g.pc + 1, stack := .int z :: rest }) target) : Steps p.tables e below (T.setTop g) target := by
  obtain ⟨cl, A, r⟩ := A
  refine X.arraylength hx (by rw [eT]; exact A.1) (State.isArrayOf_alike hZ.alike A.2.1) hg hs hd target ?_
  rw [← Array.length_toList, r, hz]; exact kk
def own_ds (xs : List UInt64) : List Value := xs.map Value.double
theorem own_AV_newD {k : ClassId} {z : Int32} (A : Arr Z h a (newA k .double z) .double) : own_AV Z h a .double (own_ds (List.replicate z.toNatClampNeg 0)) := ⟨_, A, by simp [newA, own_ds, defaultValue]⟩
theorem own_stD (X : Stand p l e R s m args below meth c T locs cells slots) (hx : p.tables.exec = Jvm.exec) (hZ : Z.Warmed39 s.vm) (eT : T.heap = h) {xs : List UInt64} (A : own_AV Z h a .double (own_ds xs)) {j : Int32} {x : UInt64} {n : Nat} (hn : xs.length = n) (hj : ¬ (j < 0 ∨ n ≤ j.toNatClampNeg))
    {g : JFrame} (hg : g.method = m) {rest : List Value} (hs : g.stack = .double x :: .int j :: .ref a :: rest) (hd : decode c.code g.pc = .ok (.dastore, 1)) :
    ∃ T' h', Stand p l e R s m args below meth c T' (locs ++ [⟨a, j.toNatClampNeg⟩]) cells slots ∧ T'.heap = h' ∧ Wr h h' a j.toNatClampNeg (.double x) ∧ own_AV Z h' a .double (own_ds (xs.set j.toNatClampNeg x)) ∧ ∀ target, Steps p.tables e below (T'.setTop { g with pc := g.pc + 1, stack := rest }) target → Steps p.tables e below (T.setTop g) target := by
  obtain ⟨cl, A, r⟩ := A
  obtain ⟨T', h', X', e', W, st⟩ := stD X hx hZ eT A (own_in r (by simp [own_ds, hn]) hj) hg hs hd
  exact ⟨T', h', X', e', W, by have q := own_set A r W; simpa [own_ds, List.map_set] using q, st⟩
theorem own_ldD (X : Stand p l e R s m args below meth c T locs cells slots) (hx : p.tables.exec = Jvm.exec) (hZ : Z.Warmed39 s.vm) (eT : T.heap = h) {xs : List UInt64} (A : own_AV Z h a .double (own_ds xs)) {j : Int32} {n : Nat} (hn : xs.length = n) (hj : ¬ (j < 0 ∨ n ≤ j.toNatClampNeg))
    {g : JFrame} (hg : g.method = m) {rest : List Value} (hs : g.stack = .int j :: .ref a :: rest) (hd : decode c.code g.pc = .ok (.daload, 1)) {target : State} (kk : Steps p.tables e below (T.setTop { g with pc := g.pc + 1, stack := .double (xs.getD j.toNatClampNeg 0) :: rest }) target) : Steps p.tables e below (T.setTop g) target := by
  obtain ⟨cl, A, r⟩ := A
  have hlt := own_nat hj
  refine X.daload hx (by rw [eT]; exact A.1) (State.isArrayOf_alike hZ.alike A.2.1) A.2.2 (own_in r (by simp [own_ds, hn]) hj) ?_ hg hs hd _ kk
  rw [← Array.getElem?_toList, r]
  simp [own_ds, List.getD_eq_getElem?_getD, List.getElem?_eq_getElem (hn ▸ hlt)]
def own_AVk (Z : State) (h : Heap) (a : Addr) (k : ClassId) (ty : FieldType) (vs : List Value) : Prop := ∃ c : Cell, Arr Z h a c ty ∧ c.cls = k ∧ c.slots.toList = vs
variable {k : ClassId}
theorem own_AVk.lt (A : own_AVk Z h a k ty vs) : a < h.size := by obtain ⟨c, A, -⟩ := A; exact A.lt
theorem own_AVk.ext (A : own_AVk Z h a k ty vs) (E : Ext h h') : own_AVk Z h' a k ty vs := by obtain ⟨c, A, r⟩ := A; exact ⟨c, A.ext E, r⟩
theorem own_AVk.other (A : own_AVk Z h b k ty vs) (W : Wr h h' a sl v) (q : b ≠ a) : own_AVk Z h' b k ty vs := by obtain ⟨c, A, r⟩ := A; exact ⟨c, A.other W q, r⟩
theorem own_AVk.keep (A : own_AVk Z h a k ty vs) (K : Keep h h' ws) (q : a ∉ ws) : own_AVk Z h' a k ty vs := by obtain ⟨c, A, r⟩ := A; exact ⟨c, ⟨K.2.1 a c A.1 q, A.2⟩, r⟩
theorem own_AVk.av (A : own_AVk Z h a k ty vs) : own_AV Z h a ty vs := by obtain ⟨c, A, -, r⟩ := A; exact ⟨c, A, r⟩
theorem own_AVk_new {z : Int32} (A : Arr Z h a (newA k ty z) ty) : own_AVk Z h a k ty (List.replicate z.toNatClampNeg (defaultValue ty)) := ⟨_, A, rfl, by simp [newA]⟩
theorem own_stR (X : Stand p l e R s m args below meth c T locs cells slots) (hx : p.tables.exec = Jvm.exec) (hZ : Z.Warmed39 s.vm) (eT : T.heap = h) (A : own_AVk Z h a k ty vs) {j : Int32} {n : Nat} (hn : vs.length = n) (hj : ¬ (j < 0 ∨ n ≤ j.toNatClampNeg)) (hty : ty.isReference = true)
    (F : ∀ {c : Cell}, Arr Z h a c ty → c.cls = k → Sto Z h a v) {g : JFrame} (hg : g.method = m) {rest : List Value} (hs : g.stack = v :: .int j :: .ref a :: rest) (hd : decode c.code g.pc = .ok (.aastore, 1)) :
    ∃ T' h', Stand p l e R s m args below meth c T' (locs ++ [⟨a, j.toNatClampNeg⟩]) cells slots ∧ T'.heap = h' ∧ Wr h h' a j.toNatClampNeg v ∧ own_AVk Z h' a k ty (vs.set j.toNatClampNeg v) ∧ ∀ target, Steps p.tables e below (T'.setTop { g with pc := g.pc + 1, stack := rest }) target → Steps p.tables e below (T.setTop g) target := by
  obtain ⟨cl, A, q, r⟩ := A
  obtain ⟨T', h', X', e', W, st⟩ := stR X hx hZ eT A (own_in r hn hj) hty (F A q) hg hs hd
  exact ⟨T', h', X', e', W, ⟨_, A.same W, q, by simp [Cell.setSlot, ← r]⟩, st⟩
theorem own_ldR (X : Stand p l e R s m args below meth c T locs cells slots) (hx : p.tables.exec = Jvm.exec) (hZ : Z.Warmed39 s.vm) (eT : T.heap = h) (A : own_AVk Z h a k ty vs) {j : Int32} {n : Nat} (hn : vs.length = n) (hj : ¬ (j < 0 ∨ n ≤ j.toNatClampNeg)) (hty : ty.isReference = true) (hv : vs[j.toNatClampNeg]? = some v)
    {g : JFrame} (hg : g.method = m) {rest : List Value} (hs : g.stack = .int j :: .ref a :: rest) (hd : decode c.code g.pc = .ok (.aaload, 1)) {target : State} (kk : Steps p.tables e below (T.setTop { g with pc := g.pc + 1, stack := v :: rest }) target) : Steps p.tables e below (T.setTop g) target := by
  obtain ⟨cl, A, -, r⟩ := A
  exact X.aaload hx (by rw [eT]; exact A.1) (State.isArrayOf_alike hZ.alike A.2.1) hty A.2.2 (own_in r hn hj) (by rw [← Array.getElem?_toList, r]; exact hv) hg hs hd _ kk
theorem own_ldB (X : Stand p l e R s m args below meth c T locs cells slots) (hx : p.tables.exec = Jvm.exec) (hZ : Z.Warmed39 s.vm) (eT : T.heap = h) {xs : List Int32} (A : own_AV Z h a .byte (own_is xs)) {j : Int32} {n : Nat} (hn : xs.length = n) (hj : ¬ (j < 0 ∨ n ≤ j.toNatClampNeg))
    {g : JFrame} (hg : g.method = m) {rest : List Value} (hs : g.stack = .int j :: .ref a :: rest) (hd : decode c.code g.pc = .ok (.baload, 1)) {target : State} (kk : Steps p.tables e below (T.setTop { g with pc := g.pc + 1, stack := .int (xs.getD j.toNatClampNeg 0) :: rest }) target) : Steps p.tables e below (T.setTop g) target := by
  obtain ⟨cl, A, r⟩ := A
  have hlt := own_nat hj
  refine X.baloadBytes hx (by rw [eT]; exact A.1) (State.isArrayOf_alike hZ.alike A.2.1) A.2.2 (own_in r (by simp [own_is, hn]) hj) ?_ hg hs hd _ kk
  rw [← Array.getElem?_toList, r]
  simp [own_is, List.getD_eq_getElem?_getD, List.getElem?_eq_getElem (hn ▸ hlt)]
theorem own_eqI {args : Array Value} {s : State} {t : Term} {n : Int32} (q : (Jvm.Cond.eq t (Term.int n)).value args s none s [] = some true) : t.eval args s none [] s = some (.int n) := by
  obtain ⟨x, y, h1, h2, h3, h4⟩ := cmp_v (Or.inl q)
  cases h2.symm.trans (Term.int_eval n)
  obtain ⟨z, rfl⟩ := h4
  simp only [Cond.value, h1, h2] at q
  simpa [h1] using q
theorem own_AV.cell (A : own_AV Z h a ty vs) : ∃ c : Cell, h[a]? = some c ∧ ∀ q, c.vm ≠ .statics q := by obtain ⟨c, A, -⟩ := A; exact ⟨c, A.1, A.2.1.1⟩
theorem own_AVk.cell (A : own_AVk Z h a k ty vs) : ∃ c : Cell, h[a]? = some c ∧ ∀ q, c.vm ≠ .statics q := A.av.cell
theorem own_Sta_keep {C n d : String} {v : Value} (F : Sta Z h C n d v) (K : Keep h h' ws) (q : ∀ x ∈ ws, ∃ c : Cell, h[x]? = some c ∧ ∀ q, c.vm ≠ .statics q) : Sta Z h' C n d v := by
  obtain ⟨cf, i, k, f, st, cell, h1, h2, h3, h4, h5, h6, h7⟩ := F
  refine ⟨cf, i, k, f, st, cell, h1, h2, h3, h4, K.2.1 st cell h5 fun m => ?_, h6, h7⟩
  obtain ⟨c', g1, g2⟩ := q st m
  cases h5.symm.trans g1
  cases hv : cell.vm <;> first | exact g2 _ hv | (rw [hv] at h6; cases h6)
end OwnKit
abbrev own_y0 : MethodName := ⟨"com/example/attributes_to_entitlements/attributestoentitlements/Operator", "orders", "()Z"⟩
abbrev own_y1 : MethodName := ⟨"java/lang/Enum", "ordinal", "()I"⟩
abbrev own_y2 : MethodName := ⟨"com/example/attributes_to_entitlements/attributestoentitlements/Operator", "ordinal", "()I"⟩
abbrev own_y3 : MethodName := ⟨"com/example/attributes_to_entitlements/attributestoentitlements/Operator", "holds", "(I)Z"⟩
abbrev own_y4 : MethodName := ⟨"com/example/attributes_to_entitlements/attributestoentitlements/Operator", "symbol", "()Ljava/lang/String;"⟩
abbrev own_y5 : MethodName := ⟨"jdk/internal/util/Preconditions", "checkIndex", "(IILjava/util/function/BiFunction;)I"⟩
abbrev own_y6 : MethodName := ⟨"java/lang/String", "checkIndex", "(II)V"⟩
abbrev own_y7 : MethodName := ⟨"java/lang/String", "isLatin1", "()Z"⟩
abbrev own_y8 : MethodName := ⟨"java/lang/StringLatin1", "charAt", "([BI)C"⟩
abbrev own_y9 : MethodName := ⟨"java/lang/String", "charAt", "(I)C"⟩

def own_ord (a x y : Addr) : Int32 := if a = x then 0 else if a = y then 0 else 1
theorem own_r6 (x : Int32) : 0 ≤ ((x &&& 2147483647) % 6).toInt ∧ ((x &&& 2147483647) % 6).toInt < 6 := by
  have e1 := c_mask x 2147483647 31 (by decide) (by decide)
  have q1 : 0 ≤ (x &&& 2147483647).toInt := by rw [e1]; omega
  have e2 := (c_irem (x &&& 2147483647) 6 6 rfl).1 q1
  omega
theorem own_c6 {v : Int32} (h : 0 ≤ v.toInt ∧ v.toInt < 6) : v = 0 ∨ v = 1 ∨ v = 2 ∨ v = 3 ∨ v = 4 ∨ v = 5 := by
  simp only [← Int32.toInt_inj]
  have a0 : (0 : Int32).toInt = 0 := rfl
  have a1 : (1 : Int32).toInt = 1 := rfl
  have a2 : (2 : Int32).toInt = 2 := rfl
  have a3 : (3 : Int32).toInt = 3 := rfl
  have a4 : (4 : Int32).toInt = 4 := rfl
  have a5 : (5 : Int32).toInt = 5 := rfl
  omega
theorem own_pos (x : Int32) : 0 < ((x &&& 1073741823) + 1).toInt ∧ (-((x &&& 1073741823) + 1)).toInt < 0 := by
  have e1 := c_mask x 1073741823 30 (by decide) (by decide)
  have e2 := c_iadd (x &&& 1073741823) 1
  have e3 := c_ineg ((x &&& 1073741823) + 1)
  have r1 := rng32 ((x &&& 1073741823) + 1)
  have r2 := rng32 (-((x &&& 1073741823) + 1))
  have a : (1 : Int32).toInt = 1 := rfl
  rw [e1, a] at e2
  omega
theorem own_len_of {args : Array Value} {s : State} {t : Term} {a : Addr} {c : Cell} {n : Int32} (ev : t.eval args s none [] s = some (.ref a)) (A : Arr s s.heap a c .byte) (hl : (Jvm.Cond.eq (Term.length t) (Term.int n)).value args s none s [] = some true) (hn : ¬ n < 0) : c.slots.size = n.toNatClampNeg := by
  have q := own_eqI hl
  have hA : s.arrayAt? a = some c := A.fin (Vm.Alike.refl _)
  simp only [Term.eval, ev, hA, Option.bind_some, Option.bind_eq_bind] at q
  split at q
  · rename_i hlt
    have q2 : c.slots.size.toInt32 = n := by simpa using q
    have e1 : c.slots.size.toInt32.toInt = c.slots.size := len_toInt hlt
    have e2 : n.toNatClampNeg = n.toInt.toNat := rfl
    rw [q2] at e1
    omega
  · simp at q
theorem own_at_of {args : Array Value} {s : State} {t : Term} {a : Addr} {c : Cell} {j x : Int32} (ev : t.eval args s none [] s = some (.ref a)) (A : Arr s s.heap a c .byte) (h : (Jvm.Cond.eq (Term.elem t (Term.int j)) (Term.int x)).value args s none s [] = some true) : c.slots.toList[j.toNatClampNeg]? = some (.int x) := by
  rw [Array.getElem?_toList]; exact (elem_in (own_eqI h) ev (Term.int_eval j) A.1).2
theorem own_list1 {l : List Value} {x : Value} (h : l.length = 1) (h0 : l[0]? = some x) : l = [x] := by
  match l, h with
  | [a], _ => simpa using h0
theorem own_list2 {l : List Value} {x y : Value} (h : l.length = 2) (h0 : l[0]? = some x) (h1 : l[1]? = some y) : l = [x, y] := by
  match l, h with
  | [a, b], _ => simp at h0 h1; simp [h0, h1]
theorem d1_0 : decode prog_14_method_5_code 0 = .ok (.aload_n 0, 1) := by decide +kernel
theorem d1_1 : decode prog_14_method_5_code 1 = .ok (.getstatic 3, 3) := by decide +kernel
theorem d1_4 : decode prog_14_method_5_code 4 = .ok (.if_acmp .eq 14, 3) := by decide +kernel
theorem d1_18 : decode prog_14_method_5_code 18 = .ok (.iconst 0, 1) := by decide +kernel
theorem d1_19 : decode prog_14_method_5_code 19 = .ok (.ireturn, 1) := by decide +kernel
theorem d1_7 : decode prog_14_method_5_code 7 = .ok (.aload_n 0, 1) := by decide +kernel
theorem d1_8 : decode prog_14_method_5_code 8 = .ok (.getstatic 7, 3) := by decide +kernel
theorem d1_11 : decode prog_14_method_5_code 11 = .ok (.if_acmp .eq 7, 3) := by decide +kernel
theorem d1_14 : decode prog_14_method_5_code 14 = .ok (.iconst 1, 1) := by decide +kernel
theorem d1_15 : decode prog_14_method_5_code 15 = .ok (.goto 4, 3) := by decide +kernel
theorem pn_com_example_attributes_to_entitlements_attributestoentitlements_Operator : plainName "com/example/attributes_to_entitlements/attributestoentitlements/Operator" = true := by first | (simp [plainName, overriddenIn]; done) | decide +kernel
theorem ef_1_R (m : MethodId) (x0 : Addr) : entryFrame m #[(.ref x0)] 1 = mkF m 0 #[rv x0] [] := by first | (simp [entryFrame, mkF, argsToLocals, Value.category]; done) | rfl
def Qrm_ors (Z : State) (a1 : Addr) (a_EQUAL : Addr) (a_UNEQUAL : Addr) (h0 : Heap) (n0 : Nat) (v : Option Value) (h : Heap) (L : List Loc) : Prop := v = some (.int (own_ord a1 a_EQUAL a_UNEQUAL)) ∧ Fr n0 L ∧ h = h0
set_option maxRecDepth 65536 in
set_option maxHeartbeats 40000000 in
theorem rm_ors (l : Launch) (Z : State) (a0 : Array Value) (hw : ∀ d ∈ tables_1, d.before a0 Z = true) (ws : List Jvm.Cond) (a1 : Addr) (a_EQUAL : Addr) (a_UNEQUAL : Addr) (h0 : Heap) (n0 : Nat) (Z0 : n0 ≤ h0.size) (Sa_EQUAL : Sta Z h0 "com/example/attributes_to_entitlements/attributestoentitlements/Operator" "EQUAL" "Lcom/example/attributes_to_entitlements/attributestoentitlements/Operator;" (.ref a_EQUAL)) (Sa_UNEQUAL : Sta Z h0 "com/example/attributes_to_entitlements/attributestoentitlements/Operator" "UNEQUAL" "Lcom/example/attributes_to_entitlements/attributestoentitlements/Operator;" (.ref a_UNEQUAL)) :
    MetFree l own_y0 (head1 (Jvm.Cond.code own_y0 prog_14_method_5_code 1 (some .boolean) :: ws) ({ frames := 0, cells := 0, slots := 0, locals := 0 } : Room)) (fun a U => a = #[(.ref a1)] ∧ Z.Warmed39 U.vm ∧ U.heap = h0) (fun _ _ _ _ _ => True) (fun _ U o U' => ∃ v L, o = .returned v ∧ Qrm_ors Z a1 a_EQUAL a_UNEQUAL h0 n0 v U'.heap L ∧ FrameEnd U o U' L ({ frames := 0, cells := 0, slots := 0, locals := 0 } : Room).cells ({ frames := 0, cells := 0, slots := 0, locals := 0 } : Room).slots) := by
  refine MetFree.of_bodySF (plainFor_of_name pn_com_example_attributes_to_entitlements_attributestoentitlements_Operator) hisR ?_
  intro p e s m args below meth c s₁ Bd hml0 hP hK
  obtain ⟨rfl, hZ, hh⟩ := hP
  have hx := Bd.exec
  have hby := Bd.bytes
  have hml : c.maxLocals = 1 := hml0
  have hown : s.vm.findClass "com/example/attributes_to_entitlements/attributestoentitlements/Operator" = some m.cls := findClass_of_methodNamed Bd.named
  have hnm := (name_of_methodNamed Bd.named Bd.method).1
  have X0 : Stand p l e ({ frames := 0, cells := 0, slots := 0, locals := 0 } : Room) s m #[(.ref a1)] below meth c s₁ [] 0 0 := Stand.of_body Bd
  have e0 : s₁.heap = h0 := by rw [← hh, Bd.state]; rfl
  have N0 := Fr.nil n0
  have K0 : Keep h0 h0 [] := Keep.refl _ _
  refine own_start (Qk := Qrm_ors Z a1 a_EQUAL a_UNEQUAL h0 n0) (fun G hG => ?_)
  refine own_st (fun _ k => castTop (ef_1_R m a1) k) ?_
  show own_Fin p e below G (s₁.setTop (mkF m 0 #[rv a1] []))
  refine own_st (fun _ k => XS.aloadN X0.here hx rfl (hb hby d1_0) rfl rfl k) ?_
  show own_Fin p e below G (s₁.setTop (mkF m 1 #[rv a1] [(.ref a1)]))
  obtain ⟨T1, X1, e1, st1⟩ := getS2 X0 hx hZ hown (host := "") (Or.inl (own_w hw 23 rfl)) Via.refl e0 Sa_EQUAL (g := (mkF m 1 #[rv a1] [(.ref a1)])) rfl (hb hby d1_1)
  refine own_st st1 ?_
  show own_Fin p e below G (T1.setTop (mkF m 4 #[rv a1] [(.ref a_EQUAL), (.ref a1)]))
  by_cases ha4_2 : a1 = a_EQUAL
  · refine own_st (fun _ k => Jvm.RoadKit.acmp (g := (mkF m 4 #[rv a1] [(.ref a_EQUAL), (.ref a1)])) X1 hx rfl rfl rfl (pc0 := 4) (pc' := 18) (same := true) rfl (hb hby d1_4) rfl (decide_eq_true (congrArg Value.ref ha4_2)) (by decide) (by decide) k) ?_
    show own_Fin p e below G (T1.setTop (mkF m 18 #[rv a1] []))
    refine own_st (fun _ k => XS.iconst X1.here hx rfl (hb hby d1_18) k) ?_
    show own_Fin p e below G (T1.setTop (mkF m 19 #[rv a1] [(.int (0 : Int32))]))
    refine own_out X1 Bd.notSynchronized (v := (some (.int (0 : Int32)))) (fun h => by rw [Bd.returns] at h; cases h) hG (fun fs hr => retN X1 hx (t := .boolean) Bd.returns (by simp) (hb hby d1_19) hr) (by decide) (by decide) ?_
    exact ⟨by unfold own_ord; rw [if_pos ha4_2], N0, e1⟩
  · refine own_st (fun _ k => Jvm.RoadKit.acmp (g := (mkF m 4 #[rv a1] [(.ref a_EQUAL), (.ref a1)])) X1 hx rfl rfl rfl (pc0 := 4) (pc' := 7) (same := false) rfl (hb hby d1_4) rfl (decide_eq_false fun q => ha4_2 (Value.ref.inj q)) (by decide) (by decide) k) ?_
    show own_Fin p e below G (T1.setTop (mkF m 7 #[rv a1] []))
    refine own_st (fun _ k => XS.aloadN X1.here hx rfl (hb hby d1_7) rfl rfl k) ?_
    show own_Fin p e below G (T1.setTop (mkF m 8 #[rv a1] [(.ref a1)]))
    obtain ⟨T3, X3, e3, st3⟩ := getS2 X1 hx hZ hown (host := "") (Or.inl (own_w hw 73 rfl)) Via.refl e1 Sa_UNEQUAL (g := (mkF m 8 #[rv a1] [(.ref a1)])) rfl (hb hby d1_8)
    refine own_st st3 ?_
    show own_Fin p e below G (T3.setTop (mkF m 11 #[rv a1] [(.ref a_UNEQUAL), (.ref a1)]))
    by_cases ha11_4 : a1 = a_UNEQUAL
    · refine own_st (fun _ k => Jvm.RoadKit.acmp (g := (mkF m 11 #[rv a1] [(.ref a_UNEQUAL), (.ref a1)])) X3 hx rfl rfl rfl (pc0 := 11) (pc' := 18) (same := true) rfl (hb hby d1_11) rfl (decide_eq_true (congrArg Value.ref ha11_4)) (by decide) (by decide) k) ?_
      show own_Fin p e below G (T3.setTop (mkF m 18 #[rv a1] []))
      refine own_st (fun _ k => XS.iconst X3.here hx rfl (hb hby d1_18) k) ?_
      show own_Fin p e below G (T3.setTop (mkF m 19 #[rv a1] [(.int (0 : Int32))]))
      refine own_out X3 Bd.notSynchronized (v := (some (.int (0 : Int32)))) (fun h => by rw [Bd.returns] at h; cases h) hG (fun fs hr => retN X3 hx (t := .boolean) Bd.returns (by simp) (hb hby d1_19) hr) (by decide) (by decide) ?_
      exact ⟨by unfold own_ord; rw [if_neg ha4_2, if_pos ha11_4], N0, e3⟩
    · refine own_st (fun _ k => Jvm.RoadKit.acmp (g := (mkF m 11 #[rv a1] [(.ref a_UNEQUAL), (.ref a1)])) X3 hx rfl rfl rfl (pc0 := 11) (pc' := 14) (same := false) rfl (hb hby d1_11) rfl (decide_eq_false fun q => ha11_4 (Value.ref.inj q)) (by decide) (by decide) k) ?_
      show own_Fin p e below G (T3.setTop (mkF m 14 #[rv a1] []))
      refine own_st (fun _ k => XS.iconst X3.here hx rfl (hb hby d1_14) k) ?_
      show own_Fin p e below G (T3.setTop (mkF m 15 #[rv a1] [(.int (1 : Int32))]))
      refine own_st (fun _ k => XS.goto X3.here hx rfl (pc0 := 15) (pc' := 19) rfl (hb hby d1_15) (by decide) (by decide) k) ?_
      show own_Fin p e below G (T3.setTop (mkF m 19 #[rv a1] [(.int (1 : Int32))]))
      refine own_out X3 Bd.notSynchronized (v := (some (.int (1 : Int32)))) (fun h => by rw [Bd.returns] at h; cases h) hG (fun fs hr => retN X3 hx (t := .boolean) Bd.returns (by simp) (hb hby d1_19) hr) (by decide) (by decide) ?_
      exact ⟨by unfold own_ord; rw [if_neg ha4_2, if_neg ha11_4], N0, e3⟩

theorem d3_0 : decode jdk_37_method_2_code 0 = .ok (.aload_n 0, 1) := by decide +kernel
theorem d3_1 : decode jdk_37_method_2_code 1 = .ok (.getfield 7, 3) := by decide +kernel
theorem d3_4 : decode jdk_37_method_2_code 4 = .ok (.ireturn, 1) := by decide +kernel
theorem pn_java_lang_Enum : plainName "java/lang/Enum" = true := by first | (simp [plainName, overriddenIn]; done) | decide +kernel
theorem ef_3_R (m : MethodId) (x0 : Addr) : entryFrame m #[(.ref x0)] 1 = mkF m 0 #[rv x0] [] := by first | (simp [entryFrame, mkF, argsToLocals, Value.category]; done) | rfl
def Qrm_ord (Z : State) (a1 : Addr) (p1 : Int32) (h0 : Heap) (n0 : Nat) (v : Option Value) (h : Heap) (L : List Loc) : Prop := v = some (.int p1) ∧ Fr n0 L ∧ h = h0
set_option maxRecDepth 65536 in
set_option maxHeartbeats 40000000 in
theorem rm_ord (l : Launch) (Z : State) (a0 : Array Value) (hw : ∀ d ∈ tables_1, d.before a0 Z = true) (ws : List Jvm.Cond) (a1 : Addr) (p1 : Int32) (h0 : Heap) (n0 : Nat) (Z0 : n0 ≤ h0.size) (F1 : Fld Z h0 a1 "java/lang/Enum" "ordinal" "I" (.int p1)) :
    MetFree l own_y1 (head1 (Jvm.Cond.code own_y1 jdk_37_method_2_code 1 (some .int) :: ws) ({ frames := 0, cells := 0, slots := 0, locals := 0 } : Room)) (fun a U => a = #[(.ref a1)] ∧ Z.Warmed39 U.vm ∧ U.heap = h0) (fun _ _ _ _ _ => True) (fun _ U o U' => ∃ v L, o = .returned v ∧ Qrm_ord Z a1 p1 h0 n0 v U'.heap L ∧ FrameEnd U o U' L ({ frames := 0, cells := 0, slots := 0, locals := 0 } : Room).cells ({ frames := 0, cells := 0, slots := 0, locals := 0 } : Room).slots) := by
  refine MetFree.of_bodySF (plainFor_of_name pn_java_lang_Enum) hisR ?_
  intro p e s m args below meth c s₁ Bd hml0 hP hK
  obtain ⟨rfl, hZ, hh⟩ := hP
  have hx := Bd.exec
  have hby := Bd.bytes
  have hml : c.maxLocals = 1 := hml0
  have hown : s.vm.findClass "java/lang/Enum" = some m.cls := findClass_of_methodNamed Bd.named
  have hnm := (name_of_methodNamed Bd.named Bd.method).1
  have X0 : Stand p l e ({ frames := 0, cells := 0, slots := 0, locals := 0 } : Room) s m #[(.ref a1)] below meth c s₁ [] 0 0 := Stand.of_body Bd
  have e0 : s₁.heap = h0 := by rw [← hh, Bd.state]; rfl
  have N0 := Fr.nil n0
  have K0 : Keep h0 h0 [] := Keep.refl _ _
  refine own_start (Qk := Qrm_ord Z a1 p1 h0 n0) (fun G hG => ?_)
  refine own_st (fun _ k => castTop (ef_3_R m a1) k) ?_
  show own_Fin p e below G (s₁.setTop (mkF m 0 #[rv a1] []))
  refine own_st (fun _ k => XS.aloadN X0.here hx rfl (hb hby d3_0) rfl rfl k) ?_
  show own_Fin p e below G (s₁.setTop (mkF m 1 #[rv a1] [(.ref a1)]))
  obtain ⟨T5, X5, e5, st5⟩ := getF X0 hx hZ hown (host := "") (Or.inl (own_w hw 36 rfl)) Via.refl e0 F1 (g := (mkF m 1 #[rv a1] [(.ref a1)])) rfl rfl (hb hby d3_1)
  refine own_st st5 ?_
  show own_Fin p e below G (T5.setTop (mkF m 4 #[rv a1] [(.int p1)]))
  refine own_out X5 Bd.notSynchronized (v := (some (.int p1))) (fun h => by rw [Bd.returns] at h; cases h) hG (fun fs hr => retOut X5 hx Bd.returns rfl (Or.inl ⟨rfl, Or.inl rfl, _, rfl⟩) (hb hby d3_4) hr) (by decide) (by decide) ?_
  exact ⟨rfl, N0, e5⟩

theorem d2_0 : decode prog_14_method_6_code 0 = .ok (.aload_n 0, 1) := by decide +kernel
theorem d2_1 : decode prog_14_method_6_code 1 = .ok (.invokevirtual 45, 3) := by decide +kernel
theorem pd___I_154 : parseMethodDescriptor "()I" = some ⟨[], some .int⟩ := by decide +kernel
theorem d2_4 : decode prog_14_method_6_code 4 = .ok (.tableswitch 40 0 5 #[50, 62, 74, 86, 98, 110], 40) := by decide +kernel
theorem d2_54 : decode prog_14_method_6_code 54 = .ok (.iload_n 1, 1) := by decide +kernel
theorem d2_55 : decode prog_14_method_6_code 55 = .ok (.ifCond .ne 7, 3) := by decide +kernel
theorem d2_62 : decode prog_14_method_6_code 62 = .ok (.iconst 0, 1) := by decide +kernel
theorem d2_63 : decode prog_14_method_6_code 63 = .ok (.goto 60, 3) := by decide +kernel
theorem d2_123 : decode prog_14_method_6_code 123 = .ok (.ireturn, 1) := by decide +kernel
theorem ef_2_RI (m : MethodId) (x0 : Addr) (x1 : Int32) : entryFrame m #[(.ref x0), (.int x1)] 2 = mkF m 0 #[rv x0, iv x1] [] := by first | (simp [entryFrame, mkF, argsToLocals, Value.category]; done) | rfl
def Qrm_h0p (Z : State) (a1 : Addr) (p1 : Int32) (h0 : Heap) (n0 : Nat) (v : Option Value) (h : Heap) (L : List Loc) : Prop := v = some (.int (0 : Int32)) ∧ Fr n0 L ∧ h = h0
set_option maxRecDepth 65536 in
set_option maxHeartbeats 40000000 in
theorem rm_h0p (l : Launch) (Z : State) (a0 : Array Value) (hw : ∀ d ∈ tables_1, d.before a0 Z = true) (ws : List Jvm.Cond) (a1 : Addr) (p1 : Int32) (h0 : Heap) (n0 : Nat) (Z0 : n0 ≤ h0.size) (E1 : Exa Z h0 a1 "com/example/attributes_to_entitlements/attributestoentitlements/Operator") (F1 : Fld Z h0 a1 "java/lang/Enum" "ordinal" "I" (.int (0 : Int32))) (z1 : ¬ p1 = (0 : Int32)) (z2 : ¬ p1 < (0 : Int32)) (z3 : (0 : Int32) < p1) :
    MetFree l own_y3 (head1 (Jvm.Cond.code own_y3 prog_14_method_6_code 2 (some .boolean) :: ws) ({ frames := 1, cells := 0, slots := 0, locals := 12 } : Room)) (fun a U => a = #[(.ref a1), (.int p1)] ∧ Z.Warmed39 U.vm ∧ U.heap = h0) (fun _ _ _ _ _ => True) (fun _ U o U' => ∃ v L, o = .returned v ∧ Qrm_h0p Z a1 p1 h0 n0 v U'.heap L ∧ FrameEnd U o U' L ({ frames := 1, cells := 0, slots := 0, locals := 12 } : Room).cells ({ frames := 1, cells := 0, slots := 0, locals := 12 } : Room).slots) := by
  refine MetFree.of_bodySF (plainFor_of_name pn_com_example_attributes_to_entitlements_attributestoentitlements_Operator) hisR ?_
  intro p e s m args below meth c s₁ Bd hml0 hP hK
  obtain ⟨rfl, hZ, hh⟩ := hP
  have hx := Bd.exec
  have hby := Bd.bytes
  have hml : c.maxLocals = 2 := hml0
  have hown : s.vm.findClass "com/example/attributes_to_entitlements/attributestoentitlements/Operator" = some m.cls := findClass_of_methodNamed Bd.named
  have hnm := (name_of_methodNamed Bd.named Bd.method).1
  have X0 : Stand p l e ({ frames := 1, cells := 0, slots := 0, locals := 12 } : Room) s m #[(.ref a1), (.int p1)] below meth c s₁ [] 0 0 := Stand.of_body Bd
  have e0 : s₁.heap = h0 := by rw [← hh, Bd.state]; rfl
  have N0 := Fr.nil n0
  have K0 : Keep h0 h0 [] := Keep.refl _ _
  refine own_start (Qk := Qrm_h0p Z a1 p1 h0 n0) (fun G hG => ?_)
  refine own_st (fun _ k => castTop (ef_2_RI m a1 p1) k) ?_
  show own_Fin p e below G (s₁.setTop (mkF m 0 #[rv a1, iv p1] []))
  refine own_st (fun _ k => XS.aloadN X0.here hx rfl (hb hby d2_0) rfl rfl k) ?_
  show own_Fin p e below G (s₁.setTop (mkF m 1 #[rv a1, iv p1] [(.ref a1)]))
  obtain ⟨cq6, kq6, q6a, q6b, q6c⟩ := isOf hZ e0 E1
  obtain ⟨_, _, ⟨T6, L6, k6, n6⟩, -, X6, ⟨Lc6, hQ6, l6, y6, z6⟩, st6⟩ := X0.virtualBackUp hx (x := own_y2) (y := own_y1) (owner := "java/lang/Enum") hown (mvT hZ (own_w hw 29 rfl)) (mvT hZ (own_w hw 30 rfl)) (mvT hZ (own_w hw 31 rfl)) (by decide) (mvT hZ (own_w hw 33 rfl)) (mvT hZ (own_w hw 32 rfl)) (backOf (W := 0) (rm_ord l Z a0 hw [] a1 (0 : Int32) h0 n0 (Nat.le_trans Z0 K0.1) F1) hZ (own_w hw 35 rfl) (own_w hw 34 rfl) (by decide) (by decide)) q6a q6c (g := (mkF m 1 #[rv a1, iv p1] [(.ref a1)])) rfl (by rw [hml]; rfl) (Steps.refl _) (argsL := []) (rest := []) (lenOf pd___I_154 rfl) rfl (by show 2 * 0 + _ ≤ _; exact Nat.le_of_eq rfl) (hb hby d2_1) (fun _ _ => ⟨rfl, e0, (by decide : 0 + 0 ≤ _), (by decide : 0 + 0 ≤ _)⟩)
  dsimp only [Pt.U, Pt.locs, Pt.cells, Pt.slots] at X6 l6 y6 z6 st6 hQ6
  subst l6 y6 z6
  obtain ⟨rfl, N6q, e6⟩ := hQ6
  skip
  have N6 := Fr.app N0 N6q
  refine own_tr st6 ?_
  show own_Fin p e below G (T6.setTop (mkF m 4 #[rv a1, iv p1] [(.int (0 : Int32))]))
  refine own_st (fun _ k => XS.tswIn X6.here hx rfl (pc0 := 4) (pc' := 54) rfl (hb hby d2_4) rfl (by decide) (o := 50) (by decide) (by decide) (by decide) k) ?_
  show own_Fin p e below G (T6.setTop (mkF m 54 #[rv a1, iv p1] []))
  refine own_st (fun _ k => XS.iloadN X6.here hx rfl (hb hby d2_54) rfl  k) ?_
  show own_Fin p e below G (T6.setTop (mkF m 55 #[rv a1, iv p1] [(.int p1)]))
  refine own_st (fun _ k => XS.ifYes X6.here hx rfl (pc0 := 55) (pc' := 62) rfl (hb hby d2_55) rfl ((if0 _ _).trans (feq z1).2) (by decide) (by decide) k) ?_
  show own_Fin p e below G (T6.setTop (mkF m 62 #[rv a1, iv p1] []))
  refine own_st (fun _ k => XS.iconst X6.here hx rfl (hb hby d2_62) k) ?_
  show own_Fin p e below G (T6.setTop (mkF m 63 #[rv a1, iv p1] [(.int (0 : Int32))]))
  refine own_st (fun _ k => XS.goto X6.here hx rfl (pc0 := 63) (pc' := 123) rfl (hb hby d2_63) (by decide) (by decide) k) ?_
  show own_Fin p e below G (T6.setTop (mkF m 123 #[rv a1, iv p1] [(.int (0 : Int32))]))
  refine own_out X6 Bd.notSynchronized (v := (some (.int (0 : Int32)))) (fun h => by rw [Bd.returns] at h; cases h) hG (fun fs hr => retN X6 hx (t := .boolean) Bd.returns (by simp) (hb hby d2_123) hr) (by decide) (by decide) ?_
  exact ⟨rfl, N6, e6⟩

def Qrm_h0n (Z : State) (a1 : Addr) (p1 : Int32) (h0 : Heap) (n0 : Nat) (v : Option Value) (h : Heap) (L : List Loc) : Prop := v = some (.int (0 : Int32)) ∧ Fr n0 L ∧ h = h0
set_option maxRecDepth 65536 in
set_option maxHeartbeats 40000000 in
theorem rm_h0n (l : Launch) (Z : State) (a0 : Array Value) (hw : ∀ d ∈ tables_1, d.before a0 Z = true) (ws : List Jvm.Cond) (a1 : Addr) (p1 : Int32) (h0 : Heap) (n0 : Nat) (Z0 : n0 ≤ h0.size) (E1 : Exa Z h0 a1 "com/example/attributes_to_entitlements/attributestoentitlements/Operator") (F1 : Fld Z h0 a1 "java/lang/Enum" "ordinal" "I" (.int (0 : Int32))) (z1 : ¬ p1 = (0 : Int32)) (z2 : p1 < (0 : Int32)) (z3 : ¬ (0 : Int32) < p1) :
    MetFree l own_y3 (head1 (Jvm.Cond.code own_y3 prog_14_method_6_code 2 (some .boolean) :: ws) ({ frames := 1, cells := 0, slots := 0, locals := 12 } : Room)) (fun a U => a = #[(.ref a1), (.int p1)] ∧ Z.Warmed39 U.vm ∧ U.heap = h0) (fun _ _ _ _ _ => True) (fun _ U o U' => ∃ v L, o = .returned v ∧ Qrm_h0n Z a1 p1 h0 n0 v U'.heap L ∧ FrameEnd U o U' L ({ frames := 1, cells := 0, slots := 0, locals := 12 } : Room).cells ({ frames := 1, cells := 0, slots := 0, locals := 12 } : Room).slots) := by
  refine MetFree.of_bodySF (plainFor_of_name pn_com_example_attributes_to_entitlements_attributestoentitlements_Operator) hisR ?_
  intro p e s m args below meth c s₁ Bd hml0 hP hK
  obtain ⟨rfl, hZ, hh⟩ := hP
  have hx := Bd.exec
  have hby := Bd.bytes
  have hml : c.maxLocals = 2 := hml0
  have hown : s.vm.findClass "com/example/attributes_to_entitlements/attributestoentitlements/Operator" = some m.cls := findClass_of_methodNamed Bd.named
  have hnm := (name_of_methodNamed Bd.named Bd.method).1
  have X0 : Stand p l e ({ frames := 1, cells := 0, slots := 0, locals := 12 } : Room) s m #[(.ref a1), (.int p1)] below meth c s₁ [] 0 0 := Stand.of_body Bd
  have e0 : s₁.heap = h0 := by rw [← hh, Bd.state]; rfl
  have N0 := Fr.nil n0
  have K0 : Keep h0 h0 [] := Keep.refl _ _
  refine own_start (Qk := Qrm_h0n Z a1 p1 h0 n0) (fun G hG => ?_)
  refine own_st (fun _ k => castTop (ef_2_RI m a1 p1) k) ?_
  show own_Fin p e below G (s₁.setTop (mkF m 0 #[rv a1, iv p1] []))
  refine own_st (fun _ k => XS.aloadN X0.here hx rfl (hb hby d2_0) rfl rfl k) ?_
  show own_Fin p e below G (s₁.setTop (mkF m 1 #[rv a1, iv p1] [(.ref a1)]))
  obtain ⟨cq7, kq7, q7a, q7b, q7c⟩ := isOf hZ e0 E1
  obtain ⟨_, _, ⟨T7, L7, k7, n7⟩, -, X7, ⟨Lc7, hQ7, l7, y7, z7⟩, st7⟩ := X0.virtualBackUp hx (x := own_y2) (y := own_y1) (owner := "java/lang/Enum") hown (mvT hZ (own_w hw 29 rfl)) (mvT hZ (own_w hw 30 rfl)) (mvT hZ (own_w hw 31 rfl)) (by decide) (mvT hZ (own_w hw 33 rfl)) (mvT hZ (own_w hw 32 rfl)) (backOf (W := 0) (rm_ord l Z a0 hw [] a1 (0 : Int32) h0 n0 (Nat.le_trans Z0 K0.1) F1) hZ (own_w hw 35 rfl) (own_w hw 34 rfl) (by decide) (by decide)) q7a q7c (g := (mkF m 1 #[rv a1, iv p1] [(.ref a1)])) rfl (by rw [hml]; rfl) (Steps.refl _) (argsL := []) (rest := []) (lenOf pd___I_154 rfl) rfl (by show 2 * 0 + _ ≤ _; exact Nat.le_of_eq rfl) (hb hby d2_1) (fun _ _ => ⟨rfl, e0, (by decide : 0 + 0 ≤ _), (by decide : 0 + 0 ≤ _)⟩)
  dsimp only [Pt.U, Pt.locs, Pt.cells, Pt.slots] at X7 l7 y7 z7 st7 hQ7
  subst l7 y7 z7
  obtain ⟨rfl, N7q, e7⟩ := hQ7
  skip
  have N7 := Fr.app N0 N7q
  refine own_tr st7 ?_
  show own_Fin p e below G (T7.setTop (mkF m 4 #[rv a1, iv p1] [(.int (0 : Int32))]))
  refine own_st (fun _ k => XS.tswIn X7.here hx rfl (pc0 := 4) (pc' := 54) rfl (hb hby d2_4) rfl (by decide) (o := 50) (by decide) (by decide) (by decide) k) ?_
  show own_Fin p e below G (T7.setTop (mkF m 54 #[rv a1, iv p1] []))
  refine own_st (fun _ k => XS.iloadN X7.here hx rfl (hb hby d2_54) rfl  k) ?_
  show own_Fin p e below G (T7.setTop (mkF m 55 #[rv a1, iv p1] [(.int p1)]))
  refine own_st (fun _ k => XS.ifYes X7.here hx rfl (pc0 := 55) (pc' := 62) rfl (hb hby d2_55) rfl ((if0 _ _).trans (feq z1).2) (by decide) (by decide) k) ?_
  show own_Fin p e below G (T7.setTop (mkF m 62 #[rv a1, iv p1] []))
  refine own_st (fun _ k => XS.iconst X7.here hx rfl (hb hby d2_62) k) ?_
  show own_Fin p e below G (T7.setTop (mkF m 63 #[rv a1, iv p1] [(.int (0 : Int32))]))
  refine own_st (fun _ k => XS.goto X7.here hx rfl (pc0 := 63) (pc' := 123) rfl (hb hby d2_63) (by decide) (by decide) k) ?_
  show own_Fin p e below G (T7.setTop (mkF m 123 #[rv a1, iv p1] [(.int (0 : Int32))]))
  refine own_out X7 Bd.notSynchronized (v := (some (.int (0 : Int32)))) (fun h => by rw [Bd.returns] at h; cases h) hG (fun fs hr => retN X7 hx (t := .boolean) Bd.returns (by simp) (hb hby d2_123) hr) (by decide) (by decide) ?_
  exact ⟨rfl, N7, e7⟩

theorem d2_66 : decode prog_14_method_6_code 66 = .ok (.iload_n 1, 1) := by decide +kernel
theorem d2_67 : decode prog_14_method_6_code 67 = .ok (.ifCond .eq 7, 3) := by decide +kernel
theorem d2_70 : decode prog_14_method_6_code 70 = .ok (.iconst 1, 1) := by decide +kernel
theorem d2_71 : decode prog_14_method_6_code 71 = .ok (.goto 52, 3) := by decide +kernel
def Qrm_h1p (Z : State) (a1 : Addr) (p1 : Int32) (h0 : Heap) (n0 : Nat) (v : Option Value) (h : Heap) (L : List Loc) : Prop := v = some (.int (1 : Int32)) ∧ Fr n0 L ∧ h = h0
set_option maxRecDepth 65536 in
set_option maxHeartbeats 40000000 in
theorem rm_h1p (l : Launch) (Z : State) (a0 : Array Value) (hw : ∀ d ∈ tables_1, d.before a0 Z = true) (ws : List Jvm.Cond) (a1 : Addr) (p1 : Int32) (h0 : Heap) (n0 : Nat) (Z0 : n0 ≤ h0.size) (E1 : Exa Z h0 a1 "com/example/attributes_to_entitlements/attributestoentitlements/Operator") (F1 : Fld Z h0 a1 "java/lang/Enum" "ordinal" "I" (.int (1 : Int32))) (z1 : ¬ p1 = (0 : Int32)) (z2 : ¬ p1 < (0 : Int32)) (z3 : (0 : Int32) < p1) :
    MetFree l own_y3 (head1 (Jvm.Cond.code own_y3 prog_14_method_6_code 2 (some .boolean) :: ws) ({ frames := 1, cells := 0, slots := 0, locals := 12 } : Room)) (fun a U => a = #[(.ref a1), (.int p1)] ∧ Z.Warmed39 U.vm ∧ U.heap = h0) (fun _ _ _ _ _ => True) (fun _ U o U' => ∃ v L, o = .returned v ∧ Qrm_h1p Z a1 p1 h0 n0 v U'.heap L ∧ FrameEnd U o U' L ({ frames := 1, cells := 0, slots := 0, locals := 12 } : Room).cells ({ frames := 1, cells := 0, slots := 0, locals := 12 } : Room).slots) := by
  refine MetFree.of_bodySF (plainFor_of_name pn_com_example_attributes_to_entitlements_attributestoentitlements_Operator) hisR ?_
  intro p e s m args below meth c s₁ Bd hml0 hP hK
  obtain ⟨rfl, hZ, hh⟩ := hP
  have hx := Bd.exec
  have hby := Bd.bytes
  have hml : c.maxLocals = 2 := hml0
  have hown : s.vm.findClass "com/example/attributes_to_entitlements/attributestoentitlements/Operator" = some m.cls := findClass_of_methodNamed Bd.named
  have hnm := (name_of_methodNamed Bd.named Bd.method).1
  have X0 : Stand p l e ({ frames := 1, cells := 0, slots := 0, locals := 12 } : Room) s m #[(.ref a1), (.int p1)] below meth c s₁ [] 0 0 := Stand.of_body Bd
  have e0 : s₁.heap = h0 := by rw [← hh, Bd.state]; rfl
  have N0 := Fr.nil n0
  have K0 : Keep h0 h0 [] := Keep.refl _ _
  refine own_start (Qk := Qrm_h1p Z a1 p1 h0 n0) (fun G hG => ?_)
  refine own_st (fun _ k => castTop (ef_2_RI m a1 p1) k) ?_
  show own_Fin p e below G (s₁.setTop (mkF m 0 #[rv a1, iv p1] []))
  refine own_st (fun _ k => XS.aloadN X0.here hx rfl (hb hby d2_0) rfl rfl k) ?_
  show own_Fin p e below G (s₁.setTop (mkF m 1 #[rv a1, iv p1] [(.ref a1)]))
  obtain ⟨cq8, kq8, q8a, q8b, q8c⟩ := isOf hZ e0 E1
  obtain ⟨_, _, ⟨T8, L8, k8, n8⟩, -, X8, ⟨Lc8, hQ8, l8, y8, z8⟩, st8⟩ := X0.virtualBackUp hx (x := own_y2) (y := own_y1) (owner := "java/lang/Enum") hown (mvT hZ (own_w hw 29 rfl)) (mvT hZ (own_w hw 30 rfl)) (mvT hZ (own_w hw 31 rfl)) (by decide) (mvT hZ (own_w hw 33 rfl)) (mvT hZ (own_w hw 32 rfl)) (backOf (W := 0) (rm_ord l Z a0 hw [] a1 (1 : Int32) h0 n0 (Nat.le_trans Z0 K0.1) F1) hZ (own_w hw 35 rfl) (own_w hw 34 rfl) (by decide) (by decide)) q8a q8c (g := (mkF m 1 #[rv a1, iv p1] [(.ref a1)])) rfl (by rw [hml]; rfl) (Steps.refl _) (argsL := []) (rest := []) (lenOf pd___I_154 rfl) rfl (by show 2 * 0 + _ ≤ _; exact Nat.le_of_eq rfl) (hb hby d2_1) (fun _ _ => ⟨rfl, e0, (by decide : 0 + 0 ≤ _), (by decide : 0 + 0 ≤ _)⟩)
  dsimp only [Pt.U, Pt.locs, Pt.cells, Pt.slots] at X8 l8 y8 z8 st8 hQ8
  subst l8 y8 z8
  obtain ⟨rfl, N8q, e8⟩ := hQ8
  skip
  have N8 := Fr.app N0 N8q
  refine own_tr st8 ?_
  show own_Fin p e below G (T8.setTop (mkF m 4 #[rv a1, iv p1] [(.int (1 : Int32))]))
  refine own_st (fun _ k => XS.tswIn X8.here hx rfl (pc0 := 4) (pc' := 66) rfl (hb hby d2_4) rfl (by decide) (o := 62) (by decide) (by decide) (by decide) k) ?_
  show own_Fin p e below G (T8.setTop (mkF m 66 #[rv a1, iv p1] []))
  refine own_st (fun _ k => XS.iloadN X8.here hx rfl (hb hby d2_66) rfl  k) ?_
  show own_Fin p e below G (T8.setTop (mkF m 67 #[rv a1, iv p1] [(.int p1)]))
  refine own_st (fun _ k => XS.ifNo X8.here hx rfl (hb hby d2_67) rfl ((if0 _ _).trans (feq z1).1) k) ?_
  show own_Fin p e below G (T8.setTop (mkF m 70 #[rv a1, iv p1] []))
  refine own_st (fun _ k => XS.iconst X8.here hx rfl (hb hby d2_70) k) ?_
  show own_Fin p e below G (T8.setTop (mkF m 71 #[rv a1, iv p1] [(.int (1 : Int32))]))
  refine own_st (fun _ k => XS.goto X8.here hx rfl (pc0 := 71) (pc' := 123) rfl (hb hby d2_71) (by decide) (by decide) k) ?_
  show own_Fin p e below G (T8.setTop (mkF m 123 #[rv a1, iv p1] [(.int (1 : Int32))]))
  refine own_out X8 Bd.notSynchronized (v := (some (.int (1 : Int32)))) (fun h => by rw [Bd.returns] at h; cases h) hG (fun fs hr => retN X8 hx (t := .boolean) Bd.returns (by simp) (hb hby d2_123) hr) (by decide) (by decide) ?_
  exact ⟨rfl, N8, e8⟩

def Qrm_h1n (Z : State) (a1 : Addr) (p1 : Int32) (h0 : Heap) (n0 : Nat) (v : Option Value) (h : Heap) (L : List Loc) : Prop := v = some (.int (1 : Int32)) ∧ Fr n0 L ∧ h = h0
set_option maxRecDepth 65536 in
set_option maxHeartbeats 40000000 in
theorem rm_h1n (l : Launch) (Z : State) (a0 : Array Value) (hw : ∀ d ∈ tables_1, d.before a0 Z = true) (ws : List Jvm.Cond) (a1 : Addr) (p1 : Int32) (h0 : Heap) (n0 : Nat) (Z0 : n0 ≤ h0.size) (E1 : Exa Z h0 a1 "com/example/attributes_to_entitlements/attributestoentitlements/Operator") (F1 : Fld Z h0 a1 "java/lang/Enum" "ordinal" "I" (.int (1 : Int32))) (z1 : ¬ p1 = (0 : Int32)) (z2 : p1 < (0 : Int32)) (z3 : ¬ (0 : Int32) < p1) :
    MetFree l own_y3 (head1 (Jvm.Cond.code own_y3 prog_14_method_6_code 2 (some .boolean) :: ws) ({ frames := 1, cells := 0, slots := 0, locals := 12 } : Room)) (fun a U => a = #[(.ref a1), (.int p1)] ∧ Z.Warmed39 U.vm ∧ U.heap = h0) (fun _ _ _ _ _ => True) (fun _ U o U' => ∃ v L, o = .returned v ∧ Qrm_h1n Z a1 p1 h0 n0 v U'.heap L ∧ FrameEnd U o U' L ({ frames := 1, cells := 0, slots := 0, locals := 12 } : Room).cells ({ frames := 1, cells := 0, slots := 0, locals := 12 } : Room).slots) := by
  refine MetFree.of_bodySF (plainFor_of_name pn_com_example_attributes_to_entitlements_attributestoentitlements_Operator) hisR ?_
  intro p e s m args below meth c s₁ Bd hml0 hP hK
  obtain ⟨rfl, hZ, hh⟩ := hP
  have hx := Bd.exec
  have hby := Bd.bytes
  have hml : c.maxLocals = 2 := hml0
  have hown : s.vm.findClass "com/example/attributes_to_entitlements/attributestoentitlements/Operator" = some m.cls := findClass_of_methodNamed Bd.named
  have hnm := (name_of_methodNamed Bd.named Bd.method).1
  have X0 : Stand p l e ({ frames := 1, cells := 0, slots := 0, locals := 12 } : Room) s m #[(.ref a1), (.int p1)] below meth c s₁ [] 0 0 := Stand.of_body Bd
  have e0 : s₁.heap = h0 := by rw [← hh, Bd.state]; rfl
  have N0 := Fr.nil n0
  have K0 : Keep h0 h0 [] := Keep.refl _ _
  refine own_start (Qk := Qrm_h1n Z a1 p1 h0 n0) (fun G hG => ?_)
  refine own_st (fun _ k => castTop (ef_2_RI m a1 p1) k) ?_
  show own_Fin p e below G (s₁.setTop (mkF m 0 #[rv a1, iv p1] []))
  refine own_st (fun _ k => XS.aloadN X0.here hx rfl (hb hby d2_0) rfl rfl k) ?_
  show own_Fin p e below G (s₁.setTop (mkF m 1 #[rv a1, iv p1] [(.ref a1)]))
  obtain ⟨cq9, kq9, q9a, q9b, q9c⟩ := isOf hZ e0 E1
  obtain ⟨_, _, ⟨T9, L9, k9, n9⟩, -, X9, ⟨Lc9, hQ9, l9, y9, z9⟩, st9⟩ := X0.virtualBackUp hx (x := own_y2) (y := own_y1) (owner := "java/lang/Enum") hown (mvT hZ (own_w hw 29 rfl)) (mvT hZ (own_w hw 30 rfl)) (mvT hZ (own_w hw 31 rfl)) (by decide) (mvT hZ (own_w hw 33 rfl)) (mvT hZ (own_w hw 32 rfl)) (backOf (W := 0) (rm_ord l Z a0 hw [] a1 (1 : Int32) h0 n0 (Nat.le_trans Z0 K0.1) F1) hZ (own_w hw 35 rfl) (own_w hw 34 rfl) (by decide) (by decide)) q9a q9c (g := (mkF m 1 #[rv a1, iv p1] [(.ref a1)])) rfl (by rw [hml]; rfl) (Steps.refl _) (argsL := []) (rest := []) (lenOf pd___I_154 rfl) rfl (by show 2 * 0 + _ ≤ _; exact Nat.le_of_eq rfl) (hb hby d2_1) (fun _ _ => ⟨rfl, e0, (by decide : 0 + 0 ≤ _), (by decide : 0 + 0 ≤ _)⟩)
  dsimp only [Pt.U, Pt.locs, Pt.cells, Pt.slots] at X9 l9 y9 z9 st9 hQ9
  subst l9 y9 z9
  obtain ⟨rfl, N9q, e9⟩ := hQ9
  skip
  have N9 := Fr.app N0 N9q
  refine own_tr st9 ?_
  show own_Fin p e below G (T9.setTop (mkF m 4 #[rv a1, iv p1] [(.int (1 : Int32))]))
  refine own_st (fun _ k => XS.tswIn X9.here hx rfl (pc0 := 4) (pc' := 66) rfl (hb hby d2_4) rfl (by decide) (o := 62) (by decide) (by decide) (by decide) k) ?_
  show own_Fin p e below G (T9.setTop (mkF m 66 #[rv a1, iv p1] []))
  refine own_st (fun _ k => XS.iloadN X9.here hx rfl (hb hby d2_66) rfl  k) ?_
  show own_Fin p e below G (T9.setTop (mkF m 67 #[rv a1, iv p1] [(.int p1)]))
  refine own_st (fun _ k => XS.ifNo X9.here hx rfl (hb hby d2_67) rfl ((if0 _ _).trans (feq z1).1) k) ?_
  show own_Fin p e below G (T9.setTop (mkF m 70 #[rv a1, iv p1] []))
  refine own_st (fun _ k => XS.iconst X9.here hx rfl (hb hby d2_70) k) ?_
  show own_Fin p e below G (T9.setTop (mkF m 71 #[rv a1, iv p1] [(.int (1 : Int32))]))
  refine own_st (fun _ k => XS.goto X9.here hx rfl (pc0 := 71) (pc' := 123) rfl (hb hby d2_71) (by decide) (by decide) k) ?_
  show own_Fin p e below G (T9.setTop (mkF m 123 #[rv a1, iv p1] [(.int (1 : Int32))]))
  refine own_out X9 Bd.notSynchronized (v := (some (.int (1 : Int32)))) (fun h => by rw [Bd.returns] at h; cases h) hG (fun fs hr => retN X9 hx (t := .boolean) Bd.returns (by simp) (hb hby d2_123) hr) (by decide) (by decide) ?_
  exact ⟨rfl, N9, e9⟩

theorem d2_78 : decode prog_14_method_6_code 78 = .ok (.iload_n 1, 1) := by decide +kernel
theorem d2_79 : decode prog_14_method_6_code 79 = .ok (.ifCond .gt 7, 3) := by decide +kernel
theorem d2_86 : decode prog_14_method_6_code 86 = .ok (.iconst 0, 1) := by decide +kernel
theorem d2_87 : decode prog_14_method_6_code 87 = .ok (.goto 36, 3) := by decide +kernel
def Qrm_h2p (Z : State) (a1 : Addr) (p1 : Int32) (h0 : Heap) (n0 : Nat) (v : Option Value) (h : Heap) (L : List Loc) : Prop := v = some (.int (0 : Int32)) ∧ Fr n0 L ∧ h = h0
set_option maxRecDepth 65536 in
set_option maxHeartbeats 40000000 in
theorem rm_h2p (l : Launch) (Z : State) (a0 : Array Value) (hw : ∀ d ∈ tables_1, d.before a0 Z = true) (ws : List Jvm.Cond) (a1 : Addr) (p1 : Int32) (h0 : Heap) (n0 : Nat) (Z0 : n0 ≤ h0.size) (E1 : Exa Z h0 a1 "com/example/attributes_to_entitlements/attributestoentitlements/Operator") (F1 : Fld Z h0 a1 "java/lang/Enum" "ordinal" "I" (.int (2 : Int32))) (z1 : ¬ p1 = (0 : Int32)) (z2 : ¬ p1 < (0 : Int32)) (z3 : (0 : Int32) < p1) :
    MetFree l own_y3 (head1 (Jvm.Cond.code own_y3 prog_14_method_6_code 2 (some .boolean) :: ws) ({ frames := 1, cells := 0, slots := 0, locals := 12 } : Room)) (fun a U => a = #[(.ref a1), (.int p1)] ∧ Z.Warmed39 U.vm ∧ U.heap = h0) (fun _ _ _ _ _ => True) (fun _ U o U' => ∃ v L, o = .returned v ∧ Qrm_h2p Z a1 p1 h0 n0 v U'.heap L ∧ FrameEnd U o U' L ({ frames := 1, cells := 0, slots := 0, locals := 12 } : Room).cells ({ frames := 1, cells := 0, slots := 0, locals := 12 } : Room).slots) := by
  refine MetFree.of_bodySF (plainFor_of_name pn_com_example_attributes_to_entitlements_attributestoentitlements_Operator) hisR ?_
  intro p e s m args below meth c s₁ Bd hml0 hP hK
  obtain ⟨rfl, hZ, hh⟩ := hP
  have hx := Bd.exec
  have hby := Bd.bytes
  have hml : c.maxLocals = 2 := hml0
  have hown : s.vm.findClass "com/example/attributes_to_entitlements/attributestoentitlements/Operator" = some m.cls := findClass_of_methodNamed Bd.named
  have hnm := (name_of_methodNamed Bd.named Bd.method).1
  have X0 : Stand p l e ({ frames := 1, cells := 0, slots := 0, locals := 12 } : Room) s m #[(.ref a1), (.int p1)] below meth c s₁ [] 0 0 := Stand.of_body Bd
  have e0 : s₁.heap = h0 := by rw [← hh, Bd.state]; rfl
  have N0 := Fr.nil n0
  have K0 : Keep h0 h0 [] := Keep.refl _ _
  refine own_start (Qk := Qrm_h2p Z a1 p1 h0 n0) (fun G hG => ?_)
  refine own_st (fun _ k => castTop (ef_2_RI m a1 p1) k) ?_
  show own_Fin p e below G (s₁.setTop (mkF m 0 #[rv a1, iv p1] []))
  refine own_st (fun _ k => XS.aloadN X0.here hx rfl (hb hby d2_0) rfl rfl k) ?_
  show own_Fin p e below G (s₁.setTop (mkF m 1 #[rv a1, iv p1] [(.ref a1)]))
  obtain ⟨cq10, kq10, q10a, q10b, q10c⟩ := isOf hZ e0 E1
  obtain ⟨_, _, ⟨T10, L10, k10, n10⟩, -, X10, ⟨Lc10, hQ10, l10, y10, z10⟩, st10⟩ := X0.virtualBackUp hx (x := own_y2) (y := own_y1) (owner := "java/lang/Enum") hown (mvT hZ (own_w hw 29 rfl)) (mvT hZ (own_w hw 30 rfl)) (mvT hZ (own_w hw 31 rfl)) (by decide) (mvT hZ (own_w hw 33 rfl)) (mvT hZ (own_w hw 32 rfl)) (backOf (W := 0) (rm_ord l Z a0 hw [] a1 (2 : Int32) h0 n0 (Nat.le_trans Z0 K0.1) F1) hZ (own_w hw 35 rfl) (own_w hw 34 rfl) (by decide) (by decide)) q10a q10c (g := (mkF m 1 #[rv a1, iv p1] [(.ref a1)])) rfl (by rw [hml]; rfl) (Steps.refl _) (argsL := []) (rest := []) (lenOf pd___I_154 rfl) rfl (by show 2 * 0 + _ ≤ _; exact Nat.le_of_eq rfl) (hb hby d2_1) (fun _ _ => ⟨rfl, e0, (by decide : 0 + 0 ≤ _), (by decide : 0 + 0 ≤ _)⟩)
  dsimp only [Pt.U, Pt.locs, Pt.cells, Pt.slots] at X10 l10 y10 z10 st10 hQ10
  subst l10 y10 z10
  obtain ⟨rfl, N10q, e10⟩ := hQ10
  skip
  have N10 := Fr.app N0 N10q
  refine own_tr st10 ?_
  show own_Fin p e below G (T10.setTop (mkF m 4 #[rv a1, iv p1] [(.int (2 : Int32))]))
  refine own_st (fun _ k => XS.tswIn X10.here hx rfl (pc0 := 4) (pc' := 78) rfl (hb hby d2_4) rfl (by decide) (o := 74) (by decide) (by decide) (by decide) k) ?_
  show own_Fin p e below G (T10.setTop (mkF m 78 #[rv a1, iv p1] []))
  refine own_st (fun _ k => XS.iloadN X10.here hx rfl (hb hby d2_78) rfl  k) ?_
  show own_Fin p e below G (T10.setTop (mkF m 79 #[rv a1, iv p1] [(.int p1)]))
  refine own_st (fun _ k => XS.ifYes X10.here hx rfl (pc0 := 79) (pc' := 86) rfl (hb hby d2_79) rfl ((if0 _ _).trans (tlt z3).2.2.1) (by decide) (by decide) k) ?_
  show own_Fin p e below G (T10.setTop (mkF m 86 #[rv a1, iv p1] []))
  refine own_st (fun _ k => XS.iconst X10.here hx rfl (hb hby d2_86) k) ?_
  show own_Fin p e below G (T10.setTop (mkF m 87 #[rv a1, iv p1] [(.int (0 : Int32))]))
  refine own_st (fun _ k => XS.goto X10.here hx rfl (pc0 := 87) (pc' := 123) rfl (hb hby d2_87) (by decide) (by decide) k) ?_
  show own_Fin p e below G (T10.setTop (mkF m 123 #[rv a1, iv p1] [(.int (0 : Int32))]))
  refine own_out X10 Bd.notSynchronized (v := (some (.int (0 : Int32)))) (fun h => by rw [Bd.returns] at h; cases h) hG (fun fs hr => retN X10 hx (t := .boolean) Bd.returns (by simp) (hb hby d2_123) hr) (by decide) (by decide) ?_
  exact ⟨rfl, N10, e10⟩

theorem d2_82 : decode prog_14_method_6_code 82 = .ok (.iconst 1, 1) := by decide +kernel
theorem d2_83 : decode prog_14_method_6_code 83 = .ok (.goto 40, 3) := by decide +kernel
def Qrm_h2n (Z : State) (a1 : Addr) (p1 : Int32) (h0 : Heap) (n0 : Nat) (v : Option Value) (h : Heap) (L : List Loc) : Prop := v = some (.int (1 : Int32)) ∧ Fr n0 L ∧ h = h0
set_option maxRecDepth 65536 in
set_option maxHeartbeats 40000000 in
theorem rm_h2n (l : Launch) (Z : State) (a0 : Array Value) (hw : ∀ d ∈ tables_1, d.before a0 Z = true) (ws : List Jvm.Cond) (a1 : Addr) (p1 : Int32) (h0 : Heap) (n0 : Nat) (Z0 : n0 ≤ h0.size) (E1 : Exa Z h0 a1 "com/example/attributes_to_entitlements/attributestoentitlements/Operator") (F1 : Fld Z h0 a1 "java/lang/Enum" "ordinal" "I" (.int (2 : Int32))) (z1 : ¬ p1 = (0 : Int32)) (z2 : p1 < (0 : Int32)) (z3 : ¬ (0 : Int32) < p1) :
    MetFree l own_y3 (head1 (Jvm.Cond.code own_y3 prog_14_method_6_code 2 (some .boolean) :: ws) ({ frames := 1, cells := 0, slots := 0, locals := 12 } : Room)) (fun a U => a = #[(.ref a1), (.int p1)] ∧ Z.Warmed39 U.vm ∧ U.heap = h0) (fun _ _ _ _ _ => True) (fun _ U o U' => ∃ v L, o = .returned v ∧ Qrm_h2n Z a1 p1 h0 n0 v U'.heap L ∧ FrameEnd U o U' L ({ frames := 1, cells := 0, slots := 0, locals := 12 } : Room).cells ({ frames := 1, cells := 0, slots := 0, locals := 12 } : Room).slots) := by
  refine MetFree.of_bodySF (plainFor_of_name pn_com_example_attributes_to_entitlements_attributestoentitlements_Operator) hisR ?_
  intro p e s m args below meth c s₁ Bd hml0 hP hK
  obtain ⟨rfl, hZ, hh⟩ := hP
  have hx := Bd.exec
  have hby := Bd.bytes
  have hml : c.maxLocals = 2 := hml0
  have hown : s.vm.findClass "com/example/attributes_to_entitlements/attributestoentitlements/Operator" = some m.cls := findClass_of_methodNamed Bd.named
  have hnm := (name_of_methodNamed Bd.named Bd.method).1
  have X0 : Stand p l e ({ frames := 1, cells := 0, slots := 0, locals := 12 } : Room) s m #[(.ref a1), (.int p1)] below meth c s₁ [] 0 0 := Stand.of_body Bd
  have e0 : s₁.heap = h0 := by rw [← hh, Bd.state]; rfl
  have N0 := Fr.nil n0
  have K0 : Keep h0 h0 [] := Keep.refl _ _
  refine own_start (Qk := Qrm_h2n Z a1 p1 h0 n0) (fun G hG => ?_)
  refine own_st (fun _ k => castTop (ef_2_RI m a1 p1) k) ?_
  show own_Fin p e below G (s₁.setTop (mkF m 0 #[rv a1, iv p1] []))
  refine own_st (fun _ k => XS.aloadN X0.here hx rfl (hb hby d2_0) rfl rfl k) ?_
  show own_Fin p e below G (s₁.setTop (mkF m 1 #[rv a1, iv p1] [(.ref a1)]))
  obtain ⟨cq11, kq11, q11a, q11b, q11c⟩ := isOf hZ e0 E1
  obtain ⟨_, _, ⟨T11, L11, k11, n11⟩, -, X11, ⟨Lc11, hQ11, l11, y11, z11⟩, st11⟩ := X0.virtualBackUp hx (x := own_y2) (y := own_y1) (owner := "java/lang/Enum") hown (mvT hZ (own_w hw 29 rfl)) (mvT hZ (own_w hw 30 rfl)) (mvT hZ (own_w hw 31 rfl)) (by decide) (mvT hZ (own_w hw 33 rfl)) (mvT hZ (own_w hw 32 rfl)) (backOf (W := 0) (rm_ord l Z a0 hw [] a1 (2 : Int32) h0 n0 (Nat.le_trans Z0 K0.1) F1) hZ (own_w hw 35 rfl) (own_w hw 34 rfl) (by decide) (by decide)) q11a q11c (g := (mkF m 1 #[rv a1, iv p1] [(.ref a1)])) rfl (by rw [hml]; rfl) (Steps.refl _) (argsL := []) (rest := []) (lenOf pd___I_154 rfl) rfl (by show 2 * 0 + _ ≤ _; exact Nat.le_of_eq rfl) (hb hby d2_1) (fun _ _ => ⟨rfl, e0, (by decide : 0 + 0 ≤ _), (by decide : 0 + 0 ≤ _)⟩)
  dsimp only [Pt.U, Pt.locs, Pt.cells, Pt.slots] at X11 l11 y11 z11 st11 hQ11
  subst l11 y11 z11
  obtain ⟨rfl, N11q, e11⟩ := hQ11
  skip
  have N11 := Fr.app N0 N11q
  refine own_tr st11 ?_
  show own_Fin p e below G (T11.setTop (mkF m 4 #[rv a1, iv p1] [(.int (2 : Int32))]))
  refine own_st (fun _ k => XS.tswIn X11.here hx rfl (pc0 := 4) (pc' := 78) rfl (hb hby d2_4) rfl (by decide) (o := 74) (by decide) (by decide) (by decide) k) ?_
  show own_Fin p e below G (T11.setTop (mkF m 78 #[rv a1, iv p1] []))
  refine own_st (fun _ k => XS.iloadN X11.here hx rfl (hb hby d2_78) rfl  k) ?_
  show own_Fin p e below G (T11.setTop (mkF m 79 #[rv a1, iv p1] [(.int p1)]))
  refine own_st (fun _ k => XS.ifNo X11.here hx rfl (hb hby d2_79) rfl ((if0 _ _).trans (flt z3).2.2.1) k) ?_
  show own_Fin p e below G (T11.setTop (mkF m 82 #[rv a1, iv p1] []))
  refine own_st (fun _ k => XS.iconst X11.here hx rfl (hb hby d2_82) k) ?_
  show own_Fin p e below G (T11.setTop (mkF m 83 #[rv a1, iv p1] [(.int (1 : Int32))]))
  refine own_st (fun _ k => XS.goto X11.here hx rfl (pc0 := 83) (pc' := 123) rfl (hb hby d2_83) (by decide) (by decide) k) ?_
  show own_Fin p e below G (T11.setTop (mkF m 123 #[rv a1, iv p1] [(.int (1 : Int32))]))
  refine own_out X11 Bd.notSynchronized (v := (some (.int (1 : Int32)))) (fun h => by rw [Bd.returns] at h; cases h) hG (fun fs hr => retN X11 hx (t := .boolean) Bd.returns (by simp) (hb hby d2_123) hr) (by decide) (by decide) ?_
  exact ⟨rfl, N11, e11⟩

theorem d2_90 : decode prog_14_method_6_code 90 = .ok (.iload_n 1, 1) := by decide +kernel
theorem d2_91 : decode prog_14_method_6_code 91 = .ok (.ifCond .lt 7, 3) := by decide +kernel
theorem d2_94 : decode prog_14_method_6_code 94 = .ok (.iconst 1, 1) := by decide +kernel
theorem d2_95 : decode prog_14_method_6_code 95 = .ok (.goto 28, 3) := by decide +kernel
def Qrm_h3p (Z : State) (a1 : Addr) (p1 : Int32) (h0 : Heap) (n0 : Nat) (v : Option Value) (h : Heap) (L : List Loc) : Prop := v = some (.int (1 : Int32)) ∧ Fr n0 L ∧ h = h0
set_option maxRecDepth 65536 in
set_option maxHeartbeats 40000000 in
theorem rm_h3p (l : Launch) (Z : State) (a0 : Array Value) (hw : ∀ d ∈ tables_1, d.before a0 Z = true) (ws : List Jvm.Cond) (a1 : Addr) (p1 : Int32) (h0 : Heap) (n0 : Nat) (Z0 : n0 ≤ h0.size) (E1 : Exa Z h0 a1 "com/example/attributes_to_entitlements/attributestoentitlements/Operator") (F1 : Fld Z h0 a1 "java/lang/Enum" "ordinal" "I" (.int (3 : Int32))) (z1 : ¬ p1 = (0 : Int32)) (z2 : ¬ p1 < (0 : Int32)) (z3 : (0 : Int32) < p1) :
    MetFree l own_y3 (head1 (Jvm.Cond.code own_y3 prog_14_method_6_code 2 (some .boolean) :: ws) ({ frames := 1, cells := 0, slots := 0, locals := 12 } : Room)) (fun a U => a = #[(.ref a1), (.int p1)] ∧ Z.Warmed39 U.vm ∧ U.heap = h0) (fun _ _ _ _ _ => True) (fun _ U o U' => ∃ v L, o = .returned v ∧ Qrm_h3p Z a1 p1 h0 n0 v U'.heap L ∧ FrameEnd U o U' L ({ frames := 1, cells := 0, slots := 0, locals := 12 } : Room).cells ({ frames := 1, cells := 0, slots := 0, locals := 12 } : Room).slots) := by
  refine MetFree.of_bodySF (plainFor_of_name pn_com_example_attributes_to_entitlements_attributestoentitlements_Operator) hisR ?_
  intro p e s m args below meth c s₁ Bd hml0 hP hK
  obtain ⟨rfl, hZ, hh⟩ := hP
  have hx := Bd.exec
  have hby := Bd.bytes
  have hml : c.maxLocals = 2 := hml0
  have hown : s.vm.findClass "com/example/attributes_to_entitlements/attributestoentitlements/Operator" = some m.cls := findClass_of_methodNamed Bd.named
  have hnm := (name_of_methodNamed Bd.named Bd.method).1
  have X0 : Stand p l e ({ frames := 1, cells := 0, slots := 0, locals := 12 } : Room) s m #[(.ref a1), (.int p1)] below meth c s₁ [] 0 0 := Stand.of_body Bd
  have e0 : s₁.heap = h0 := by rw [← hh, Bd.state]; rfl
  have N0 := Fr.nil n0
  have K0 : Keep h0 h0 [] := Keep.refl _ _
  refine own_start (Qk := Qrm_h3p Z a1 p1 h0 n0) (fun G hG => ?_)
  refine own_st (fun _ k => castTop (ef_2_RI m a1 p1) k) ?_
  show own_Fin p e below G (s₁.setTop (mkF m 0 #[rv a1, iv p1] []))
  refine own_st (fun _ k => XS.aloadN X0.here hx rfl (hb hby d2_0) rfl rfl k) ?_
  show own_Fin p e below G (s₁.setTop (mkF m 1 #[rv a1, iv p1] [(.ref a1)]))
  obtain ⟨cq12, kq12, q12a, q12b, q12c⟩ := isOf hZ e0 E1
  obtain ⟨_, _, ⟨T12, L12, k12, n12⟩, -, X12, ⟨Lc12, hQ12, l12, y12, z12⟩, st12⟩ := X0.virtualBackUp hx (x := own_y2) (y := own_y1) (owner := "java/lang/Enum") hown (mvT hZ (own_w hw 29 rfl)) (mvT hZ (own_w hw 30 rfl)) (mvT hZ (own_w hw 31 rfl)) (by decide) (mvT hZ (own_w hw 33 rfl)) (mvT hZ (own_w hw 32 rfl)) (backOf (W := 0) (rm_ord l Z a0 hw [] a1 (3 : Int32) h0 n0 (Nat.le_trans Z0 K0.1) F1) hZ (own_w hw 35 rfl) (own_w hw 34 rfl) (by decide) (by decide)) q12a q12c (g := (mkF m 1 #[rv a1, iv p1] [(.ref a1)])) rfl (by rw [hml]; rfl) (Steps.refl _) (argsL := []) (rest := []) (lenOf pd___I_154 rfl) rfl (by show 2 * 0 + _ ≤ _; exact Nat.le_of_eq rfl) (hb hby d2_1) (fun _ _ => ⟨rfl, e0, (by decide : 0 + 0 ≤ _), (by decide : 0 + 0 ≤ _)⟩)
  dsimp only [Pt.U, Pt.locs, Pt.cells, Pt.slots] at X12 l12 y12 z12 st12 hQ12
  subst l12 y12 z12
  obtain ⟨rfl, N12q, e12⟩ := hQ12
  skip
  have N12 := Fr.app N0 N12q
  refine own_tr st12 ?_
  show own_Fin p e below G (T12.setTop (mkF m 4 #[rv a1, iv p1] [(.int (3 : Int32))]))
  refine own_st (fun _ k => XS.tswIn X12.here hx rfl (pc0 := 4) (pc' := 90) rfl (hb hby d2_4) rfl (by decide) (o := 86) (by decide) (by decide) (by decide) k) ?_
  show own_Fin p e below G (T12.setTop (mkF m 90 #[rv a1, iv p1] []))
  refine own_st (fun _ k => XS.iloadN X12.here hx rfl (hb hby d2_90) rfl  k) ?_
  show own_Fin p e below G (T12.setTop (mkF m 91 #[rv a1, iv p1] [(.int p1)]))
  refine own_st (fun _ k => XS.ifNo X12.here hx rfl (hb hby d2_91) rfl ((if0 _ _).trans (flt z2).1) k) ?_
  show own_Fin p e below G (T12.setTop (mkF m 94 #[rv a1, iv p1] []))
  refine own_st (fun _ k => XS.iconst X12.here hx rfl (hb hby d2_94) k) ?_
  show own_Fin p e below G (T12.setTop (mkF m 95 #[rv a1, iv p1] [(.int (1 : Int32))]))
  refine own_st (fun _ k => XS.goto X12.here hx rfl (pc0 := 95) (pc' := 123) rfl (hb hby d2_95) (by decide) (by decide) k) ?_
  show own_Fin p e below G (T12.setTop (mkF m 123 #[rv a1, iv p1] [(.int (1 : Int32))]))
  refine own_out X12 Bd.notSynchronized (v := (some (.int (1 : Int32)))) (fun h => by rw [Bd.returns] at h; cases h) hG (fun fs hr => retN X12 hx (t := .boolean) Bd.returns (by simp) (hb hby d2_123) hr) (by decide) (by decide) ?_
  exact ⟨rfl, N12, e12⟩

theorem d2_98 : decode prog_14_method_6_code 98 = .ok (.iconst 0, 1) := by decide +kernel
theorem d2_99 : decode prog_14_method_6_code 99 = .ok (.goto 24, 3) := by decide +kernel
def Qrm_h3n (Z : State) (a1 : Addr) (p1 : Int32) (h0 : Heap) (n0 : Nat) (v : Option Value) (h : Heap) (L : List Loc) : Prop := v = some (.int (0 : Int32)) ∧ Fr n0 L ∧ h = h0
set_option maxRecDepth 65536 in
set_option maxHeartbeats 40000000 in
theorem rm_h3n (l : Launch) (Z : State) (a0 : Array Value) (hw : ∀ d ∈ tables_1, d.before a0 Z = true) (ws : List Jvm.Cond) (a1 : Addr) (p1 : Int32) (h0 : Heap) (n0 : Nat) (Z0 : n0 ≤ h0.size) (E1 : Exa Z h0 a1 "com/example/attributes_to_entitlements/attributestoentitlements/Operator") (F1 : Fld Z h0 a1 "java/lang/Enum" "ordinal" "I" (.int (3 : Int32))) (z1 : ¬ p1 = (0 : Int32)) (z2 : p1 < (0 : Int32)) (z3 : ¬ (0 : Int32) < p1) :
    MetFree l own_y3 (head1 (Jvm.Cond.code own_y3 prog_14_method_6_code 2 (some .boolean) :: ws) ({ frames := 1, cells := 0, slots := 0, locals := 12 } : Room)) (fun a U => a = #[(.ref a1), (.int p1)] ∧ Z.Warmed39 U.vm ∧ U.heap = h0) (fun _ _ _ _ _ => True) (fun _ U o U' => ∃ v L, o = .returned v ∧ Qrm_h3n Z a1 p1 h0 n0 v U'.heap L ∧ FrameEnd U o U' L ({ frames := 1, cells := 0, slots := 0, locals := 12 } : Room).cells ({ frames := 1, cells := 0, slots := 0, locals := 12 } : Room).slots) := by
  refine MetFree.of_bodySF (plainFor_of_name pn_com_example_attributes_to_entitlements_attributestoentitlements_Operator) hisR ?_
  intro p e s m args below meth c s₁ Bd hml0 hP hK
  obtain ⟨rfl, hZ, hh⟩ := hP
  have hx := Bd.exec
  have hby := Bd.bytes
  have hml : c.maxLocals = 2 := hml0
  have hown : s.vm.findClass "com/example/attributes_to_entitlements/attributestoentitlements/Operator" = some m.cls := findClass_of_methodNamed Bd.named
  have hnm := (name_of_methodNamed Bd.named Bd.method).1
  have X0 : Stand p l e ({ frames := 1, cells := 0, slots := 0, locals := 12 } : Room) s m #[(.ref a1), (.int p1)] below meth c s₁ [] 0 0 := Stand.of_body Bd
  have e0 : s₁.heap = h0 := by rw [← hh, Bd.state]; rfl
  have N0 := Fr.nil n0
  have K0 : Keep h0 h0 [] := Keep.refl _ _
  refine own_start (Qk := Qrm_h3n Z a1 p1 h0 n0) (fun G hG => ?_)
  refine own_st (fun _ k => castTop (ef_2_RI m a1 p1) k) ?_
  show own_Fin p e below G (s₁.setTop (mkF m 0 #[rv a1, iv p1] []))
  refine own_st (fun _ k => XS.aloadN X0.here hx rfl (hb hby d2_0) rfl rfl k) ?_
  show own_Fin p e below G (s₁.setTop (mkF m 1 #[rv a1, iv p1] [(.ref a1)]))
  obtain ⟨cq13, kq13, q13a, q13b, q13c⟩ := isOf hZ e0 E1
  obtain ⟨_, _, ⟨T13, L13, k13, n13⟩, -, X13, ⟨Lc13, hQ13, l13, y13, z13⟩, st13⟩ := X0.virtualBackUp hx (x := own_y2) (y := own_y1) (owner := "java/lang/Enum") hown (mvT hZ (own_w hw 29 rfl)) (mvT hZ (own_w hw 30 rfl)) (mvT hZ (own_w hw 31 rfl)) (by decide) (mvT hZ (own_w hw 33 rfl)) (mvT hZ (own_w hw 32 rfl)) (backOf (W := 0) (rm_ord l Z a0 hw [] a1 (3 : Int32) h0 n0 (Nat.le_trans Z0 K0.1) F1) hZ (own_w hw 35 rfl) (own_w hw 34 rfl) (by decide) (by decide)) q13a q13c (g := (mkF m 1 #[rv a1, iv p1] [(.ref a1)])) rfl (by rw [hml]; rfl) (Steps.refl _) (argsL := []) (rest := []) (lenOf pd___I_154 rfl) rfl (by show 2 * 0 + _ ≤ _; exact Nat.le_of_eq rfl) (hb hby d2_1) (fun _ _ => ⟨rfl, e0, (by decide : 0 + 0 ≤ _), (by decide : 0 + 0 ≤ _)⟩)
  dsimp only [Pt.U, Pt.locs, Pt.cells, Pt.slots] at X13 l13 y13 z13 st13 hQ13
  subst l13 y13 z13
  obtain ⟨rfl, N13q, e13⟩ := hQ13
  skip
  have N13 := Fr.app N0 N13q
  refine own_tr st13 ?_
  show own_Fin p e below G (T13.setTop (mkF m 4 #[rv a1, iv p1] [(.int (3 : Int32))]))
  refine own_st (fun _ k => XS.tswIn X13.here hx rfl (pc0 := 4) (pc' := 90) rfl (hb hby d2_4) rfl (by decide) (o := 86) (by decide) (by decide) (by decide) k) ?_
  show own_Fin p e below G (T13.setTop (mkF m 90 #[rv a1, iv p1] []))
  refine own_st (fun _ k => XS.iloadN X13.here hx rfl (hb hby d2_90) rfl  k) ?_
  show own_Fin p e below G (T13.setTop (mkF m 91 #[rv a1, iv p1] [(.int p1)]))
  refine own_st (fun _ k => XS.ifYes X13.here hx rfl (pc0 := 91) (pc' := 98) rfl (hb hby d2_91) rfl ((if0 _ _).trans (tlt z2).1) (by decide) (by decide) k) ?_
  show own_Fin p e below G (T13.setTop (mkF m 98 #[rv a1, iv p1] []))
  refine own_st (fun _ k => XS.iconst X13.here hx rfl (hb hby d2_98) k) ?_
  show own_Fin p e below G (T13.setTop (mkF m 99 #[rv a1, iv p1] [(.int (0 : Int32))]))
  refine own_st (fun _ k => XS.goto X13.here hx rfl (pc0 := 99) (pc' := 123) rfl (hb hby d2_99) (by decide) (by decide) k) ?_
  show own_Fin p e below G (T13.setTop (mkF m 123 #[rv a1, iv p1] [(.int (0 : Int32))]))
  refine own_out X13 Bd.notSynchronized (v := (some (.int (0 : Int32)))) (fun h => by rw [Bd.returns] at h; cases h) hG (fun fs hr => retN X13 hx (t := .boolean) Bd.returns (by simp) (hb hby d2_123) hr) (by decide) (by decide) ?_
  exact ⟨rfl, N13, e13⟩

theorem d2_102 : decode prog_14_method_6_code 102 = .ok (.iload_n 1, 1) := by decide +kernel
theorem d2_103 : decode prog_14_method_6_code 103 = .ok (.ifCond .ge 7, 3) := by decide +kernel
theorem d2_110 : decode prog_14_method_6_code 110 = .ok (.iconst 0, 1) := by decide +kernel
theorem d2_111 : decode prog_14_method_6_code 111 = .ok (.goto 12, 3) := by decide +kernel
def Qrm_h4p (Z : State) (a1 : Addr) (p1 : Int32) (h0 : Heap) (n0 : Nat) (v : Option Value) (h : Heap) (L : List Loc) : Prop := v = some (.int (0 : Int32)) ∧ Fr n0 L ∧ h = h0
set_option maxRecDepth 65536 in
set_option maxHeartbeats 40000000 in
theorem rm_h4p (l : Launch) (Z : State) (a0 : Array Value) (hw : ∀ d ∈ tables_1, d.before a0 Z = true) (ws : List Jvm.Cond) (a1 : Addr) (p1 : Int32) (h0 : Heap) (n0 : Nat) (Z0 : n0 ≤ h0.size) (E1 : Exa Z h0 a1 "com/example/attributes_to_entitlements/attributestoentitlements/Operator") (F1 : Fld Z h0 a1 "java/lang/Enum" "ordinal" "I" (.int (4 : Int32))) (z1 : ¬ p1 = (0 : Int32)) (z2 : ¬ p1 < (0 : Int32)) (z3 : (0 : Int32) < p1) :
    MetFree l own_y3 (head1 (Jvm.Cond.code own_y3 prog_14_method_6_code 2 (some .boolean) :: ws) ({ frames := 1, cells := 0, slots := 0, locals := 12 } : Room)) (fun a U => a = #[(.ref a1), (.int p1)] ∧ Z.Warmed39 U.vm ∧ U.heap = h0) (fun _ _ _ _ _ => True) (fun _ U o U' => ∃ v L, o = .returned v ∧ Qrm_h4p Z a1 p1 h0 n0 v U'.heap L ∧ FrameEnd U o U' L ({ frames := 1, cells := 0, slots := 0, locals := 12 } : Room).cells ({ frames := 1, cells := 0, slots := 0, locals := 12 } : Room).slots) := by
  refine MetFree.of_bodySF (plainFor_of_name pn_com_example_attributes_to_entitlements_attributestoentitlements_Operator) hisR ?_
  intro p e s m args below meth c s₁ Bd hml0 hP hK
  obtain ⟨rfl, hZ, hh⟩ := hP
  have hx := Bd.exec
  have hby := Bd.bytes
  have hml : c.maxLocals = 2 := hml0
  have hown : s.vm.findClass "com/example/attributes_to_entitlements/attributestoentitlements/Operator" = some m.cls := findClass_of_methodNamed Bd.named
  have hnm := (name_of_methodNamed Bd.named Bd.method).1
  have X0 : Stand p l e ({ frames := 1, cells := 0, slots := 0, locals := 12 } : Room) s m #[(.ref a1), (.int p1)] below meth c s₁ [] 0 0 := Stand.of_body Bd
  have e0 : s₁.heap = h0 := by rw [← hh, Bd.state]; rfl
  have N0 := Fr.nil n0
  have K0 : Keep h0 h0 [] := Keep.refl _ _
  refine own_start (Qk := Qrm_h4p Z a1 p1 h0 n0) (fun G hG => ?_)
  refine own_st (fun _ k => castTop (ef_2_RI m a1 p1) k) ?_
  show own_Fin p e below G (s₁.setTop (mkF m 0 #[rv a1, iv p1] []))
  refine own_st (fun _ k => XS.aloadN X0.here hx rfl (hb hby d2_0) rfl rfl k) ?_
  show own_Fin p e below G (s₁.setTop (mkF m 1 #[rv a1, iv p1] [(.ref a1)]))
  obtain ⟨cq14, kq14, q14a, q14b, q14c⟩ := isOf hZ e0 E1
  obtain ⟨_, _, ⟨T14, L14, k14, n14⟩, -, X14, ⟨Lc14, hQ14, l14, y14, z14⟩, st14⟩ := X0.virtualBackUp hx (x := own_y2) (y := own_y1) (owner := "java/lang/Enum") hown (mvT hZ (own_w hw 29 rfl)) (mvT hZ (own_w hw 30 rfl)) (mvT hZ (own_w hw 31 rfl)) (by decide) (mvT hZ (own_w hw 33 rfl)) (mvT hZ (own_w hw 32 rfl)) (backOf (W := 0) (rm_ord l Z a0 hw [] a1 (4 : Int32) h0 n0 (Nat.le_trans Z0 K0.1) F1) hZ (own_w hw 35 rfl) (own_w hw 34 rfl) (by decide) (by decide)) q14a q14c (g := (mkF m 1 #[rv a1, iv p1] [(.ref a1)])) rfl (by rw [hml]; rfl) (Steps.refl _) (argsL := []) (rest := []) (lenOf pd___I_154 rfl) rfl (by show 2 * 0 + _ ≤ _; exact Nat.le_of_eq rfl) (hb hby d2_1) (fun _ _ => ⟨rfl, e0, (by decide : 0 + 0 ≤ _), (by decide : 0 + 0 ≤ _)⟩)
  dsimp only [Pt.U, Pt.locs, Pt.cells, Pt.slots] at X14 l14 y14 z14 st14 hQ14
  subst l14 y14 z14
  obtain ⟨rfl, N14q, e14⟩ := hQ14
  skip
  have N14 := Fr.app N0 N14q
  refine own_tr st14 ?_
  show own_Fin p e below G (T14.setTop (mkF m 4 #[rv a1, iv p1] [(.int (4 : Int32))]))
  refine own_st (fun _ k => XS.tswIn X14.here hx rfl (pc0 := 4) (pc' := 102) rfl (hb hby d2_4) rfl (by decide) (o := 98) (by decide) (by decide) (by decide) k) ?_
  show own_Fin p e below G (T14.setTop (mkF m 102 #[rv a1, iv p1] []))
  refine own_st (fun _ k => XS.iloadN X14.here hx rfl (hb hby d2_102) rfl  k) ?_
  show own_Fin p e below G (T14.setTop (mkF m 103 #[rv a1, iv p1] [(.int p1)]))
  refine own_st (fun _ k => XS.ifYes X14.here hx rfl (pc0 := 103) (pc' := 110) rfl (hb hby d2_103) rfl ((if0 _ _).trans (flt z2).2.1) (by decide) (by decide) k) ?_
  show own_Fin p e below G (T14.setTop (mkF m 110 #[rv a1, iv p1] []))
  refine own_st (fun _ k => XS.iconst X14.here hx rfl (hb hby d2_110) k) ?_
  show own_Fin p e below G (T14.setTop (mkF m 111 #[rv a1, iv p1] [(.int (0 : Int32))]))
  refine own_st (fun _ k => XS.goto X14.here hx rfl (pc0 := 111) (pc' := 123) rfl (hb hby d2_111) (by decide) (by decide) k) ?_
  show own_Fin p e below G (T14.setTop (mkF m 123 #[rv a1, iv p1] [(.int (0 : Int32))]))
  refine own_out X14 Bd.notSynchronized (v := (some (.int (0 : Int32)))) (fun h => by rw [Bd.returns] at h; cases h) hG (fun fs hr => retN X14 hx (t := .boolean) Bd.returns (by simp) (hb hby d2_123) hr) (by decide) (by decide) ?_
  exact ⟨rfl, N14, e14⟩

theorem d2_106 : decode prog_14_method_6_code 106 = .ok (.iconst 1, 1) := by decide +kernel
theorem d2_107 : decode prog_14_method_6_code 107 = .ok (.goto 16, 3) := by decide +kernel
def Qrm_h4n (Z : State) (a1 : Addr) (p1 : Int32) (h0 : Heap) (n0 : Nat) (v : Option Value) (h : Heap) (L : List Loc) : Prop := v = some (.int (1 : Int32)) ∧ Fr n0 L ∧ h = h0
set_option maxRecDepth 65536 in
set_option maxHeartbeats 40000000 in
theorem rm_h4n (l : Launch) (Z : State) (a0 : Array Value) (hw : ∀ d ∈ tables_1, d.before a0 Z = true) (ws : List Jvm.Cond) (a1 : Addr) (p1 : Int32) (h0 : Heap) (n0 : Nat) (Z0 : n0 ≤ h0.size) (E1 : Exa Z h0 a1 "com/example/attributes_to_entitlements/attributestoentitlements/Operator") (F1 : Fld Z h0 a1 "java/lang/Enum" "ordinal" "I" (.int (4 : Int32))) (z1 : ¬ p1 = (0 : Int32)) (z2 : p1 < (0 : Int32)) (z3 : ¬ (0 : Int32) < p1) :
    MetFree l own_y3 (head1 (Jvm.Cond.code own_y3 prog_14_method_6_code 2 (some .boolean) :: ws) ({ frames := 1, cells := 0, slots := 0, locals := 12 } : Room)) (fun a U => a = #[(.ref a1), (.int p1)] ∧ Z.Warmed39 U.vm ∧ U.heap = h0) (fun _ _ _ _ _ => True) (fun _ U o U' => ∃ v L, o = .returned v ∧ Qrm_h4n Z a1 p1 h0 n0 v U'.heap L ∧ FrameEnd U o U' L ({ frames := 1, cells := 0, slots := 0, locals := 12 } : Room).cells ({ frames := 1, cells := 0, slots := 0, locals := 12 } : Room).slots) := by
  refine MetFree.of_bodySF (plainFor_of_name pn_com_example_attributes_to_entitlements_attributestoentitlements_Operator) hisR ?_
  intro p e s m args below meth c s₁ Bd hml0 hP hK
  obtain ⟨rfl, hZ, hh⟩ := hP
  have hx := Bd.exec
  have hby := Bd.bytes
  have hml : c.maxLocals = 2 := hml0
  have hown : s.vm.findClass "com/example/attributes_to_entitlements/attributestoentitlements/Operator" = some m.cls := findClass_of_methodNamed Bd.named
  have hnm := (name_of_methodNamed Bd.named Bd.method).1
  have X0 : Stand p l e ({ frames := 1, cells := 0, slots := 0, locals := 12 } : Room) s m #[(.ref a1), (.int p1)] below meth c s₁ [] 0 0 := Stand.of_body Bd
  have e0 : s₁.heap = h0 := by rw [← hh, Bd.state]; rfl
  have N0 := Fr.nil n0
  have K0 : Keep h0 h0 [] := Keep.refl _ _
  refine own_start (Qk := Qrm_h4n Z a1 p1 h0 n0) (fun G hG => ?_)
  refine own_st (fun _ k => castTop (ef_2_RI m a1 p1) k) ?_
  show own_Fin p e below G (s₁.setTop (mkF m 0 #[rv a1, iv p1] []))
  refine own_st (fun _ k => XS.aloadN X0.here hx rfl (hb hby d2_0) rfl rfl k) ?_
  show own_Fin p e below G (s₁.setTop (mkF m 1 #[rv a1, iv p1] [(.ref a1)]))
  obtain ⟨cq15, kq15, q15a, q15b, q15c⟩ := isOf hZ e0 E1
  obtain ⟨_, _, ⟨T15, L15, k15, n15⟩, -, X15, ⟨Lc15, hQ15, l15, y15, z15⟩, st15⟩ := X0.virtualBackUp hx (x := own_y2) (y := own_y1) (owner := "java/lang/Enum") hown (mvT hZ (own_w hw 29 rfl)) (mvT hZ (own_w hw 30 rfl)) (mvT hZ (own_w hw 31 rfl)) (by decide) (mvT hZ (own_w hw 33 rfl)) (mvT hZ (own_w hw 32 rfl)) (backOf (W := 0) (rm_ord l Z a0 hw [] a1 (4 : Int32) h0 n0 (Nat.le_trans Z0 K0.1) F1) hZ (own_w hw 35 rfl) (own_w hw 34 rfl) (by decide) (by decide)) q15a q15c (g := (mkF m 1 #[rv a1, iv p1] [(.ref a1)])) rfl (by rw [hml]; rfl) (Steps.refl _) (argsL := []) (rest := []) (lenOf pd___I_154 rfl) rfl (by show 2 * 0 + _ ≤ _; exact Nat.le_of_eq rfl) (hb hby d2_1) (fun _ _ => ⟨rfl, e0, (by decide : 0 + 0 ≤ _), (by decide : 0 + 0 ≤ _)⟩)
  dsimp only [Pt.U, Pt.locs, Pt.cells, Pt.slots] at X15 l15 y15 z15 st15 hQ15
  subst l15 y15 z15
  obtain ⟨rfl, N15q, e15⟩ := hQ15
  skip
  have N15 := Fr.app N0 N15q
  refine own_tr st15 ?_
  show own_Fin p e below G (T15.setTop (mkF m 4 #[rv a1, iv p1] [(.int (4 : Int32))]))
  refine own_st (fun _ k => XS.tswIn X15.here hx rfl (pc0 := 4) (pc' := 102) rfl (hb hby d2_4) rfl (by decide) (o := 98) (by decide) (by decide) (by decide) k) ?_
  show own_Fin p e below G (T15.setTop (mkF m 102 #[rv a1, iv p1] []))
  refine own_st (fun _ k => XS.iloadN X15.here hx rfl (hb hby d2_102) rfl  k) ?_
  show own_Fin p e below G (T15.setTop (mkF m 103 #[rv a1, iv p1] [(.int p1)]))
  refine own_st (fun _ k => XS.ifNo X15.here hx rfl (hb hby d2_103) rfl ((if0 _ _).trans (tlt z2).2.1) k) ?_
  show own_Fin p e below G (T15.setTop (mkF m 106 #[rv a1, iv p1] []))
  refine own_st (fun _ k => XS.iconst X15.here hx rfl (hb hby d2_106) k) ?_
  show own_Fin p e below G (T15.setTop (mkF m 107 #[rv a1, iv p1] [(.int (1 : Int32))]))
  refine own_st (fun _ k => XS.goto X15.here hx rfl (pc0 := 107) (pc' := 123) rfl (hb hby d2_107) (by decide) (by decide) k) ?_
  show own_Fin p e below G (T15.setTop (mkF m 123 #[rv a1, iv p1] [(.int (1 : Int32))]))
  refine own_out X15 Bd.notSynchronized (v := (some (.int (1 : Int32)))) (fun h => by rw [Bd.returns] at h; cases h) hG (fun fs hr => retN X15 hx (t := .boolean) Bd.returns (by simp) (hb hby d2_123) hr) (by decide) (by decide) ?_
  exact ⟨rfl, N15, e15⟩

theorem d2_114 : decode prog_14_method_6_code 114 = .ok (.iload_n 1, 1) := by decide +kernel
theorem d2_115 : decode prog_14_method_6_code 115 = .ok (.ifCond .le 7, 3) := by decide +kernel
theorem d2_118 : decode prog_14_method_6_code 118 = .ok (.iconst 1, 1) := by decide +kernel
theorem d2_119 : decode prog_14_method_6_code 119 = .ok (.goto 4, 3) := by decide +kernel
def Qrm_h5p (Z : State) (a1 : Addr) (p1 : Int32) (h0 : Heap) (n0 : Nat) (v : Option Value) (h : Heap) (L : List Loc) : Prop := v = some (.int (1 : Int32)) ∧ Fr n0 L ∧ h = h0
set_option maxRecDepth 65536 in
set_option maxHeartbeats 40000000 in
theorem rm_h5p (l : Launch) (Z : State) (a0 : Array Value) (hw : ∀ d ∈ tables_1, d.before a0 Z = true) (ws : List Jvm.Cond) (a1 : Addr) (p1 : Int32) (h0 : Heap) (n0 : Nat) (Z0 : n0 ≤ h0.size) (E1 : Exa Z h0 a1 "com/example/attributes_to_entitlements/attributestoentitlements/Operator") (F1 : Fld Z h0 a1 "java/lang/Enum" "ordinal" "I" (.int (5 : Int32))) (z1 : ¬ p1 = (0 : Int32)) (z2 : ¬ p1 < (0 : Int32)) (z3 : (0 : Int32) < p1) :
    MetFree l own_y3 (head1 (Jvm.Cond.code own_y3 prog_14_method_6_code 2 (some .boolean) :: ws) ({ frames := 1, cells := 0, slots := 0, locals := 12 } : Room)) (fun a U => a = #[(.ref a1), (.int p1)] ∧ Z.Warmed39 U.vm ∧ U.heap = h0) (fun _ _ _ _ _ => True) (fun _ U o U' => ∃ v L, o = .returned v ∧ Qrm_h5p Z a1 p1 h0 n0 v U'.heap L ∧ FrameEnd U o U' L ({ frames := 1, cells := 0, slots := 0, locals := 12 } : Room).cells ({ frames := 1, cells := 0, slots := 0, locals := 12 } : Room).slots) := by
  refine MetFree.of_bodySF (plainFor_of_name pn_com_example_attributes_to_entitlements_attributestoentitlements_Operator) hisR ?_
  intro p e s m args below meth c s₁ Bd hml0 hP hK
  obtain ⟨rfl, hZ, hh⟩ := hP
  have hx := Bd.exec
  have hby := Bd.bytes
  have hml : c.maxLocals = 2 := hml0
  have hown : s.vm.findClass "com/example/attributes_to_entitlements/attributestoentitlements/Operator" = some m.cls := findClass_of_methodNamed Bd.named
  have hnm := (name_of_methodNamed Bd.named Bd.method).1
  have X0 : Stand p l e ({ frames := 1, cells := 0, slots := 0, locals := 12 } : Room) s m #[(.ref a1), (.int p1)] below meth c s₁ [] 0 0 := Stand.of_body Bd
  have e0 : s₁.heap = h0 := by rw [← hh, Bd.state]; rfl
  have N0 := Fr.nil n0
  have K0 : Keep h0 h0 [] := Keep.refl _ _
  refine own_start (Qk := Qrm_h5p Z a1 p1 h0 n0) (fun G hG => ?_)
  refine own_st (fun _ k => castTop (ef_2_RI m a1 p1) k) ?_
  show own_Fin p e below G (s₁.setTop (mkF m 0 #[rv a1, iv p1] []))
  refine own_st (fun _ k => XS.aloadN X0.here hx rfl (hb hby d2_0) rfl rfl k) ?_
  show own_Fin p e below G (s₁.setTop (mkF m 1 #[rv a1, iv p1] [(.ref a1)]))
  obtain ⟨cq16, kq16, q16a, q16b, q16c⟩ := isOf hZ e0 E1
  obtain ⟨_, _, ⟨T16, L16, k16, n16⟩, -, X16, ⟨Lc16, hQ16, l16, y16, z16⟩, st16⟩ := X0.virtualBackUp hx (x := own_y2) (y := own_y1) (owner := "java/lang/Enum") hown (mvT hZ (own_w hw 29 rfl)) (mvT hZ (own_w hw 30 rfl)) (mvT hZ (own_w hw 31 rfl)) (by decide) (mvT hZ (own_w hw 33 rfl)) (mvT hZ (own_w hw 32 rfl)) (backOf (W := 0) (rm_ord l Z a0 hw [] a1 (5 : Int32) h0 n0 (Nat.le_trans Z0 K0.1) F1) hZ (own_w hw 35 rfl) (own_w hw 34 rfl) (by decide) (by decide)) q16a q16c (g := (mkF m 1 #[rv a1, iv p1] [(.ref a1)])) rfl (by rw [hml]; rfl) (Steps.refl _) (argsL := []) (rest := []) (lenOf pd___I_154 rfl) rfl (by show 2 * 0 + _ ≤ _; exact Nat.le_of_eq rfl) (hb hby d2_1) (fun _ _ => ⟨rfl, e0, (by decide : 0 + 0 ≤ _), (by decide : 0 + 0 ≤ _)⟩)
  dsimp only [Pt.U, Pt.locs, Pt.cells, Pt.slots] at X16 l16 y16 z16 st16 hQ16
  subst l16 y16 z16
  obtain ⟨rfl, N16q, e16⟩ := hQ16
  skip
  have N16 := Fr.app N0 N16q
  refine own_tr st16 ?_
  show own_Fin p e below G (T16.setTop (mkF m 4 #[rv a1, iv p1] [(.int (5 : Int32))]))
  refine own_st (fun _ k => XS.tswIn X16.here hx rfl (pc0 := 4) (pc' := 114) rfl (hb hby d2_4) rfl (by decide) (o := 110) (by decide) (by decide) (by decide) k) ?_
  show own_Fin p e below G (T16.setTop (mkF m 114 #[rv a1, iv p1] []))
  refine own_st (fun _ k => XS.iloadN X16.here hx rfl (hb hby d2_114) rfl  k) ?_
  show own_Fin p e below G (T16.setTop (mkF m 115 #[rv a1, iv p1] [(.int p1)]))
  refine own_st (fun _ k => XS.ifNo X16.here hx rfl (hb hby d2_115) rfl ((if0 _ _).trans (tlt z3).2.2.2) k) ?_
  show own_Fin p e below G (T16.setTop (mkF m 118 #[rv a1, iv p1] []))
  refine own_st (fun _ k => XS.iconst X16.here hx rfl (hb hby d2_118) k) ?_
  show own_Fin p e below G (T16.setTop (mkF m 119 #[rv a1, iv p1] [(.int (1 : Int32))]))
  refine own_st (fun _ k => XS.goto X16.here hx rfl (pc0 := 119) (pc' := 123) rfl (hb hby d2_119) (by decide) (by decide) k) ?_
  show own_Fin p e below G (T16.setTop (mkF m 123 #[rv a1, iv p1] [(.int (1 : Int32))]))
  refine own_out X16 Bd.notSynchronized (v := (some (.int (1 : Int32)))) (fun h => by rw [Bd.returns] at h; cases h) hG (fun fs hr => retN X16 hx (t := .boolean) Bd.returns (by simp) (hb hby d2_123) hr) (by decide) (by decide) ?_
  exact ⟨rfl, N16, e16⟩

theorem d2_122 : decode prog_14_method_6_code 122 = .ok (.iconst 0, 1) := by decide +kernel
def Qrm_h5n (Z : State) (a1 : Addr) (p1 : Int32) (h0 : Heap) (n0 : Nat) (v : Option Value) (h : Heap) (L : List Loc) : Prop := v = some (.int (0 : Int32)) ∧ Fr n0 L ∧ h = h0
set_option maxRecDepth 65536 in
set_option maxHeartbeats 40000000 in
theorem rm_h5n (l : Launch) (Z : State) (a0 : Array Value) (hw : ∀ d ∈ tables_1, d.before a0 Z = true) (ws : List Jvm.Cond) (a1 : Addr) (p1 : Int32) (h0 : Heap) (n0 : Nat) (Z0 : n0 ≤ h0.size) (E1 : Exa Z h0 a1 "com/example/attributes_to_entitlements/attributestoentitlements/Operator") (F1 : Fld Z h0 a1 "java/lang/Enum" "ordinal" "I" (.int (5 : Int32))) (z1 : ¬ p1 = (0 : Int32)) (z2 : p1 < (0 : Int32)) (z3 : ¬ (0 : Int32) < p1) :
    MetFree l own_y3 (head1 (Jvm.Cond.code own_y3 prog_14_method_6_code 2 (some .boolean) :: ws) ({ frames := 1, cells := 0, slots := 0, locals := 12 } : Room)) (fun a U => a = #[(.ref a1), (.int p1)] ∧ Z.Warmed39 U.vm ∧ U.heap = h0) (fun _ _ _ _ _ => True) (fun _ U o U' => ∃ v L, o = .returned v ∧ Qrm_h5n Z a1 p1 h0 n0 v U'.heap L ∧ FrameEnd U o U' L ({ frames := 1, cells := 0, slots := 0, locals := 12 } : Room).cells ({ frames := 1, cells := 0, slots := 0, locals := 12 } : Room).slots) := by
  refine MetFree.of_bodySF (plainFor_of_name pn_com_example_attributes_to_entitlements_attributestoentitlements_Operator) hisR ?_
  intro p e s m args below meth c s₁ Bd hml0 hP hK
  obtain ⟨rfl, hZ, hh⟩ := hP
  have hx := Bd.exec
  have hby := Bd.bytes
  have hml : c.maxLocals = 2 := hml0
  have hown : s.vm.findClass "com/example/attributes_to_entitlements/attributestoentitlements/Operator" = some m.cls := findClass_of_methodNamed Bd.named
  have hnm := (name_of_methodNamed Bd.named Bd.method).1
  have X0 : Stand p l e ({ frames := 1, cells := 0, slots := 0, locals := 12 } : Room) s m #[(.ref a1), (.int p1)] below meth c s₁ [] 0 0 := Stand.of_body Bd
  have e0 : s₁.heap = h0 := by rw [← hh, Bd.state]; rfl
  have N0 := Fr.nil n0
  have K0 : Keep h0 h0 [] := Keep.refl _ _
  refine own_start (Qk := Qrm_h5n Z a1 p1 h0 n0) (fun G hG => ?_)
  refine own_st (fun _ k => castTop (ef_2_RI m a1 p1) k) ?_
  show own_Fin p e below G (s₁.setTop (mkF m 0 #[rv a1, iv p1] []))
  refine own_st (fun _ k => XS.aloadN X0.here hx rfl (hb hby d2_0) rfl rfl k) ?_
  show own_Fin p e below G (s₁.setTop (mkF m 1 #[rv a1, iv p1] [(.ref a1)]))
  obtain ⟨cq17, kq17, q17a, q17b, q17c⟩ := isOf hZ e0 E1
  obtain ⟨_, _, ⟨T17, L17, k17, n17⟩, -, X17, ⟨Lc17, hQ17, l17, y17, z17⟩, st17⟩ := X0.virtualBackUp hx (x := own_y2) (y := own_y1) (owner := "java/lang/Enum") hown (mvT hZ (own_w hw 29 rfl)) (mvT hZ (own_w hw 30 rfl)) (mvT hZ (own_w hw 31 rfl)) (by decide) (mvT hZ (own_w hw 33 rfl)) (mvT hZ (own_w hw 32 rfl)) (backOf (W := 0) (rm_ord l Z a0 hw [] a1 (5 : Int32) h0 n0 (Nat.le_trans Z0 K0.1) F1) hZ (own_w hw 35 rfl) (own_w hw 34 rfl) (by decide) (by decide)) q17a q17c (g := (mkF m 1 #[rv a1, iv p1] [(.ref a1)])) rfl (by rw [hml]; rfl) (Steps.refl _) (argsL := []) (rest := []) (lenOf pd___I_154 rfl) rfl (by show 2 * 0 + _ ≤ _; exact Nat.le_of_eq rfl) (hb hby d2_1) (fun _ _ => ⟨rfl, e0, (by decide : 0 + 0 ≤ _), (by decide : 0 + 0 ≤ _)⟩)
  dsimp only [Pt.U, Pt.locs, Pt.cells, Pt.slots] at X17 l17 y17 z17 st17 hQ17
  subst l17 y17 z17
  obtain ⟨rfl, N17q, e17⟩ := hQ17
  skip
  have N17 := Fr.app N0 N17q
  refine own_tr st17 ?_
  show own_Fin p e below G (T17.setTop (mkF m 4 #[rv a1, iv p1] [(.int (5 : Int32))]))
  refine own_st (fun _ k => XS.tswIn X17.here hx rfl (pc0 := 4) (pc' := 114) rfl (hb hby d2_4) rfl (by decide) (o := 110) (by decide) (by decide) (by decide) k) ?_
  show own_Fin p e below G (T17.setTop (mkF m 114 #[rv a1, iv p1] []))
  refine own_st (fun _ k => XS.iloadN X17.here hx rfl (hb hby d2_114) rfl  k) ?_
  show own_Fin p e below G (T17.setTop (mkF m 115 #[rv a1, iv p1] [(.int p1)]))
  refine own_st (fun _ k => XS.ifYes X17.here hx rfl (pc0 := 115) (pc' := 122) rfl (hb hby d2_115) rfl ((if0 _ _).trans (flt z3).2.2.2) (by decide) (by decide) k) ?_
  show own_Fin p e below G (T17.setTop (mkF m 122 #[rv a1, iv p1] []))
  refine own_st (fun _ k => XS.iconst X17.here hx rfl (hb hby d2_122) k) ?_
  show own_Fin p e below G (T17.setTop (mkF m 123 #[rv a1, iv p1] [(.int (0 : Int32))]))
  refine own_out X17 Bd.notSynchronized (v := (some (.int (0 : Int32)))) (fun h => by rw [Bd.returns] at h; cases h) hG (fun fs hr => retN X17 hx (t := .boolean) Bd.returns (by simp) (hb hby d2_123) hr) (by decide) (by decide) ?_
  exact ⟨rfl, N17, e17⟩

theorem d4_0 : decode prog_14_method_4_code 0 = .ok (.aload_n 0, 1) := by decide +kernel
theorem d4_1 : decode prog_14_method_4_code 1 = .ok (.getfield 41, 3) := by decide +kernel
theorem d4_4 : decode prog_14_method_4_code 4 = .ok (.areturn, 1) := by decide +kernel
theorem ef_4_R (m : MethodId) (x0 : Addr) : entryFrame m #[(.ref x0)] 1 = mkF m 0 #[rv x0] [] := by first | (simp [entryFrame, mkF, argsToLocals, Value.category]; done) | rfl
def Qrm_sym (Z : State) (a1 : Addr) (a2 : Addr) (h0 : Heap) (n0 : Nat) (v : Option Value) (h : Heap) (L : List Loc) : Prop := v = some (.ref a2) ∧ Fr n0 L ∧ h = h0
set_option maxRecDepth 65536 in
set_option maxHeartbeats 40000000 in
theorem rm_sym (l : Launch) (Z : State) (a0 : Array Value) (hw : ∀ d ∈ tables_1, d.before a0 Z = true) (ws : List Jvm.Cond) (a1 : Addr) (a2 : Addr) (h0 : Heap) (n0 : Nat) (Z0 : n0 ≤ h0.size) (F1 : Fld Z h0 a1 "com/example/attributes_to_entitlements/attributestoentitlements/Operator" "symbol" "Ljava/lang/String;" (.ref a2)) :
    MetFree l own_y4 (head1 (Jvm.Cond.code own_y4 prog_14_method_4_code 1 (some (.object "java/lang/String")) :: ws) ({ frames := 0, cells := 0, slots := 0, locals := 0 } : Room)) (fun a U => a = #[(.ref a1)] ∧ Z.Warmed39 U.vm ∧ U.heap = h0) (fun _ _ _ _ _ => True) (fun _ U o U' => ∃ v L, o = .returned v ∧ Qrm_sym Z a1 a2 h0 n0 v U'.heap L ∧ FrameEnd U o U' L ({ frames := 0, cells := 0, slots := 0, locals := 0 } : Room).cells ({ frames := 0, cells := 0, slots := 0, locals := 0 } : Room).slots) := by
  refine MetFree.of_bodySF (plainFor_of_name pn_com_example_attributes_to_entitlements_attributestoentitlements_Operator) hisR ?_
  intro p e s m args below meth c s₁ Bd hml0 hP hK
  obtain ⟨rfl, hZ, hh⟩ := hP
  have hx := Bd.exec
  have hby := Bd.bytes
  have hml : c.maxLocals = 1 := hml0
  have hown : s.vm.findClass "com/example/attributes_to_entitlements/attributestoentitlements/Operator" = some m.cls := findClass_of_methodNamed Bd.named
  have hnm := (name_of_methodNamed Bd.named Bd.method).1
  have X0 : Stand p l e ({ frames := 0, cells := 0, slots := 0, locals := 0 } : Room) s m #[(.ref a1)] below meth c s₁ [] 0 0 := Stand.of_body Bd
  have e0 : s₁.heap = h0 := by rw [← hh, Bd.state]; rfl
  have N0 := Fr.nil n0
  have K0 : Keep h0 h0 [] := Keep.refl _ _
  refine own_start (Qk := Qrm_sym Z a1 a2 h0 n0) (fun G hG => ?_)
  refine own_st (fun _ k => castTop (ef_4_R m a1) k) ?_
  show own_Fin p e below G (s₁.setTop (mkF m 0 #[rv a1] []))
  refine own_st (fun _ k => XS.aloadN X0.here hx rfl (hb hby d4_0) rfl rfl k) ?_
  show own_Fin p e below G (s₁.setTop (mkF m 1 #[rv a1] [(.ref a1)]))
  obtain ⟨T18, X18, e18, st18⟩ := getF X0 hx hZ hown (host := "") (Or.inl (own_w hw 43 rfl)) Via.refl e0 F1 (g := (mkF m 1 #[rv a1] [(.ref a1)])) rfl rfl (hb hby d4_1)
  refine own_st st18 ?_
  show own_Fin p e below G (T18.setTop (mkF m 4 #[rv a1] [(.ref a2)]))
  refine own_out X18 Bd.notSynchronized (v := (some (.ref a2))) (fun h => by rw [Bd.returns] at h; cases h) hG (fun fs hr => retOut X18 hx Bd.returns rfl (Or.inr (Or.inr (Or.inr (Or.inr ⟨rfl, rfl, rfl⟩)))) (hb hby d4_4) hr) (by decide) (by decide) ?_
  exact ⟨rfl, N0, e18⟩

theorem d9_0 : decode jdk_41_method_11_code 0 = .ok (.iload_n 0, 1) := by decide +kernel
theorem d9_1 : decode jdk_41_method_11_code 1 = .ok (.ifCond .lt 8, 3) := by decide +kernel
theorem d9_4 : decode jdk_41_method_11_code 4 = .ok (.iload_n 0, 1) := by decide +kernel
theorem d9_5 : decode jdk_41_method_11_code 5 = .ok (.iload_n 1, 1) := by decide +kernel
theorem d9_6 : decode jdk_41_method_11_code 6 = .ok (.if_icmp .lt 10, 3) := by decide +kernel
theorem d9_16 : decode jdk_41_method_11_code 16 = .ok (.iload_n 0, 1) := by decide +kernel
theorem d9_17 : decode jdk_41_method_11_code 17 = .ok (.ireturn, 1) := by decide +kernel
theorem pn_jdk_internal_util_Preconditions : plainName "jdk/internal/util/Preconditions" = true := by first | (simp [plainName, overriddenIn]; done) | decide +kernel
theorem ef_9_IIR (m : MethodId) (x0 : Int32) (x1 : Int32) (x2 : Addr) : entryFrame m #[(.int x0), (.int x1), (.ref x2)] 3 = mkF m 0 #[iv x0, iv x1, rv x2] [] := by first | (simp [entryFrame, mkF, argsToLocals, Value.category]; done) | rfl
def Qrm_pciR (Z : State) (p1 : Int32) (p2 : Int32) (a3 : Addr) (h0 : Heap) (n0 : Nat) (v : Option Value) (h : Heap) (L : List Loc) : Prop := v = some (.int p1) ∧ Fr n0 L ∧ h = h0
set_option maxRecDepth 65536 in
set_option maxHeartbeats 40000000 in
theorem rm_pciR (l : Launch) (Z : State) (a0 : Array Value) (hw : ∀ d ∈ tables_1, d.before a0 Z = true) (ws : List Jvm.Cond) (p1 : Int32) (p2 : Int32) (a3 : Addr) (h0 : Heap) (n0 : Nat) (Z0 : n0 ≤ h0.size) (z1 : ¬ p1 < (0 : Int32)) (z2 : p1 < p2) :
    MetFree l own_y5 (head1 (Jvm.Cond.code own_y5 jdk_41_method_11_code 3 (some .int) :: ws) ({ frames := 0, cells := 0, slots := 0, locals := 0 } : Room)) (fun a U => a = #[(.int p1), (.int p2), (.ref a3)] ∧ Z.Warmed39 U.vm ∧ U.heap = h0) (fun _ _ _ _ _ => True) (fun _ U o U' => ∃ v L, o = .returned v ∧ Qrm_pciR Z p1 p2 a3 h0 n0 v U'.heap L ∧ FrameEnd U o U' L ({ frames := 0, cells := 0, slots := 0, locals := 0 } : Room).cells ({ frames := 0, cells := 0, slots := 0, locals := 0 } : Room).slots) := by
  refine MetFree.of_bodySF (plainFor_of_name pn_jdk_internal_util_Preconditions) hisR ?_
  intro p e s m args below meth c s₁ Bd hml0 hP hK
  obtain ⟨rfl, hZ, hh⟩ := hP
  have hx := Bd.exec
  have hby := Bd.bytes
  have hml : c.maxLocals = 3 := hml0
  have hown : s.vm.findClass "jdk/internal/util/Preconditions" = some m.cls := findClass_of_methodNamed Bd.named
  have hnm := (name_of_methodNamed Bd.named Bd.method).1
  have X0 : Stand p l e ({ frames := 0, cells := 0, slots := 0, locals := 0 } : Room) s m #[(.int p1), (.int p2), (.ref a3)] below meth c s₁ [] 0 0 := Stand.of_body Bd
  have e0 : s₁.heap = h0 := by rw [← hh, Bd.state]; rfl
  have N0 := Fr.nil n0
  have K0 : Keep h0 h0 [] := Keep.refl _ _
  refine own_start (Qk := Qrm_pciR Z p1 p2 a3 h0 n0) (fun G hG => ?_)
  refine own_st (fun _ k => castTop (ef_9_IIR m p1 p2 a3) k) ?_
  show own_Fin p e below G (s₁.setTop (mkF m 0 #[iv p1, iv p2, rv a3] []))
  refine own_st (fun _ k => XS.iloadN X0.here hx rfl (hb hby d9_0) rfl  k) ?_
  show own_Fin p e below G (s₁.setTop (mkF m 1 #[iv p1, iv p2, rv a3] [(.int p1)]))
  refine own_st (fun _ k => XS.ifNo X0.here hx rfl (hb hby d9_1) rfl ((if0 _ _).trans (flt z1).1) k) ?_
  show own_Fin p e below G (s₁.setTop (mkF m 4 #[iv p1, iv p2, rv a3] []))
  refine own_st (fun _ k => XS.iloadN X0.here hx rfl (hb hby d9_4) rfl  k) ?_
  show own_Fin p e below G (s₁.setTop (mkF m 5 #[iv p1, iv p2, rv a3] [(.int p1)]))
  refine own_st (fun _ k => XS.iloadN X0.here hx rfl (hb hby d9_5) rfl  k) ?_
  show own_Fin p e below G (s₁.setTop (mkF m 6 #[iv p1, iv p2, rv a3] [(.int p2), (.int p1)]))
  refine own_st (fun _ k => XS.icmpYes X0.here hx rfl (pc0 := 6) (pc' := 16) rfl (hb hby d9_6) rfl (tlt z2).1 (by decide) (by decide) k) ?_
  show own_Fin p e below G (s₁.setTop (mkF m 16 #[iv p1, iv p2, rv a3] []))
  refine own_st (fun _ k => XS.iloadN X0.here hx rfl (hb hby d9_16) rfl  k) ?_
  show own_Fin p e below G (s₁.setTop (mkF m 17 #[iv p1, iv p2, rv a3] [(.int p1)]))
  refine own_out X0 Bd.notSynchronized (v := (some (.int p1))) (fun h => by rw [Bd.returns] at h; cases h) hG (fun fs hr => retOut X0 hx Bd.returns rfl (Or.inl ⟨rfl, Or.inl rfl, _, rfl⟩) (hb hby d9_17) hr) (by decide) (by decide) ?_
  exact ⟨rfl, N0, e0⟩

theorem ef_9_IIN (m : MethodId) (x0 : Int32) (x1 : Int32) : entryFrame m #[(.int x0), (.int x1), .null] 3 = mkF m 0 #[iv x0, iv x1, .val .null] [] := by first | (simp [entryFrame, mkF, argsToLocals, Value.category]; done) | rfl
def Qrm_pciN (Z : State) (p1 : Int32) (p2 : Int32) (h0 : Heap) (n0 : Nat) (v : Option Value) (h : Heap) (L : List Loc) : Prop := v = some (.int p1) ∧ Fr n0 L ∧ h = h0
set_option maxRecDepth 65536 in
set_option maxHeartbeats 40000000 in
theorem rm_pciN (l : Launch) (Z : State) (a0 : Array Value) (hw : ∀ d ∈ tables_1, d.before a0 Z = true) (ws : List Jvm.Cond) (p1 : Int32) (p2 : Int32) (h0 : Heap) (n0 : Nat) (Z0 : n0 ≤ h0.size) (z1 : ¬ p1 < (0 : Int32)) (z2 : p1 < p2) :
    MetFree l own_y5 (head1 (Jvm.Cond.code own_y5 jdk_41_method_11_code 3 (some .int) :: ws) ({ frames := 0, cells := 0, slots := 0, locals := 0 } : Room)) (fun a U => a = #[(.int p1), (.int p2), .null] ∧ Z.Warmed39 U.vm ∧ U.heap = h0) (fun _ _ _ _ _ => True) (fun _ U o U' => ∃ v L, o = .returned v ∧ Qrm_pciN Z p1 p2 h0 n0 v U'.heap L ∧ FrameEnd U o U' L ({ frames := 0, cells := 0, slots := 0, locals := 0 } : Room).cells ({ frames := 0, cells := 0, slots := 0, locals := 0 } : Room).slots) := by
  refine MetFree.of_bodySF (plainFor_of_name pn_jdk_internal_util_Preconditions) hisR ?_
  intro p e s m args below meth c s₁ Bd hml0 hP hK
  obtain ⟨rfl, hZ, hh⟩ := hP
  have hx := Bd.exec
  have hby := Bd.bytes
  have hml : c.maxLocals = 3 := hml0
  have hown : s.vm.findClass "jdk/internal/util/Preconditions" = some m.cls := findClass_of_methodNamed Bd.named
  have hnm := (name_of_methodNamed Bd.named Bd.method).1
  have X0 : Stand p l e ({ frames := 0, cells := 0, slots := 0, locals := 0 } : Room) s m #[(.int p1), (.int p2), .null] below meth c s₁ [] 0 0 := Stand.of_body Bd
  have e0 : s₁.heap = h0 := by rw [← hh, Bd.state]; rfl
  have N0 := Fr.nil n0
  have K0 : Keep h0 h0 [] := Keep.refl _ _
  refine own_start (Qk := Qrm_pciN Z p1 p2 h0 n0) (fun G hG => ?_)
  refine own_st (fun _ k => castTop (ef_9_IIN m p1 p2) k) ?_
  show own_Fin p e below G (s₁.setTop (mkF m 0 #[iv p1, iv p2, .val .null] []))
  refine own_st (fun _ k => XS.iloadN X0.here hx rfl (hb hby d9_0) rfl  k) ?_
  show own_Fin p e below G (s₁.setTop (mkF m 1 #[iv p1, iv p2, .val .null] [(.int p1)]))
  refine own_st (fun _ k => XS.ifNo X0.here hx rfl (hb hby d9_1) rfl ((if0 _ _).trans (flt z1).1) k) ?_
  show own_Fin p e below G (s₁.setTop (mkF m 4 #[iv p1, iv p2, .val .null] []))
  refine own_st (fun _ k => XS.iloadN X0.here hx rfl (hb hby d9_4) rfl  k) ?_
  show own_Fin p e below G (s₁.setTop (mkF m 5 #[iv p1, iv p2, .val .null] [(.int p1)]))
  refine own_st (fun _ k => XS.iloadN X0.here hx rfl (hb hby d9_5) rfl  k) ?_
  show own_Fin p e below G (s₁.setTop (mkF m 6 #[iv p1, iv p2, .val .null] [(.int p2), (.int p1)]))
  refine own_st (fun _ k => XS.icmpYes X0.here hx rfl (pc0 := 6) (pc' := 16) rfl (hb hby d9_6) rfl (tlt z2).1 (by decide) (by decide) k) ?_
  show own_Fin p e below G (s₁.setTop (mkF m 16 #[iv p1, iv p2, .val .null] []))
  refine own_st (fun _ k => XS.iloadN X0.here hx rfl (hb hby d9_16) rfl  k) ?_
  show own_Fin p e below G (s₁.setTop (mkF m 17 #[iv p1, iv p2, .val .null] [(.int p1)]))
  refine own_out X0 Bd.notSynchronized (v := (some (.int p1))) (fun h => by rw [Bd.returns] at h; cases h) hG (fun fs hr => retOut X0 hx Bd.returns rfl (Or.inl ⟨rfl, Or.inl rfl, _, rfl⟩) (hb hby d9_17) hr) (by decide) (by decide) ?_
  exact ⟨rfl, N0, e0⟩

theorem d8_0 : decode jdk_42_method_155_code 0 = .ok (.iload_n 0, 1) := by decide +kernel
theorem d8_1 : decode jdk_42_method_155_code 1 = .ok (.iload_n 1, 1) := by decide +kernel
theorem d8_2 : decode jdk_42_method_155_code 2 = .ok (.getstatic 1053, 3) := by decide +kernel
theorem d8_5 : decode jdk_42_method_155_code 5 = .ok (.invokestatic 1059, 3) := by decide +kernel
theorem pd__IILjava_util_function_BiFunction__I_328 : parseMethodDescriptor "(IILjava/util/function/BiFunction;)I" = some ⟨[.int, .int, (.object "java/util/function/BiFunction")], some .int⟩ := by decide +kernel
theorem d8_8 : decode jdk_42_method_155_code 8 = .ok (.pop, 1) := by decide +kernel
theorem d8_9 : decode jdk_42_method_155_code 9 = .ok (.return_, 1) := by decide +kernel
theorem pn_java_lang_String : plainName "java/lang/String" = true := by first | (simp [plainName, overriddenIn]; done) | decide +kernel
theorem ef_8_II (m : MethodId) (x0 : Int32) (x1 : Int32) : entryFrame m #[(.int x0), (.int x1)] 2 = mkF m 0 #[iv x0, iv x1] [] := by first | (simp [entryFrame, mkF, argsToLocals, Value.category]; done) | rfl
def Qrm_sci (Z : State) (p1 : Int32) (p2 : Int32) (fm : Value) (h0 : Heap) (n0 : Nat) (v : Option Value) (h : Heap) (L : List Loc) : Prop := v = none ∧ Fr n0 L ∧ h = h0
set_option maxRecDepth 65536 in
set_option maxHeartbeats 40000000 in
theorem rm_sci (l : Launch) (Z : State) (a0 : Array Value) (hw : ∀ d ∈ tables_1, d.before a0 Z = true) (ws : List Jvm.Cond) (p1 : Int32) (p2 : Int32) (fm : Value) (h0 : Heap) (n0 : Nat) (Z0 : n0 ≤ h0.size) (z1 : ¬ p1 < (0 : Int32)) (z2 : p1 < p2) (hfm : fm.isRef = true) (Sfm : Sta Z h0 "jdk/internal/util/Preconditions" "SIOOBE_FORMATTER" "Ljava/util/function/BiFunction;" fm) :
    MetFree l own_y6 (head1 (Jvm.Cond.code own_y6 jdk_42_method_155_code 2 none :: ws) ({ frames := 1, cells := 0, slots := 0, locals := 14 } : Room)) (fun a U => a = #[(.int p1), (.int p2)] ∧ Z.Warmed39 U.vm ∧ U.heap = h0) (fun _ _ _ _ _ => True) (fun _ U o U' => ∃ v L, o = .returned v ∧ Qrm_sci Z p1 p2 fm h0 n0 v U'.heap L ∧ FrameEnd U o U' L ({ frames := 1, cells := 0, slots := 0, locals := 14 } : Room).cells ({ frames := 1, cells := 0, slots := 0, locals := 14 } : Room).slots) := by
  refine MetFree.of_bodySF (plainFor_of_name pn_java_lang_String) hisR ?_
  intro p e s m args below meth c s₁ Bd hml0 hP hK
  obtain ⟨rfl, hZ, hh⟩ := hP
  have hx := Bd.exec
  have hby := Bd.bytes
  have hml : c.maxLocals = 2 := hml0
  have hown : s.vm.findClass "java/lang/String" = some m.cls := findClass_of_methodNamed Bd.named
  have hnm := (name_of_methodNamed Bd.named Bd.method).1
  have X0 : Stand p l e ({ frames := 1, cells := 0, slots := 0, locals := 14 } : Room) s m #[(.int p1), (.int p2)] below meth c s₁ [] 0 0 := Stand.of_body Bd
  have e0 : s₁.heap = h0 := by rw [← hh, Bd.state]; rfl
  have N0 := Fr.nil n0
  have K0 : Keep h0 h0 [] := Keep.refl _ _
  refine own_start (Qk := Qrm_sci Z p1 p2 fm h0 n0) (fun G hG => ?_)
  refine own_st (fun _ k => castTop (ef_8_II m p1 p2) k) ?_
  rcases ref_cases hfm with rfl | ⟨fa, rfl⟩
  · show own_Fin p e below G (s₁.setTop (mkF m 0 #[iv p1, iv p2] []))
    refine own_st (fun _ k => XS.iloadN X0.here hx rfl (hb hby d8_0) rfl  k) ?_
    show own_Fin p e below G (s₁.setTop (mkF m 1 #[iv p1, iv p2] [(.int p1)]))
    refine own_st (fun _ k => XS.iloadN X0.here hx rfl (hb hby d8_1) rfl  k) ?_
    show own_Fin p e below G (s₁.setTop (mkF m 2 #[iv p1, iv p2] [(.int p2), (.int p1)]))
    obtain ⟨T19, X19, e19, st19⟩ := getS2 X0 hx hZ hown (host := "") (Or.inl (own_w hw 68 rfl)) Via.refl e0 Sfm (g := (mkF m 2 #[iv p1, iv p2] [(.int p2), (.int p1)])) rfl (hb hby d8_2)
    refine own_st st19 ?_
    show own_Fin p e below G (T19.setTop (mkF m 5 #[iv p1, iv p2] [.null, (.int p2), (.int p1)]))
    obtain ⟨_, _, ⟨T20, L20, k20, n20⟩, -, X20, ⟨Lc20, hQ20, l20, y20, z20⟩, st20⟩ := Jvm.LawKit.callS X19 hx (y := own_y5) hown (mvT hZ (own_w hw 70 rfl)) (mvT hZ (own_w hw 71 rfl)) (mvT hZ (own_w hw 69 rfl)) (mvT hZ (own_w hw 72 rfl)) (by decide) (backOf (W := 0) (rm_pciN l Z a0 hw [] p1 p2 h0 n0 (Nat.le_trans Z0 K0.1) z1 z2) hZ (own_w hw 72 rfl) (own_w hw 69 rfl) (by decide) (by decide)) (g := (mkF m 5 #[iv p1, iv p2] [.null, (.int p2), (.int p1)])) rfl (by rw [hml]; rfl) (argsL := [(.int p1), (.int p2), .null]) (rest := []) (lenOf pd__IILjava_util_function_BiFunction__I_328 rfl) rfl (by show 2 * 0 + _ ≤ _; exact Nat.le_of_eq rfl) (hb hby d8_5) (fun _ _ => ⟨rfl, e19, (by decide : 0 + 0 ≤ _), (by decide : 0 + 0 ≤ _)⟩)
    dsimp only [Pt.U, Pt.locs, Pt.cells, Pt.slots] at X20 l20 y20 z20 st20 hQ20
    subst l20 y20 z20
    obtain ⟨rfl, N20q, e20⟩ := hQ20
    skip
    have N20 := Fr.app N0 N20q
    refine own_st st20 ?_
    show own_Fin p e below G (T20.setTop (mkF m 8 #[iv p1, iv p2] [(.int p1)]))
    refine own_st (fun _ k => XS.pop X20.here hx rfl (hb hby d8_8) rfl rfl k) ?_
    show own_Fin p e below G (T20.setTop (mkF m 9 #[iv p1, iv p2] []))
    refine own_out X20 Bd.notSynchronized (v := none) (fun _ => rfl) hG (fun fs hr => X20.returnOut hx Bd.returns (hb hby d8_9) hr) (by decide) (by decide) ?_
    exact ⟨rfl, N20, e20⟩
  · show own_Fin p e below G (s₁.setTop (mkF m 0 #[iv p1, iv p2] []))
    refine own_st (fun _ k => XS.iloadN X0.here hx rfl (hb hby d8_0) rfl  k) ?_
    show own_Fin p e below G (s₁.setTop (mkF m 1 #[iv p1, iv p2] [(.int p1)]))
    refine own_st (fun _ k => XS.iloadN X0.here hx rfl (hb hby d8_1) rfl  k) ?_
    show own_Fin p e below G (s₁.setTop (mkF m 2 #[iv p1, iv p2] [(.int p2), (.int p1)]))
    obtain ⟨T21, X21, e21, st21⟩ := getS2 X0 hx hZ hown (host := "") (Or.inl (own_w hw 68 rfl)) Via.refl e0 Sfm (g := (mkF m 2 #[iv p1, iv p2] [(.int p2), (.int p1)])) rfl (hb hby d8_2)
    refine own_st st21 ?_
    show own_Fin p e below G (T21.setTop (mkF m 5 #[iv p1, iv p2] [(.ref fa), (.int p2), (.int p1)]))
    obtain ⟨_, _, ⟨T22, L22, k22, n22⟩, -, X22, ⟨Lc22, hQ22, l22, y22, z22⟩, st22⟩ := Jvm.LawKit.callS X21 hx (y := own_y5) hown (mvT hZ (own_w hw 70 rfl)) (mvT hZ (own_w hw 71 rfl)) (mvT hZ (own_w hw 69 rfl)) (mvT hZ (own_w hw 72 rfl)) (by decide) (backOf (W := 0) (rm_pciR l Z a0 hw [] p1 p2 fa h0 n0 (Nat.le_trans Z0 K0.1) z1 z2) hZ (own_w hw 72 rfl) (own_w hw 69 rfl) (by decide) (by decide)) (g := (mkF m 5 #[iv p1, iv p2] [(.ref fa), (.int p2), (.int p1)])) rfl (by rw [hml]; rfl) (argsL := [(.int p1), (.int p2), (.ref fa)]) (rest := []) (lenOf pd__IILjava_util_function_BiFunction__I_328 rfl) rfl (by show 2 * 0 + _ ≤ _; exact Nat.le_of_eq rfl) (hb hby d8_5) (fun _ _ => ⟨rfl, e21, (by decide : 0 + 0 ≤ _), (by decide : 0 + 0 ≤ _)⟩)
    dsimp only [Pt.U, Pt.locs, Pt.cells, Pt.slots] at X22 l22 y22 z22 st22 hQ22
    subst l22 y22 z22
    obtain ⟨rfl, N22q, e22⟩ := hQ22
    skip
    have N22 := Fr.app N0 N22q
    refine own_st st22 ?_
    show own_Fin p e below G (T22.setTop (mkF m 8 #[iv p1, iv p2] [(.int p1)]))
    refine own_st (fun _ k => XS.pop X22.here hx rfl (hb hby d8_8) rfl rfl k) ?_
    show own_Fin p e below G (T22.setTop (mkF m 9 #[iv p1, iv p2] []))
    refine own_out X22 Bd.notSynchronized (v := none) (fun _ => rfl) hG (fun fs hr => X22.returnOut hx Bd.returns (hb hby d8_9) hr) (by decide) (by decide) ?_
    exact ⟨rfl, N22, e22⟩

theorem d6_0 : decode jdk_42_method_154_code 0 = .ok (.getstatic 38, 3) := by decide +kernel
theorem d6_3 : decode jdk_42_method_154_code 3 = .ok (.ifCond .eq 14, 3) := by decide +kernel
theorem d6_6 : decode jdk_42_method_154_code 6 = .ok (.aload_n 0, 1) := by decide +kernel
theorem d6_7 : decode jdk_42_method_154_code 7 = .ok (.getfield 15, 3) := by decide +kernel
theorem d6_10 : decode jdk_42_method_154_code 10 = .ok (.ifCond .ne 7, 3) := by decide +kernel
theorem d6_13 : decode jdk_42_method_154_code 13 = .ok (.iconst 1, 1) := by decide +kernel
theorem d6_14 : decode jdk_42_method_154_code 14 = .ok (.goto 4, 3) := by decide +kernel
theorem d6_18 : decode jdk_42_method_154_code 18 = .ok (.ireturn, 1) := by decide +kernel
theorem ef_6_R (m : MethodId) (x0 : Addr) : entryFrame m #[(.ref x0)] 1 = mkF m 0 #[rv x0] [] := by first | (simp [entryFrame, mkF, argsToLocals, Value.category]; done) | rfl
def Qrm_lat (Z : State) (a1 : Addr) (cs : Int32) (h0 : Heap) (n0 : Nat) (v : Option Value) (h : Heap) (L : List Loc) : Prop := v = some (.int 1) ∧ Fr n0 L ∧ h = h0
set_option maxRecDepth 65536 in
set_option maxHeartbeats 40000000 in
theorem rm_lat (l : Launch) (Z : State) (a0 : Array Value) (hw : ∀ d ∈ tables_1, d.before a0 Z = true) (ws : List Jvm.Cond) (a1 : Addr) (cs : Int32) (h0 : Heap) (n0 : Nat) (Z0 : n0 ≤ h0.size) (Scs : Sta Z h0 "java/lang/String" "COMPACT_STRINGS" "Z" (.int cs)) (hcs : ¬ cs = (0 : Int32)) (F1 : Fld Z h0 a1 "java/lang/String" "coder" "B" (.int (0 : Int32))) :
    MetFree l own_y7 (head1 (Jvm.Cond.code own_y7 jdk_42_method_154_code 1 (some .boolean) :: ws) ({ frames := 0, cells := 0, slots := 0, locals := 0 } : Room)) (fun a U => a = #[(.ref a1)] ∧ Z.Warmed39 U.vm ∧ U.heap = h0) (fun _ _ _ _ _ => True) (fun _ U o U' => ∃ v L, o = .returned v ∧ Qrm_lat Z a1 cs h0 n0 v U'.heap L ∧ FrameEnd U o U' L ({ frames := 0, cells := 0, slots := 0, locals := 0 } : Room).cells ({ frames := 0, cells := 0, slots := 0, locals := 0 } : Room).slots) := by
  refine MetFree.of_bodySF (plainFor_of_name pn_java_lang_String) hisR ?_
  intro p e s m args below meth c s₁ Bd hml0 hP hK
  obtain ⟨rfl, hZ, hh⟩ := hP
  have hx := Bd.exec
  have hby := Bd.bytes
  have hml : c.maxLocals = 1 := hml0
  have hown : s.vm.findClass "java/lang/String" = some m.cls := findClass_of_methodNamed Bd.named
  have hnm := (name_of_methodNamed Bd.named Bd.method).1
  have X0 : Stand p l e ({ frames := 0, cells := 0, slots := 0, locals := 0 } : Room) s m #[(.ref a1)] below meth c s₁ [] 0 0 := Stand.of_body Bd
  have e0 : s₁.heap = h0 := by rw [← hh, Bd.state]; rfl
  have N0 := Fr.nil n0
  have K0 : Keep h0 h0 [] := Keep.refl _ _
  refine own_start (Qk := Qrm_lat Z a1 cs h0 n0) (fun G hG => ?_)
  refine own_st (fun _ k => castTop (ef_6_R m a1) k) ?_
  show own_Fin p e below G (s₁.setTop (mkF m 0 #[rv a1] []))
  obtain ⟨T23, X23, e23, st23⟩ := getS2 X0 hx hZ hown (host := "") (Or.inl (own_w hw 56 rfl)) Via.refl e0 Scs (g := (mkF m 0 #[rv a1] [])) rfl (hb hby d6_0)
  refine own_st st23 ?_
  show own_Fin p e below G (T23.setTop (mkF m 3 #[rv a1] [(.int cs)]))
  refine own_st (fun _ k => XS.ifNo X23.here hx rfl (hb hby d6_3) rfl ((if0 _ _).trans (feq hcs).1) k) ?_
  show own_Fin p e below G (T23.setTop (mkF m 6 #[rv a1] []))
  refine own_st (fun _ k => XS.aloadN X23.here hx rfl (hb hby d6_6) rfl rfl k) ?_
  show own_Fin p e below G (T23.setTop (mkF m 7 #[rv a1] [(.ref a1)]))
  obtain ⟨T24, X24, e24, st24⟩ := getF X23 hx hZ hown (host := "") (Or.inl (own_w hw 57 rfl)) Via.refl e23 F1 (g := (mkF m 7 #[rv a1] [(.ref a1)])) rfl rfl (hb hby d6_7)
  refine own_st st24 ?_
  show own_Fin p e below G (T24.setTop (mkF m 10 #[rv a1] [(.int (0 : Int32))]))
  refine own_st (fun _ k => XS.ifNo X24.here hx rfl (hb hby d6_10) rfl ((if0 _ _).trans (teq (by decide : ((0 : Int32) = (0 : Int32)))).2) k) ?_
  show own_Fin p e below G (T24.setTop (mkF m 13 #[rv a1] []))
  refine own_st (fun _ k => XS.iconst X24.here hx rfl (hb hby d6_13) k) ?_
  show own_Fin p e below G (T24.setTop (mkF m 14 #[rv a1] [(.int (1 : Int32))]))
  refine own_st (fun _ k => XS.goto X24.here hx rfl (pc0 := 14) (pc' := 18) rfl (hb hby d6_14) (by decide) (by decide) k) ?_
  show own_Fin p e below G (T24.setTop (mkF m 18 #[rv a1] [(.int (1 : Int32))]))
  refine own_out X24 Bd.notSynchronized (v := (some (.int (1 : Int32)))) (fun h => by rw [Bd.returns] at h; cases h) hG (fun fs hr => retN X24 hx (t := .boolean) Bd.returns (by simp) (hb hby d6_18) hr) (by decide) (by decide) ?_
  exact ⟨rfl, N0, e24⟩

theorem d7_0 : decode jdk_43_method_2_code 0 = .ok (.iload_n 1, 1) := by decide +kernel
theorem d7_1 : decode jdk_43_method_2_code 1 = .ok (.aload_n 0, 1) := by decide +kernel
theorem d7_2 : decode jdk_43_method_2_code 2 = .ok (.arraylength, 1) := by decide +kernel
theorem d7_3 : decode jdk_43_method_2_code 3 = .ok (.invokestatic 9, 3) := by decide +kernel
theorem pd__II_V_313 : parseMethodDescriptor "(II)V" = some ⟨[.int, .int], none⟩ := by decide +kernel
theorem d7_6 : decode jdk_43_method_2_code 6 = .ok (.aload_n 0, 1) := by decide +kernel
theorem d7_7 : decode jdk_43_method_2_code 7 = .ok (.iload_n 1, 1) := by decide +kernel
theorem d7_8 : decode jdk_43_method_2_code 8 = .ok (.baload, 1) := by decide +kernel
theorem d7_9 : decode jdk_43_method_2_code 9 = .ok (.sipush 255, 3) := by decide +kernel
theorem d7_12 : decode jdk_43_method_2_code 12 = .ok (.iand, 1) := by decide +kernel
theorem d7_13 : decode jdk_43_method_2_code 13 = .ok (.i2c, 1) := by decide +kernel
theorem d7_14 : decode jdk_43_method_2_code 14 = .ok (.ireturn, 1) := by decide +kernel
theorem pn_java_lang_StringLatin1 : plainName "java/lang/StringLatin1" = true := by first | (simp [plainName, overriddenIn]; done) | decide +kernel
theorem ef_7_RI (m : MethodId) (x0 : Addr) (x1 : Int32) : entryFrame m #[(.ref x0), (.int x1)] 2 = mkF m 0 #[rv x0, iv x1] [] := by first | (simp [entryFrame, mkF, argsToLocals, Value.category]; done) | rfl
def Qrm_lc61_61 (Z : State) (a1 : Addr) (fm : Value) (h0 : Heap) (n0 : Nat) (v : Option Value) (h : Heap) (L : List Loc) : Prop := v = some (.int (61 : Int32)) ∧ Fr n0 L ∧ h = h0
set_option maxRecDepth 65536 in
set_option maxHeartbeats 40000000 in
theorem rm_lc61_61 (l : Launch) (Z : State) (a0 : Array Value) (hw : ∀ d ∈ tables_1, d.before a0 Z = true) (ws : List Jvm.Cond) (a1 : Addr) (fm : Value) (h0 : Heap) (n0 : Nat) (Z0 : n0 ≤ h0.size) (A1 : own_AV Z h0 a1 .byte (own_is [(61 : Int32), (61 : Int32)])) (hfm : fm.isRef = true) (Sfm : Sta Z h0 "jdk/internal/util/Preconditions" "SIOOBE_FORMATTER" "Ljava/util/function/BiFunction;" fm) :
    MetFree l own_y8 (head1 (Jvm.Cond.code own_y8 jdk_43_method_2_code 2 (some .char) :: ws) ({ frames := 2, cells := 0, slots := 0, locals := 27 } : Room)) (fun a U => a = #[(.ref a1), (.int (0 : Int32))] ∧ Z.Warmed39 U.vm ∧ U.heap = h0) (fun _ _ _ _ _ => True) (fun _ U o U' => ∃ v L, o = .returned v ∧ Qrm_lc61_61 Z a1 fm h0 n0 v U'.heap L ∧ FrameEnd U o U' L ({ frames := 2, cells := 0, slots := 0, locals := 27 } : Room).cells ({ frames := 2, cells := 0, slots := 0, locals := 27 } : Room).slots) := by
  refine MetFree.of_bodySF (plainFor_of_name pn_java_lang_StringLatin1) hisR ?_
  intro p e s m args below meth c s₁ Bd hml0 hP hK
  obtain ⟨rfl, hZ, hh⟩ := hP
  have hx := Bd.exec
  have hby := Bd.bytes
  have hml : c.maxLocals = 2 := hml0
  have hown : s.vm.findClass "java/lang/StringLatin1" = some m.cls := findClass_of_methodNamed Bd.named
  have hnm := (name_of_methodNamed Bd.named Bd.method).1
  have X0 : Stand p l e ({ frames := 2, cells := 0, slots := 0, locals := 27 } : Room) s m #[(.ref a1), (.int (0 : Int32))] below meth c s₁ [] 0 0 := Stand.of_body Bd
  have e0 : s₁.heap = h0 := by rw [← hh, Bd.state]; rfl
  have N0 := Fr.nil n0
  have K0 : Keep h0 h0 [] := Keep.refl _ _
  refine own_start (Qk := Qrm_lc61_61 Z a1 fm h0 n0) (fun G hG => ?_)
  refine own_st (fun _ k => castTop (ef_7_RI m a1 (0 : Int32)) k) ?_
  show own_Fin p e below G (s₁.setTop (mkF m 0 #[rv a1, iv (0 : Int32)] []))
  refine own_st (fun _ k => XS.iloadN X0.here hx rfl (hb hby d7_0) rfl  k) ?_
  show own_Fin p e below G (s₁.setTop (mkF m 1 #[rv a1, iv (0 : Int32)] [(.int (0 : Int32))]))
  refine own_st (fun _ k => XS.aloadN X0.here hx rfl (hb hby d7_1) rfl rfl k) ?_
  show own_Fin p e below G (s₁.setTop (mkF m 2 #[rv a1, iv (0 : Int32)] [(.ref a1), (.int (0 : Int32))]))
  refine own_st (fun _ k => own_len X0 hx hZ e0 A1 (z := (2 : Int32)) rfl (g := (mkF m 2 #[rv a1, iv (0 : Int32)] [(.ref a1), (.int (0 : Int32))])) rfl rfl (hb hby d7_2) k) ?_
  show own_Fin p e below G (s₁.setTop (mkF m 3 #[rv a1, iv (0 : Int32)] [(.int (2 : Int32)), (.int (0 : Int32))]))
  obtain ⟨_, _, ⟨T25, L25, k25, n25⟩, -, X25, ⟨Lc25, hQ25, l25, y25, z25⟩, st25⟩ := Jvm.LawKit.callS X0 hx (y := own_y6) hown (mvT hZ (own_w hw 65 rfl)) (mvT hZ (own_w hw 66 rfl)) (mvT hZ (own_w hw 49 rfl)) (mvT hZ (own_w hw 67 rfl)) (by decide) (backOf (W := 0) (rm_sci l Z a0 hw [] (0 : Int32) (2 : Int32) fm h0 n0 (Nat.le_trans Z0 K0.1) (by decide) (by decide) hfm Sfm) hZ (own_w hw 67 rfl) (own_w hw 49 rfl) (by decide) (by decide)) (g := (mkF m 3 #[rv a1, iv (0 : Int32)] [(.int (2 : Int32)), (.int (0 : Int32))])) rfl (by rw [hml]; rfl) (argsL := [(.int (0 : Int32)), (.int (2 : Int32))]) (rest := []) (lenOf pd__II_V_313 rfl) rfl (by show 2 * 0 + _ ≤ _; exact Nat.le_of_eq rfl) (hb hby d7_3) (fun _ _ => ⟨rfl, e0, (by decide : 0 + 0 ≤ _), (by decide : 0 + 0 ≤ _)⟩)
  dsimp only [Pt.U, Pt.locs, Pt.cells, Pt.slots] at X25 l25 y25 z25 st25 hQ25
  subst l25 y25 z25
  obtain ⟨rfl, N25q, e25⟩ := hQ25
  skip
  have N25 := Fr.app N0 N25q
  refine own_st st25 ?_
  show own_Fin p e below G (T25.setTop (mkF m 6 #[rv a1, iv (0 : Int32)] []))
  refine own_st (fun _ k => XS.aloadN X25.here hx rfl (hb hby d7_6) rfl rfl k) ?_
  show own_Fin p e below G (T25.setTop (mkF m 7 #[rv a1, iv (0 : Int32)] [(.ref a1)]))
  refine own_st (fun _ k => XS.iloadN X25.here hx rfl (hb hby d7_7) rfl  k) ?_
  show own_Fin p e below G (T25.setTop (mkF m 8 #[rv a1, iv (0 : Int32)] [(.int (0 : Int32)), (.ref a1)]))
  refine own_st (fun _ k => own_ldB X25 hx hZ e25 A1 (j := (0 : Int32)) (n := 2) rfl (by decide) (g := (mkF m 8 #[rv a1, iv (0 : Int32)] [(.int (0 : Int32)), (.ref a1)])) rfl rfl (hb hby d7_8) k) ?_
  show own_Fin p e below G (T25.setTop (mkF m 9 #[rv a1, iv (0 : Int32)] [(.int (61 : Int32))]))
  refine own_st (fun _ k => XS.sipush X25.here hx rfl (hb hby d7_9) k) ?_
  show own_Fin p e below G (T25.setTop (mkF m 12 #[rv a1, iv (0 : Int32)] [(.int (255 : Int32)), (.int (61 : Int32))]))
  refine own_st (fun _ k => XS.iand X25.here hx rfl (hb hby d7_12) rfl k) ?_
  show own_Fin p e below G (T25.setTop (mkF m 13 #[rv a1, iv (0 : Int32)] [(.int (61 : Int32))]))
  refine own_st (fun _ k => XS.i2c X25.here hx rfl (hb hby d7_13) rfl k) ?_
  show own_Fin p e below G (T25.setTop (mkF m 14 #[rv a1, iv (0 : Int32)] [(.int (61 : Int32))]))
  refine own_out X25 Bd.notSynchronized (v := (some (.int (61 : Int32)))) (fun h => by rw [Bd.returns] at h; cases h) hG (fun fs hr => retN X25 hx (t := .char) Bd.returns (by simp) (hb hby d7_14) hr) (by decide) (by decide) ?_
  exact ⟨rfl, N25, e25⟩

theorem d5_0 : decode jdk_42_method_56_code 0 = .ok (.aload_n 0, 1) := by decide +kernel
theorem d5_1 : decode jdk_42_method_56_code 1 = .ok (.invokevirtual 492, 3) := by decide +kernel
theorem pd___Z_171 : parseMethodDescriptor "()Z" = some ⟨[], some .boolean⟩ := by decide +kernel
theorem d5_4 : decode jdk_42_method_56_code 4 = .ok (.ifCond .eq 12, 3) := by decide +kernel
theorem d5_7 : decode jdk_42_method_56_code 7 = .ok (.aload_n 0, 1) := by decide +kernel
theorem d5_8 : decode jdk_42_method_56_code 8 = .ok (.getfield 9, 3) := by decide +kernel
theorem d5_11 : decode jdk_42_method_56_code 11 = .ok (.iload_n 1, 1) := by decide +kernel
theorem d5_12 : decode jdk_42_method_56_code 12 = .ok (.invokestatic 495, 3) := by decide +kernel
theorem pd___BI_C_378 : parseMethodDescriptor "([BI)C" = some ⟨[(.array .byte), .int], some .char⟩ := by decide +kernel
theorem d5_15 : decode jdk_42_method_56_code 15 = .ok (.ireturn, 1) := by decide +kernel
theorem ef_5_RI (m : MethodId) (x0 : Addr) (x1 : Int32) : entryFrame m #[(.ref x0), (.int x1)] 2 = mkF m 0 #[rv x0, iv x1] [] := by first | (simp [entryFrame, mkF, argsToLocals, Value.category]; done) | rfl
def Qrm_ca61_61 (Z : State) (a1 : Addr) (a2 : Addr) (cs : Int32) (fm : Value) (h0 : Heap) (n0 : Nat) (v : Option Value) (h : Heap) (L : List Loc) : Prop := v = some (.int (61 : Int32)) ∧ Fr n0 L ∧ h = h0
set_option maxRecDepth 65536 in
set_option maxHeartbeats 40000000 in
theorem rm_ca61_61 (l : Launch) (Z : State) (a0 : Array Value) (hw : ∀ d ∈ tables_1, d.before a0 Z = true) (ws : List Jvm.Cond) (a1 : Addr) (a2 : Addr) (cs : Int32) (fm : Value) (h0 : Heap) (n0 : Nat) (Z0 : n0 ≤ h0.size) (E1 : Exa Z h0 a1 "java/lang/String") (F1 : Fld Z h0 a1 "java/lang/String" "coder" "B" (.int (0 : Int32))) (F2 : Fld Z h0 a1 "java/lang/String" "value" "[B" (.ref a2)) (A2 : own_AV Z h0 a2 .byte (own_is [(61 : Int32), (61 : Int32)])) (Scs : Sta Z h0 "java/lang/String" "COMPACT_STRINGS" "Z" (.int cs)) (hcs : ¬ cs = (0 : Int32)) (hfm : fm.isRef = true) (Sfm : Sta Z h0 "jdk/internal/util/Preconditions" "SIOOBE_FORMATTER" "Ljava/util/function/BiFunction;" fm) :
    MetFree l own_y9 (head1 (Jvm.Cond.code own_y9 jdk_42_method_56_code 2 (some .char) :: ws) ({ frames := 3, cells := 0, slots := 0, locals := 40 } : Room)) (fun a U => a = #[(.ref a1), (.int (0 : Int32))] ∧ Z.Warmed39 U.vm ∧ U.heap = h0) (fun _ _ _ _ _ => True) (fun _ U o U' => ∃ v L, o = .returned v ∧ Qrm_ca61_61 Z a1 a2 cs fm h0 n0 v U'.heap L ∧ FrameEnd U o U' L ({ frames := 3, cells := 0, slots := 0, locals := 40 } : Room).cells ({ frames := 3, cells := 0, slots := 0, locals := 40 } : Room).slots) := by
  refine MetFree.of_bodySF (plainFor_of_name pn_java_lang_String) hisR ?_
  intro p e s m args below meth c s₁ Bd hml0 hP hK
  obtain ⟨rfl, hZ, hh⟩ := hP
  have hx := Bd.exec
  have hby := Bd.bytes
  have hml : c.maxLocals = 2 := hml0
  have hown : s.vm.findClass "java/lang/String" = some m.cls := findClass_of_methodNamed Bd.named
  have hnm := (name_of_methodNamed Bd.named Bd.method).1
  have X0 : Stand p l e ({ frames := 3, cells := 0, slots := 0, locals := 40 } : Room) s m #[(.ref a1), (.int (0 : Int32))] below meth c s₁ [] 0 0 := Stand.of_body Bd
  have e0 : s₁.heap = h0 := by rw [← hh, Bd.state]; rfl
  have N0 := Fr.nil n0
  have K0 : Keep h0 h0 [] := Keep.refl _ _
  refine own_start (Qk := Qrm_ca61_61 Z a1 a2 cs fm h0 n0) (fun G hG => ?_)
  refine own_st (fun _ k => castTop (ef_5_RI m a1 (0 : Int32)) k) ?_
  show own_Fin p e below G (s₁.setTop (mkF m 0 #[rv a1, iv (0 : Int32)] []))
  refine own_st (fun _ k => XS.aloadN X0.here hx rfl (hb hby d5_0) rfl rfl k) ?_
  show own_Fin p e below G (s₁.setTop (mkF m 1 #[rv a1, iv (0 : Int32)] [(.ref a1)]))
  obtain ⟨cq26, kq26, q26a, q26b, q26c⟩ := isOf hZ e0 E1
  obtain ⟨_, _, ⟨T26, L26, k26, n26⟩, -, X26, ⟨Lc26, hQ26, l26, y26, z26⟩, st26⟩ := X0.virtualBack hx (y := own_y7) (z := own_y7) hown (mvT hZ (own_w hw 51 rfl)) (mvT hZ (own_w hw 52 rfl)) (notFace_of_selects (args := #[]) (mvT hZ (own_w hw 54 rfl))) (mvT hZ (own_w hw 54 rfl)) (mvT hZ (own_w hw 53 rfl)) (by decide) (backOf (W := 0) (rm_lat l Z a0 hw [] a1 cs h0 n0 (Nat.le_trans Z0 K0.1) Scs hcs F1) hZ (own_w hw 55 rfl) (own_w hw 49 rfl) (by decide) (by decide)) q26a q26c (g := (mkF m 1 #[rv a1, iv (0 : Int32)] [(.ref a1)])) rfl (by rw [hml]; rfl) (Steps.refl _) (argsL := []) (rest := []) (lenOf pd___Z_171 rfl) rfl (by show 2 * 0 + _ ≤ _; exact Nat.le_of_eq rfl) (hb hby d5_1) (fun _ _ => ⟨rfl, e0, (by decide : 0 + 0 ≤ _), (by decide : 0 + 0 ≤ _)⟩)
  dsimp only [Pt.U, Pt.locs, Pt.cells, Pt.slots] at X26 l26 y26 z26 st26 hQ26
  subst l26 y26 z26
  obtain ⟨rfl, N26q, e26⟩ := hQ26
  skip
  have N26 := Fr.app N0 N26q
  refine own_tr st26 ?_
  show own_Fin p e below G (T26.setTop (mkF m 4 #[rv a1, iv (0 : Int32)] [(.int (1 : Int32))]))
  refine own_st (fun _ k => XS.ifNo X26.here hx rfl (hb hby d5_4) rfl ((if0 _ _).trans (feq (by decide : ¬ ((1 : Int32) = (0 : Int32)))).1) k) ?_
  show own_Fin p e below G (T26.setTop (mkF m 7 #[rv a1, iv (0 : Int32)] []))
  refine own_st (fun _ k => XS.aloadN X26.here hx rfl (hb hby d5_7) rfl rfl k) ?_
  show own_Fin p e below G (T26.setTop (mkF m 8 #[rv a1, iv (0 : Int32)] [(.ref a1)]))
  obtain ⟨T27, X27, e27, st27⟩ := getF X26 hx hZ hown (host := "") (Or.inl (own_w hw 59 rfl)) Via.refl e26 F2 (g := (mkF m 8 #[rv a1, iv (0 : Int32)] [(.ref a1)])) rfl rfl (hb hby d5_8)
  refine own_st st27 ?_
  show own_Fin p e below G (T27.setTop (mkF m 11 #[rv a1, iv (0 : Int32)] [(.ref a2)]))
  refine own_st (fun _ k => XS.iloadN X27.here hx rfl (hb hby d5_11) rfl  k) ?_
  show own_Fin p e below G (T27.setTop (mkF m 12 #[rv a1, iv (0 : Int32)] [(.int (0 : Int32)), (.ref a2)]))
  obtain ⟨_, _, ⟨T28, L28, k28, n28⟩, -, X28, ⟨Lc28, hQ28, l28, y28, z28⟩, st28⟩ := Jvm.LawKit.callS X27 hx (y := own_y8) hown (mvT hZ (own_w hw 61 rfl)) (mvT hZ (own_w hw 62 rfl)) (mvT hZ (own_w hw 63 rfl)) (mvT hZ (own_w hw 64 rfl)) (by decide) (backOf (W := 0) (rm_lc61_61 l Z a0 hw [] a2 fm h0 n0 (Nat.le_trans Z0 K0.1) A2 hfm Sfm) hZ (own_w hw 64 rfl) (own_w hw 63 rfl) (by decide) (by decide)) (g := (mkF m 12 #[rv a1, iv (0 : Int32)] [(.int (0 : Int32)), (.ref a2)])) rfl (by rw [hml]; rfl) (argsL := [(.ref a2), (.int (0 : Int32))]) (rest := []) (lenOf pd___BI_C_378 rfl) rfl (by show 2 * 0 + _ ≤ _; exact Nat.le_of_eq rfl) (hb hby d5_12) (fun _ _ => ⟨rfl, e27, (by decide : 0 + 0 ≤ _), (by decide : 0 + 0 ≤ _)⟩)
  dsimp only [Pt.U, Pt.locs, Pt.cells, Pt.slots] at X28 l28 y28 z28 st28 hQ28
  subst l28 y28 z28
  obtain ⟨rfl, N28q, e28⟩ := hQ28
  skip
  have N28 := Fr.app N26 N28q
  refine own_st st28 ?_
  show own_Fin p e below G (T28.setTop (mkF m 15 #[rv a1, iv (0 : Int32)] [(.int (61 : Int32))]))
  refine own_out X28 Bd.notSynchronized (v := (some (.int (61 : Int32)))) (fun h => by rw [Bd.returns] at h; cases h) hG (fun fs hr => retN X28 hx (t := .char) Bd.returns (by simp) (hb hby d5_15) hr) (by decide) (by decide) ?_
  exact ⟨rfl, N28, e28⟩

def Qrm_lc33_61 (Z : State) (a1 : Addr) (fm : Value) (h0 : Heap) (n0 : Nat) (v : Option Value) (h : Heap) (L : List Loc) : Prop := v = some (.int (33 : Int32)) ∧ Fr n0 L ∧ h = h0
set_option maxRecDepth 65536 in
set_option maxHeartbeats 40000000 in
theorem rm_lc33_61 (l : Launch) (Z : State) (a0 : Array Value) (hw : ∀ d ∈ tables_1, d.before a0 Z = true) (ws : List Jvm.Cond) (a1 : Addr) (fm : Value) (h0 : Heap) (n0 : Nat) (Z0 : n0 ≤ h0.size) (A1 : own_AV Z h0 a1 .byte (own_is [(33 : Int32), (61 : Int32)])) (hfm : fm.isRef = true) (Sfm : Sta Z h0 "jdk/internal/util/Preconditions" "SIOOBE_FORMATTER" "Ljava/util/function/BiFunction;" fm) :
    MetFree l own_y8 (head1 (Jvm.Cond.code own_y8 jdk_43_method_2_code 2 (some .char) :: ws) ({ frames := 2, cells := 0, slots := 0, locals := 27 } : Room)) (fun a U => a = #[(.ref a1), (.int (0 : Int32))] ∧ Z.Warmed39 U.vm ∧ U.heap = h0) (fun _ _ _ _ _ => True) (fun _ U o U' => ∃ v L, o = .returned v ∧ Qrm_lc33_61 Z a1 fm h0 n0 v U'.heap L ∧ FrameEnd U o U' L ({ frames := 2, cells := 0, slots := 0, locals := 27 } : Room).cells ({ frames := 2, cells := 0, slots := 0, locals := 27 } : Room).slots) := by
  refine MetFree.of_bodySF (plainFor_of_name pn_java_lang_StringLatin1) hisR ?_
  intro p e s m args below meth c s₁ Bd hml0 hP hK
  obtain ⟨rfl, hZ, hh⟩ := hP
  have hx := Bd.exec
  have hby := Bd.bytes
  have hml : c.maxLocals = 2 := hml0
  have hown : s.vm.findClass "java/lang/StringLatin1" = some m.cls := findClass_of_methodNamed Bd.named
  have hnm := (name_of_methodNamed Bd.named Bd.method).1
  have X0 : Stand p l e ({ frames := 2, cells := 0, slots := 0, locals := 27 } : Room) s m #[(.ref a1), (.int (0 : Int32))] below meth c s₁ [] 0 0 := Stand.of_body Bd
  have e0 : s₁.heap = h0 := by rw [← hh, Bd.state]; rfl
  have N0 := Fr.nil n0
  have K0 : Keep h0 h0 [] := Keep.refl _ _
  refine own_start (Qk := Qrm_lc33_61 Z a1 fm h0 n0) (fun G hG => ?_)
  refine own_st (fun _ k => castTop (ef_7_RI m a1 (0 : Int32)) k) ?_
  show own_Fin p e below G (s₁.setTop (mkF m 0 #[rv a1, iv (0 : Int32)] []))
  refine own_st (fun _ k => XS.iloadN X0.here hx rfl (hb hby d7_0) rfl  k) ?_
  show own_Fin p e below G (s₁.setTop (mkF m 1 #[rv a1, iv (0 : Int32)] [(.int (0 : Int32))]))
  refine own_st (fun _ k => XS.aloadN X0.here hx rfl (hb hby d7_1) rfl rfl k) ?_
  show own_Fin p e below G (s₁.setTop (mkF m 2 #[rv a1, iv (0 : Int32)] [(.ref a1), (.int (0 : Int32))]))
  refine own_st (fun _ k => own_len X0 hx hZ e0 A1 (z := (2 : Int32)) rfl (g := (mkF m 2 #[rv a1, iv (0 : Int32)] [(.ref a1), (.int (0 : Int32))])) rfl rfl (hb hby d7_2) k) ?_
  show own_Fin p e below G (s₁.setTop (mkF m 3 #[rv a1, iv (0 : Int32)] [(.int (2 : Int32)), (.int (0 : Int32))]))
  obtain ⟨_, _, ⟨T29, L29, k29, n29⟩, -, X29, ⟨Lc29, hQ29, l29, y29, z29⟩, st29⟩ := Jvm.LawKit.callS X0 hx (y := own_y6) hown (mvT hZ (own_w hw 65 rfl)) (mvT hZ (own_w hw 66 rfl)) (mvT hZ (own_w hw 49 rfl)) (mvT hZ (own_w hw 67 rfl)) (by decide) (backOf (W := 0) (rm_sci l Z a0 hw [] (0 : Int32) (2 : Int32) fm h0 n0 (Nat.le_trans Z0 K0.1) (by decide) (by decide) hfm Sfm) hZ (own_w hw 67 rfl) (own_w hw 49 rfl) (by decide) (by decide)) (g := (mkF m 3 #[rv a1, iv (0 : Int32)] [(.int (2 : Int32)), (.int (0 : Int32))])) rfl (by rw [hml]; rfl) (argsL := [(.int (0 : Int32)), (.int (2 : Int32))]) (rest := []) (lenOf pd__II_V_313 rfl) rfl (by show 2 * 0 + _ ≤ _; exact Nat.le_of_eq rfl) (hb hby d7_3) (fun _ _ => ⟨rfl, e0, (by decide : 0 + 0 ≤ _), (by decide : 0 + 0 ≤ _)⟩)
  dsimp only [Pt.U, Pt.locs, Pt.cells, Pt.slots] at X29 l29 y29 z29 st29 hQ29
  subst l29 y29 z29
  obtain ⟨rfl, N29q, e29⟩ := hQ29
  skip
  have N29 := Fr.app N0 N29q
  refine own_st st29 ?_
  show own_Fin p e below G (T29.setTop (mkF m 6 #[rv a1, iv (0 : Int32)] []))
  refine own_st (fun _ k => XS.aloadN X29.here hx rfl (hb hby d7_6) rfl rfl k) ?_
  show own_Fin p e below G (T29.setTop (mkF m 7 #[rv a1, iv (0 : Int32)] [(.ref a1)]))
  refine own_st (fun _ k => XS.iloadN X29.here hx rfl (hb hby d7_7) rfl  k) ?_
  show own_Fin p e below G (T29.setTop (mkF m 8 #[rv a1, iv (0 : Int32)] [(.int (0 : Int32)), (.ref a1)]))
  refine own_st (fun _ k => own_ldB X29 hx hZ e29 A1 (j := (0 : Int32)) (n := 2) rfl (by decide) (g := (mkF m 8 #[rv a1, iv (0 : Int32)] [(.int (0 : Int32)), (.ref a1)])) rfl rfl (hb hby d7_8) k) ?_
  show own_Fin p e below G (T29.setTop (mkF m 9 #[rv a1, iv (0 : Int32)] [(.int (33 : Int32))]))
  refine own_st (fun _ k => XS.sipush X29.here hx rfl (hb hby d7_9) k) ?_
  show own_Fin p e below G (T29.setTop (mkF m 12 #[rv a1, iv (0 : Int32)] [(.int (255 : Int32)), (.int (33 : Int32))]))
  refine own_st (fun _ k => XS.iand X29.here hx rfl (hb hby d7_12) rfl k) ?_
  show own_Fin p e below G (T29.setTop (mkF m 13 #[rv a1, iv (0 : Int32)] [(.int (33 : Int32))]))
  refine own_st (fun _ k => XS.i2c X29.here hx rfl (hb hby d7_13) rfl k) ?_
  show own_Fin p e below G (T29.setTop (mkF m 14 #[rv a1, iv (0 : Int32)] [(.int (33 : Int32))]))
  refine own_out X29 Bd.notSynchronized (v := (some (.int (33 : Int32)))) (fun h => by rw [Bd.returns] at h; cases h) hG (fun fs hr => retN X29 hx (t := .char) Bd.returns (by simp) (hb hby d7_14) hr) (by decide) (by decide) ?_
  exact ⟨rfl, N29, e29⟩

def Qrm_ca33_61 (Z : State) (a1 : Addr) (a2 : Addr) (cs : Int32) (fm : Value) (h0 : Heap) (n0 : Nat) (v : Option Value) (h : Heap) (L : List Loc) : Prop := v = some (.int (33 : Int32)) ∧ Fr n0 L ∧ h = h0
set_option maxRecDepth 65536 in
set_option maxHeartbeats 40000000 in
theorem rm_ca33_61 (l : Launch) (Z : State) (a0 : Array Value) (hw : ∀ d ∈ tables_1, d.before a0 Z = true) (ws : List Jvm.Cond) (a1 : Addr) (a2 : Addr) (cs : Int32) (fm : Value) (h0 : Heap) (n0 : Nat) (Z0 : n0 ≤ h0.size) (E1 : Exa Z h0 a1 "java/lang/String") (F1 : Fld Z h0 a1 "java/lang/String" "coder" "B" (.int (0 : Int32))) (F2 : Fld Z h0 a1 "java/lang/String" "value" "[B" (.ref a2)) (A2 : own_AV Z h0 a2 .byte (own_is [(33 : Int32), (61 : Int32)])) (Scs : Sta Z h0 "java/lang/String" "COMPACT_STRINGS" "Z" (.int cs)) (hcs : ¬ cs = (0 : Int32)) (hfm : fm.isRef = true) (Sfm : Sta Z h0 "jdk/internal/util/Preconditions" "SIOOBE_FORMATTER" "Ljava/util/function/BiFunction;" fm) :
    MetFree l own_y9 (head1 (Jvm.Cond.code own_y9 jdk_42_method_56_code 2 (some .char) :: ws) ({ frames := 3, cells := 0, slots := 0, locals := 40 } : Room)) (fun a U => a = #[(.ref a1), (.int (0 : Int32))] ∧ Z.Warmed39 U.vm ∧ U.heap = h0) (fun _ _ _ _ _ => True) (fun _ U o U' => ∃ v L, o = .returned v ∧ Qrm_ca33_61 Z a1 a2 cs fm h0 n0 v U'.heap L ∧ FrameEnd U o U' L ({ frames := 3, cells := 0, slots := 0, locals := 40 } : Room).cells ({ frames := 3, cells := 0, slots := 0, locals := 40 } : Room).slots) := by
  refine MetFree.of_bodySF (plainFor_of_name pn_java_lang_String) hisR ?_
  intro p e s m args below meth c s₁ Bd hml0 hP hK
  obtain ⟨rfl, hZ, hh⟩ := hP
  have hx := Bd.exec
  have hby := Bd.bytes
  have hml : c.maxLocals = 2 := hml0
  have hown : s.vm.findClass "java/lang/String" = some m.cls := findClass_of_methodNamed Bd.named
  have hnm := (name_of_methodNamed Bd.named Bd.method).1
  have X0 : Stand p l e ({ frames := 3, cells := 0, slots := 0, locals := 40 } : Room) s m #[(.ref a1), (.int (0 : Int32))] below meth c s₁ [] 0 0 := Stand.of_body Bd
  have e0 : s₁.heap = h0 := by rw [← hh, Bd.state]; rfl
  have N0 := Fr.nil n0
  have K0 : Keep h0 h0 [] := Keep.refl _ _
  refine own_start (Qk := Qrm_ca33_61 Z a1 a2 cs fm h0 n0) (fun G hG => ?_)
  refine own_st (fun _ k => castTop (ef_5_RI m a1 (0 : Int32)) k) ?_
  show own_Fin p e below G (s₁.setTop (mkF m 0 #[rv a1, iv (0 : Int32)] []))
  refine own_st (fun _ k => XS.aloadN X0.here hx rfl (hb hby d5_0) rfl rfl k) ?_
  show own_Fin p e below G (s₁.setTop (mkF m 1 #[rv a1, iv (0 : Int32)] [(.ref a1)]))
  obtain ⟨cq30, kq30, q30a, q30b, q30c⟩ := isOf hZ e0 E1
  obtain ⟨_, _, ⟨T30, L30, k30, n30⟩, -, X30, ⟨Lc30, hQ30, l30, y30, z30⟩, st30⟩ := X0.virtualBack hx (y := own_y7) (z := own_y7) hown (mvT hZ (own_w hw 51 rfl)) (mvT hZ (own_w hw 52 rfl)) (notFace_of_selects (args := #[]) (mvT hZ (own_w hw 54 rfl))) (mvT hZ (own_w hw 54 rfl)) (mvT hZ (own_w hw 53 rfl)) (by decide) (backOf (W := 0) (rm_lat l Z a0 hw [] a1 cs h0 n0 (Nat.le_trans Z0 K0.1) Scs hcs F1) hZ (own_w hw 55 rfl) (own_w hw 49 rfl) (by decide) (by decide)) q30a q30c (g := (mkF m 1 #[rv a1, iv (0 : Int32)] [(.ref a1)])) rfl (by rw [hml]; rfl) (Steps.refl _) (argsL := []) (rest := []) (lenOf pd___Z_171 rfl) rfl (by show 2 * 0 + _ ≤ _; exact Nat.le_of_eq rfl) (hb hby d5_1) (fun _ _ => ⟨rfl, e0, (by decide : 0 + 0 ≤ _), (by decide : 0 + 0 ≤ _)⟩)
  dsimp only [Pt.U, Pt.locs, Pt.cells, Pt.slots] at X30 l30 y30 z30 st30 hQ30
  subst l30 y30 z30
  obtain ⟨rfl, N30q, e30⟩ := hQ30
  skip
  have N30 := Fr.app N0 N30q
  refine own_tr st30 ?_
  show own_Fin p e below G (T30.setTop (mkF m 4 #[rv a1, iv (0 : Int32)] [(.int (1 : Int32))]))
  refine own_st (fun _ k => XS.ifNo X30.here hx rfl (hb hby d5_4) rfl ((if0 _ _).trans (feq (by decide : ¬ ((1 : Int32) = (0 : Int32)))).1) k) ?_
  show own_Fin p e below G (T30.setTop (mkF m 7 #[rv a1, iv (0 : Int32)] []))
  refine own_st (fun _ k => XS.aloadN X30.here hx rfl (hb hby d5_7) rfl rfl k) ?_
  show own_Fin p e below G (T30.setTop (mkF m 8 #[rv a1, iv (0 : Int32)] [(.ref a1)]))
  obtain ⟨T31, X31, e31, st31⟩ := getF X30 hx hZ hown (host := "") (Or.inl (own_w hw 59 rfl)) Via.refl e30 F2 (g := (mkF m 8 #[rv a1, iv (0 : Int32)] [(.ref a1)])) rfl rfl (hb hby d5_8)
  refine own_st st31 ?_
  show own_Fin p e below G (T31.setTop (mkF m 11 #[rv a1, iv (0 : Int32)] [(.ref a2)]))
  refine own_st (fun _ k => XS.iloadN X31.here hx rfl (hb hby d5_11) rfl  k) ?_
  show own_Fin p e below G (T31.setTop (mkF m 12 #[rv a1, iv (0 : Int32)] [(.int (0 : Int32)), (.ref a2)]))
  obtain ⟨_, _, ⟨T32, L32, k32, n32⟩, -, X32, ⟨Lc32, hQ32, l32, y32, z32⟩, st32⟩ := Jvm.LawKit.callS X31 hx (y := own_y8) hown (mvT hZ (own_w hw 61 rfl)) (mvT hZ (own_w hw 62 rfl)) (mvT hZ (own_w hw 63 rfl)) (mvT hZ (own_w hw 64 rfl)) (by decide) (backOf (W := 0) (rm_lc33_61 l Z a0 hw [] a2 fm h0 n0 (Nat.le_trans Z0 K0.1) A2 hfm Sfm) hZ (own_w hw 64 rfl) (own_w hw 63 rfl) (by decide) (by decide)) (g := (mkF m 12 #[rv a1, iv (0 : Int32)] [(.int (0 : Int32)), (.ref a2)])) rfl (by rw [hml]; rfl) (argsL := [(.ref a2), (.int (0 : Int32))]) (rest := []) (lenOf pd___BI_C_378 rfl) rfl (by show 2 * 0 + _ ≤ _; exact Nat.le_of_eq rfl) (hb hby d5_12) (fun _ _ => ⟨rfl, e31, (by decide : 0 + 0 ≤ _), (by decide : 0 + 0 ≤ _)⟩)
  dsimp only [Pt.U, Pt.locs, Pt.cells, Pt.slots] at X32 l32 y32 z32 st32 hQ32
  subst l32 y32 z32
  obtain ⟨rfl, N32q, e32⟩ := hQ32
  skip
  have N32 := Fr.app N30 N32q
  refine own_st st32 ?_
  show own_Fin p e below G (T32.setTop (mkF m 15 #[rv a1, iv (0 : Int32)] [(.int (33 : Int32))]))
  refine own_out X32 Bd.notSynchronized (v := (some (.int (33 : Int32)))) (fun h => by rw [Bd.returns] at h; cases h) hG (fun fs hr => retN X32 hx (t := .char) Bd.returns (by simp) (hb hby d5_15) hr) (by decide) (by decide) ?_
  exact ⟨rfl, N32, e32⟩

def Qrm_lc60_61 (Z : State) (a1 : Addr) (fm : Value) (h0 : Heap) (n0 : Nat) (v : Option Value) (h : Heap) (L : List Loc) : Prop := v = some (.int (60 : Int32)) ∧ Fr n0 L ∧ h = h0
set_option maxRecDepth 65536 in
set_option maxHeartbeats 40000000 in
theorem rm_lc60_61 (l : Launch) (Z : State) (a0 : Array Value) (hw : ∀ d ∈ tables_1, d.before a0 Z = true) (ws : List Jvm.Cond) (a1 : Addr) (fm : Value) (h0 : Heap) (n0 : Nat) (Z0 : n0 ≤ h0.size) (A1 : own_AV Z h0 a1 .byte (own_is [(60 : Int32), (61 : Int32)])) (hfm : fm.isRef = true) (Sfm : Sta Z h0 "jdk/internal/util/Preconditions" "SIOOBE_FORMATTER" "Ljava/util/function/BiFunction;" fm) :
    MetFree l own_y8 (head1 (Jvm.Cond.code own_y8 jdk_43_method_2_code 2 (some .char) :: ws) ({ frames := 2, cells := 0, slots := 0, locals := 27 } : Room)) (fun a U => a = #[(.ref a1), (.int (0 : Int32))] ∧ Z.Warmed39 U.vm ∧ U.heap = h0) (fun _ _ _ _ _ => True) (fun _ U o U' => ∃ v L, o = .returned v ∧ Qrm_lc60_61 Z a1 fm h0 n0 v U'.heap L ∧ FrameEnd U o U' L ({ frames := 2, cells := 0, slots := 0, locals := 27 } : Room).cells ({ frames := 2, cells := 0, slots := 0, locals := 27 } : Room).slots) := by
  refine MetFree.of_bodySF (plainFor_of_name pn_java_lang_StringLatin1) hisR ?_
  intro p e s m args below meth c s₁ Bd hml0 hP hK
  obtain ⟨rfl, hZ, hh⟩ := hP
  have hx := Bd.exec
  have hby := Bd.bytes
  have hml : c.maxLocals = 2 := hml0
  have hown : s.vm.findClass "java/lang/StringLatin1" = some m.cls := findClass_of_methodNamed Bd.named
  have hnm := (name_of_methodNamed Bd.named Bd.method).1
  have X0 : Stand p l e ({ frames := 2, cells := 0, slots := 0, locals := 27 } : Room) s m #[(.ref a1), (.int (0 : Int32))] below meth c s₁ [] 0 0 := Stand.of_body Bd
  have e0 : s₁.heap = h0 := by rw [← hh, Bd.state]; rfl
  have N0 := Fr.nil n0
  have K0 : Keep h0 h0 [] := Keep.refl _ _
  refine own_start (Qk := Qrm_lc60_61 Z a1 fm h0 n0) (fun G hG => ?_)
  refine own_st (fun _ k => castTop (ef_7_RI m a1 (0 : Int32)) k) ?_
  show own_Fin p e below G (s₁.setTop (mkF m 0 #[rv a1, iv (0 : Int32)] []))
  refine own_st (fun _ k => XS.iloadN X0.here hx rfl (hb hby d7_0) rfl  k) ?_
  show own_Fin p e below G (s₁.setTop (mkF m 1 #[rv a1, iv (0 : Int32)] [(.int (0 : Int32))]))
  refine own_st (fun _ k => XS.aloadN X0.here hx rfl (hb hby d7_1) rfl rfl k) ?_
  show own_Fin p e below G (s₁.setTop (mkF m 2 #[rv a1, iv (0 : Int32)] [(.ref a1), (.int (0 : Int32))]))
  refine own_st (fun _ k => own_len X0 hx hZ e0 A1 (z := (2 : Int32)) rfl (g := (mkF m 2 #[rv a1, iv (0 : Int32)] [(.ref a1), (.int (0 : Int32))])) rfl rfl (hb hby d7_2) k) ?_
  show own_Fin p e below G (s₁.setTop (mkF m 3 #[rv a1, iv (0 : Int32)] [(.int (2 : Int32)), (.int (0 : Int32))]))
  obtain ⟨_, _, ⟨T33, L33, k33, n33⟩, -, X33, ⟨Lc33, hQ33, l33, y33, z33⟩, st33⟩ := Jvm.LawKit.callS X0 hx (y := own_y6) hown (mvT hZ (own_w hw 65 rfl)) (mvT hZ (own_w hw 66 rfl)) (mvT hZ (own_w hw 49 rfl)) (mvT hZ (own_w hw 67 rfl)) (by decide) (backOf (W := 0) (rm_sci l Z a0 hw [] (0 : Int32) (2 : Int32) fm h0 n0 (Nat.le_trans Z0 K0.1) (by decide) (by decide) hfm Sfm) hZ (own_w hw 67 rfl) (own_w hw 49 rfl) (by decide) (by decide)) (g := (mkF m 3 #[rv a1, iv (0 : Int32)] [(.int (2 : Int32)), (.int (0 : Int32))])) rfl (by rw [hml]; rfl) (argsL := [(.int (0 : Int32)), (.int (2 : Int32))]) (rest := []) (lenOf pd__II_V_313 rfl) rfl (by show 2 * 0 + _ ≤ _; exact Nat.le_of_eq rfl) (hb hby d7_3) (fun _ _ => ⟨rfl, e0, (by decide : 0 + 0 ≤ _), (by decide : 0 + 0 ≤ _)⟩)
  dsimp only [Pt.U, Pt.locs, Pt.cells, Pt.slots] at X33 l33 y33 z33 st33 hQ33
  subst l33 y33 z33
  obtain ⟨rfl, N33q, e33⟩ := hQ33
  skip
  have N33 := Fr.app N0 N33q
  refine own_st st33 ?_
  show own_Fin p e below G (T33.setTop (mkF m 6 #[rv a1, iv (0 : Int32)] []))
  refine own_st (fun _ k => XS.aloadN X33.here hx rfl (hb hby d7_6) rfl rfl k) ?_
  show own_Fin p e below G (T33.setTop (mkF m 7 #[rv a1, iv (0 : Int32)] [(.ref a1)]))
  refine own_st (fun _ k => XS.iloadN X33.here hx rfl (hb hby d7_7) rfl  k) ?_
  show own_Fin p e below G (T33.setTop (mkF m 8 #[rv a1, iv (0 : Int32)] [(.int (0 : Int32)), (.ref a1)]))
  refine own_st (fun _ k => own_ldB X33 hx hZ e33 A1 (j := (0 : Int32)) (n := 2) rfl (by decide) (g := (mkF m 8 #[rv a1, iv (0 : Int32)] [(.int (0 : Int32)), (.ref a1)])) rfl rfl (hb hby d7_8) k) ?_
  show own_Fin p e below G (T33.setTop (mkF m 9 #[rv a1, iv (0 : Int32)] [(.int (60 : Int32))]))
  refine own_st (fun _ k => XS.sipush X33.here hx rfl (hb hby d7_9) k) ?_
  show own_Fin p e below G (T33.setTop (mkF m 12 #[rv a1, iv (0 : Int32)] [(.int (255 : Int32)), (.int (60 : Int32))]))
  refine own_st (fun _ k => XS.iand X33.here hx rfl (hb hby d7_12) rfl k) ?_
  show own_Fin p e below G (T33.setTop (mkF m 13 #[rv a1, iv (0 : Int32)] [(.int (60 : Int32))]))
  refine own_st (fun _ k => XS.i2c X33.here hx rfl (hb hby d7_13) rfl k) ?_
  show own_Fin p e below G (T33.setTop (mkF m 14 #[rv a1, iv (0 : Int32)] [(.int (60 : Int32))]))
  refine own_out X33 Bd.notSynchronized (v := (some (.int (60 : Int32)))) (fun h => by rw [Bd.returns] at h; cases h) hG (fun fs hr => retN X33 hx (t := .char) Bd.returns (by simp) (hb hby d7_14) hr) (by decide) (by decide) ?_
  exact ⟨rfl, N33, e33⟩

def Qrm_ca60_61 (Z : State) (a1 : Addr) (a2 : Addr) (cs : Int32) (fm : Value) (h0 : Heap) (n0 : Nat) (v : Option Value) (h : Heap) (L : List Loc) : Prop := v = some (.int (60 : Int32)) ∧ Fr n0 L ∧ h = h0
set_option maxRecDepth 65536 in
set_option maxHeartbeats 40000000 in
theorem rm_ca60_61 (l : Launch) (Z : State) (a0 : Array Value) (hw : ∀ d ∈ tables_1, d.before a0 Z = true) (ws : List Jvm.Cond) (a1 : Addr) (a2 : Addr) (cs : Int32) (fm : Value) (h0 : Heap) (n0 : Nat) (Z0 : n0 ≤ h0.size) (E1 : Exa Z h0 a1 "java/lang/String") (F1 : Fld Z h0 a1 "java/lang/String" "coder" "B" (.int (0 : Int32))) (F2 : Fld Z h0 a1 "java/lang/String" "value" "[B" (.ref a2)) (A2 : own_AV Z h0 a2 .byte (own_is [(60 : Int32), (61 : Int32)])) (Scs : Sta Z h0 "java/lang/String" "COMPACT_STRINGS" "Z" (.int cs)) (hcs : ¬ cs = (0 : Int32)) (hfm : fm.isRef = true) (Sfm : Sta Z h0 "jdk/internal/util/Preconditions" "SIOOBE_FORMATTER" "Ljava/util/function/BiFunction;" fm) :
    MetFree l own_y9 (head1 (Jvm.Cond.code own_y9 jdk_42_method_56_code 2 (some .char) :: ws) ({ frames := 3, cells := 0, slots := 0, locals := 40 } : Room)) (fun a U => a = #[(.ref a1), (.int (0 : Int32))] ∧ Z.Warmed39 U.vm ∧ U.heap = h0) (fun _ _ _ _ _ => True) (fun _ U o U' => ∃ v L, o = .returned v ∧ Qrm_ca60_61 Z a1 a2 cs fm h0 n0 v U'.heap L ∧ FrameEnd U o U' L ({ frames := 3, cells := 0, slots := 0, locals := 40 } : Room).cells ({ frames := 3, cells := 0, slots := 0, locals := 40 } : Room).slots) := by
  refine MetFree.of_bodySF (plainFor_of_name pn_java_lang_String) hisR ?_
  intro p e s m args below meth c s₁ Bd hml0 hP hK
  obtain ⟨rfl, hZ, hh⟩ := hP
  have hx := Bd.exec
  have hby := Bd.bytes
  have hml : c.maxLocals = 2 := hml0
  have hown : s.vm.findClass "java/lang/String" = some m.cls := findClass_of_methodNamed Bd.named
  have hnm := (name_of_methodNamed Bd.named Bd.method).1
  have X0 : Stand p l e ({ frames := 3, cells := 0, slots := 0, locals := 40 } : Room) s m #[(.ref a1), (.int (0 : Int32))] below meth c s₁ [] 0 0 := Stand.of_body Bd
  have e0 : s₁.heap = h0 := by rw [← hh, Bd.state]; rfl
  have N0 := Fr.nil n0
  have K0 : Keep h0 h0 [] := Keep.refl _ _
  refine own_start (Qk := Qrm_ca60_61 Z a1 a2 cs fm h0 n0) (fun G hG => ?_)
  refine own_st (fun _ k => castTop (ef_5_RI m a1 (0 : Int32)) k) ?_
  show own_Fin p e below G (s₁.setTop (mkF m 0 #[rv a1, iv (0 : Int32)] []))
  refine own_st (fun _ k => XS.aloadN X0.here hx rfl (hb hby d5_0) rfl rfl k) ?_
  show own_Fin p e below G (s₁.setTop (mkF m 1 #[rv a1, iv (0 : Int32)] [(.ref a1)]))
  obtain ⟨cq34, kq34, q34a, q34b, q34c⟩ := isOf hZ e0 E1
  obtain ⟨_, _, ⟨T34, L34, k34, n34⟩, -, X34, ⟨Lc34, hQ34, l34, y34, z34⟩, st34⟩ := X0.virtualBack hx (y := own_y7) (z := own_y7) hown (mvT hZ (own_w hw 51 rfl)) (mvT hZ (own_w hw 52 rfl)) (notFace_of_selects (args := #[]) (mvT hZ (own_w hw 54 rfl))) (mvT hZ (own_w hw 54 rfl)) (mvT hZ (own_w hw 53 rfl)) (by decide) (backOf (W := 0) (rm_lat l Z a0 hw [] a1 cs h0 n0 (Nat.le_trans Z0 K0.1) Scs hcs F1) hZ (own_w hw 55 rfl) (own_w hw 49 rfl) (by decide) (by decide)) q34a q34c (g := (mkF m 1 #[rv a1, iv (0 : Int32)] [(.ref a1)])) rfl (by rw [hml]; rfl) (Steps.refl _) (argsL := []) (rest := []) (lenOf pd___Z_171 rfl) rfl (by show 2 * 0 + _ ≤ _; exact Nat.le_of_eq rfl) (hb hby d5_1) (fun _ _ => ⟨rfl, e0, (by decide : 0 + 0 ≤ _), (by decide : 0 + 0 ≤ _)⟩)
  dsimp only [Pt.U, Pt.locs, Pt.cells, Pt.slots] at X34 l34 y34 z34 st34 hQ34
  subst l34 y34 z34
  obtain ⟨rfl, N34q, e34⟩ := hQ34
  skip
  have N34 := Fr.app N0 N34q
  refine own_tr st34 ?_
  show own_Fin p e below G (T34.setTop (mkF m 4 #[rv a1, iv (0 : Int32)] [(.int (1 : Int32))]))
  refine own_st (fun _ k => XS.ifNo X34.here hx rfl (hb hby d5_4) rfl ((if0 _ _).trans (feq (by decide : ¬ ((1 : Int32) = (0 : Int32)))).1) k) ?_
  show own_Fin p e below G (T34.setTop (mkF m 7 #[rv a1, iv (0 : Int32)] []))
  refine own_st (fun _ k => XS.aloadN X34.here hx rfl (hb hby d5_7) rfl rfl k) ?_
  show own_Fin p e below G (T34.setTop (mkF m 8 #[rv a1, iv (0 : Int32)] [(.ref a1)]))
  obtain ⟨T35, X35, e35, st35⟩ := getF X34 hx hZ hown (host := "") (Or.inl (own_w hw 59 rfl)) Via.refl e34 F2 (g := (mkF m 8 #[rv a1, iv (0 : Int32)] [(.ref a1)])) rfl rfl (hb hby d5_8)
  refine own_st st35 ?_
  show own_Fin p e below G (T35.setTop (mkF m 11 #[rv a1, iv (0 : Int32)] [(.ref a2)]))
  refine own_st (fun _ k => XS.iloadN X35.here hx rfl (hb hby d5_11) rfl  k) ?_
  show own_Fin p e below G (T35.setTop (mkF m 12 #[rv a1, iv (0 : Int32)] [(.int (0 : Int32)), (.ref a2)]))
  obtain ⟨_, _, ⟨T36, L36, k36, n36⟩, -, X36, ⟨Lc36, hQ36, l36, y36, z36⟩, st36⟩ := Jvm.LawKit.callS X35 hx (y := own_y8) hown (mvT hZ (own_w hw 61 rfl)) (mvT hZ (own_w hw 62 rfl)) (mvT hZ (own_w hw 63 rfl)) (mvT hZ (own_w hw 64 rfl)) (by decide) (backOf (W := 0) (rm_lc60_61 l Z a0 hw [] a2 fm h0 n0 (Nat.le_trans Z0 K0.1) A2 hfm Sfm) hZ (own_w hw 64 rfl) (own_w hw 63 rfl) (by decide) (by decide)) (g := (mkF m 12 #[rv a1, iv (0 : Int32)] [(.int (0 : Int32)), (.ref a2)])) rfl (by rw [hml]; rfl) (argsL := [(.ref a2), (.int (0 : Int32))]) (rest := []) (lenOf pd___BI_C_378 rfl) rfl (by show 2 * 0 + _ ≤ _; exact Nat.le_of_eq rfl) (hb hby d5_12) (fun _ _ => ⟨rfl, e35, (by decide : 0 + 0 ≤ _), (by decide : 0 + 0 ≤ _)⟩)
  dsimp only [Pt.U, Pt.locs, Pt.cells, Pt.slots] at X36 l36 y36 z36 st36 hQ36
  subst l36 y36 z36
  obtain ⟨rfl, N36q, e36⟩ := hQ36
  skip
  have N36 := Fr.app N34 N36q
  refine own_st st36 ?_
  show own_Fin p e below G (T36.setTop (mkF m 15 #[rv a1, iv (0 : Int32)] [(.int (60 : Int32))]))
  refine own_out X36 Bd.notSynchronized (v := (some (.int (60 : Int32)))) (fun h => by rw [Bd.returns] at h; cases h) hG (fun fs hr => retN X36 hx (t := .char) Bd.returns (by simp) (hb hby d5_15) hr) (by decide) (by decide) ?_
  exact ⟨rfl, N36, e36⟩

def Qrm_lc62_61 (Z : State) (a1 : Addr) (fm : Value) (h0 : Heap) (n0 : Nat) (v : Option Value) (h : Heap) (L : List Loc) : Prop := v = some (.int (62 : Int32)) ∧ Fr n0 L ∧ h = h0
set_option maxRecDepth 65536 in
set_option maxHeartbeats 40000000 in
theorem rm_lc62_61 (l : Launch) (Z : State) (a0 : Array Value) (hw : ∀ d ∈ tables_1, d.before a0 Z = true) (ws : List Jvm.Cond) (a1 : Addr) (fm : Value) (h0 : Heap) (n0 : Nat) (Z0 : n0 ≤ h0.size) (A1 : own_AV Z h0 a1 .byte (own_is [(62 : Int32), (61 : Int32)])) (hfm : fm.isRef = true) (Sfm : Sta Z h0 "jdk/internal/util/Preconditions" "SIOOBE_FORMATTER" "Ljava/util/function/BiFunction;" fm) :
    MetFree l own_y8 (head1 (Jvm.Cond.code own_y8 jdk_43_method_2_code 2 (some .char) :: ws) ({ frames := 2, cells := 0, slots := 0, locals := 27 } : Room)) (fun a U => a = #[(.ref a1), (.int (0 : Int32))] ∧ Z.Warmed39 U.vm ∧ U.heap = h0) (fun _ _ _ _ _ => True) (fun _ U o U' => ∃ v L, o = .returned v ∧ Qrm_lc62_61 Z a1 fm h0 n0 v U'.heap L ∧ FrameEnd U o U' L ({ frames := 2, cells := 0, slots := 0, locals := 27 } : Room).cells ({ frames := 2, cells := 0, slots := 0, locals := 27 } : Room).slots) := by
  refine MetFree.of_bodySF (plainFor_of_name pn_java_lang_StringLatin1) hisR ?_
  intro p e s m args below meth c s₁ Bd hml0 hP hK
  obtain ⟨rfl, hZ, hh⟩ := hP
  have hx := Bd.exec
  have hby := Bd.bytes
  have hml : c.maxLocals = 2 := hml0
  have hown : s.vm.findClass "java/lang/StringLatin1" = some m.cls := findClass_of_methodNamed Bd.named
  have hnm := (name_of_methodNamed Bd.named Bd.method).1
  have X0 : Stand p l e ({ frames := 2, cells := 0, slots := 0, locals := 27 } : Room) s m #[(.ref a1), (.int (0 : Int32))] below meth c s₁ [] 0 0 := Stand.of_body Bd
  have e0 : s₁.heap = h0 := by rw [← hh, Bd.state]; rfl
  have N0 := Fr.nil n0
  have K0 : Keep h0 h0 [] := Keep.refl _ _
  refine own_start (Qk := Qrm_lc62_61 Z a1 fm h0 n0) (fun G hG => ?_)
  refine own_st (fun _ k => castTop (ef_7_RI m a1 (0 : Int32)) k) ?_
  show own_Fin p e below G (s₁.setTop (mkF m 0 #[rv a1, iv (0 : Int32)] []))
  refine own_st (fun _ k => XS.iloadN X0.here hx rfl (hb hby d7_0) rfl  k) ?_
  show own_Fin p e below G (s₁.setTop (mkF m 1 #[rv a1, iv (0 : Int32)] [(.int (0 : Int32))]))
  refine own_st (fun _ k => XS.aloadN X0.here hx rfl (hb hby d7_1) rfl rfl k) ?_
  show own_Fin p e below G (s₁.setTop (mkF m 2 #[rv a1, iv (0 : Int32)] [(.ref a1), (.int (0 : Int32))]))
  refine own_st (fun _ k => own_len X0 hx hZ e0 A1 (z := (2 : Int32)) rfl (g := (mkF m 2 #[rv a1, iv (0 : Int32)] [(.ref a1), (.int (0 : Int32))])) rfl rfl (hb hby d7_2) k) ?_
  show own_Fin p e below G (s₁.setTop (mkF m 3 #[rv a1, iv (0 : Int32)] [(.int (2 : Int32)), (.int (0 : Int32))]))
  obtain ⟨_, _, ⟨T37, L37, k37, n37⟩, -, X37, ⟨Lc37, hQ37, l37, y37, z37⟩, st37⟩ := Jvm.LawKit.callS X0 hx (y := own_y6) hown (mvT hZ (own_w hw 65 rfl)) (mvT hZ (own_w hw 66 rfl)) (mvT hZ (own_w hw 49 rfl)) (mvT hZ (own_w hw 67 rfl)) (by decide) (backOf (W := 0) (rm_sci l Z a0 hw [] (0 : Int32) (2 : Int32) fm h0 n0 (Nat.le_trans Z0 K0.1) (by decide) (by decide) hfm Sfm) hZ (own_w hw 67 rfl) (own_w hw 49 rfl) (by decide) (by decide)) (g := (mkF m 3 #[rv a1, iv (0 : Int32)] [(.int (2 : Int32)), (.int (0 : Int32))])) rfl (by rw [hml]; rfl) (argsL := [(.int (0 : Int32)), (.int (2 : Int32))]) (rest := []) (lenOf pd__II_V_313 rfl) rfl (by show 2 * 0 + _ ≤ _; exact Nat.le_of_eq rfl) (hb hby d7_3) (fun _ _ => ⟨rfl, e0, (by decide : 0 + 0 ≤ _), (by decide : 0 + 0 ≤ _)⟩)
  dsimp only [Pt.U, Pt.locs, Pt.cells, Pt.slots] at X37 l37 y37 z37 st37 hQ37
  subst l37 y37 z37
  obtain ⟨rfl, N37q, e37⟩ := hQ37
  skip
  have N37 := Fr.app N0 N37q
  refine own_st st37 ?_
  show own_Fin p e below G (T37.setTop (mkF m 6 #[rv a1, iv (0 : Int32)] []))
  refine own_st (fun _ k => XS.aloadN X37.here hx rfl (hb hby d7_6) rfl rfl k) ?_
  show own_Fin p e below G (T37.setTop (mkF m 7 #[rv a1, iv (0 : Int32)] [(.ref a1)]))
  refine own_st (fun _ k => XS.iloadN X37.here hx rfl (hb hby d7_7) rfl  k) ?_
  show own_Fin p e below G (T37.setTop (mkF m 8 #[rv a1, iv (0 : Int32)] [(.int (0 : Int32)), (.ref a1)]))
  refine own_st (fun _ k => own_ldB X37 hx hZ e37 A1 (j := (0 : Int32)) (n := 2) rfl (by decide) (g := (mkF m 8 #[rv a1, iv (0 : Int32)] [(.int (0 : Int32)), (.ref a1)])) rfl rfl (hb hby d7_8) k) ?_
  show own_Fin p e below G (T37.setTop (mkF m 9 #[rv a1, iv (0 : Int32)] [(.int (62 : Int32))]))
  refine own_st (fun _ k => XS.sipush X37.here hx rfl (hb hby d7_9) k) ?_
  show own_Fin p e below G (T37.setTop (mkF m 12 #[rv a1, iv (0 : Int32)] [(.int (255 : Int32)), (.int (62 : Int32))]))
  refine own_st (fun _ k => XS.iand X37.here hx rfl (hb hby d7_12) rfl k) ?_
  show own_Fin p e below G (T37.setTop (mkF m 13 #[rv a1, iv (0 : Int32)] [(.int (62 : Int32))]))
  refine own_st (fun _ k => XS.i2c X37.here hx rfl (hb hby d7_13) rfl k) ?_
  show own_Fin p e below G (T37.setTop (mkF m 14 #[rv a1, iv (0 : Int32)] [(.int (62 : Int32))]))
  refine own_out X37 Bd.notSynchronized (v := (some (.int (62 : Int32)))) (fun h => by rw [Bd.returns] at h; cases h) hG (fun fs hr => retN X37 hx (t := .char) Bd.returns (by simp) (hb hby d7_14) hr) (by decide) (by decide) ?_
  exact ⟨rfl, N37, e37⟩

def Qrm_ca62_61 (Z : State) (a1 : Addr) (a2 : Addr) (cs : Int32) (fm : Value) (h0 : Heap) (n0 : Nat) (v : Option Value) (h : Heap) (L : List Loc) : Prop := v = some (.int (62 : Int32)) ∧ Fr n0 L ∧ h = h0
set_option maxRecDepth 65536 in
set_option maxHeartbeats 40000000 in
theorem rm_ca62_61 (l : Launch) (Z : State) (a0 : Array Value) (hw : ∀ d ∈ tables_1, d.before a0 Z = true) (ws : List Jvm.Cond) (a1 : Addr) (a2 : Addr) (cs : Int32) (fm : Value) (h0 : Heap) (n0 : Nat) (Z0 : n0 ≤ h0.size) (E1 : Exa Z h0 a1 "java/lang/String") (F1 : Fld Z h0 a1 "java/lang/String" "coder" "B" (.int (0 : Int32))) (F2 : Fld Z h0 a1 "java/lang/String" "value" "[B" (.ref a2)) (A2 : own_AV Z h0 a2 .byte (own_is [(62 : Int32), (61 : Int32)])) (Scs : Sta Z h0 "java/lang/String" "COMPACT_STRINGS" "Z" (.int cs)) (hcs : ¬ cs = (0 : Int32)) (hfm : fm.isRef = true) (Sfm : Sta Z h0 "jdk/internal/util/Preconditions" "SIOOBE_FORMATTER" "Ljava/util/function/BiFunction;" fm) :
    MetFree l own_y9 (head1 (Jvm.Cond.code own_y9 jdk_42_method_56_code 2 (some .char) :: ws) ({ frames := 3, cells := 0, slots := 0, locals := 40 } : Room)) (fun a U => a = #[(.ref a1), (.int (0 : Int32))] ∧ Z.Warmed39 U.vm ∧ U.heap = h0) (fun _ _ _ _ _ => True) (fun _ U o U' => ∃ v L, o = .returned v ∧ Qrm_ca62_61 Z a1 a2 cs fm h0 n0 v U'.heap L ∧ FrameEnd U o U' L ({ frames := 3, cells := 0, slots := 0, locals := 40 } : Room).cells ({ frames := 3, cells := 0, slots := 0, locals := 40 } : Room).slots) := by
  refine MetFree.of_bodySF (plainFor_of_name pn_java_lang_String) hisR ?_
  intro p e s m args below meth c s₁ Bd hml0 hP hK
  obtain ⟨rfl, hZ, hh⟩ := hP
  have hx := Bd.exec
  have hby := Bd.bytes
  have hml : c.maxLocals = 2 := hml0
  have hown : s.vm.findClass "java/lang/String" = some m.cls := findClass_of_methodNamed Bd.named
  have hnm := (name_of_methodNamed Bd.named Bd.method).1
  have X0 : Stand p l e ({ frames := 3, cells := 0, slots := 0, locals := 40 } : Room) s m #[(.ref a1), (.int (0 : Int32))] below meth c s₁ [] 0 0 := Stand.of_body Bd
  have e0 : s₁.heap = h0 := by rw [← hh, Bd.state]; rfl
  have N0 := Fr.nil n0
  have K0 : Keep h0 h0 [] := Keep.refl _ _
  refine own_start (Qk := Qrm_ca62_61 Z a1 a2 cs fm h0 n0) (fun G hG => ?_)
  refine own_st (fun _ k => castTop (ef_5_RI m a1 (0 : Int32)) k) ?_
  show own_Fin p e below G (s₁.setTop (mkF m 0 #[rv a1, iv (0 : Int32)] []))
  refine own_st (fun _ k => XS.aloadN X0.here hx rfl (hb hby d5_0) rfl rfl k) ?_
  show own_Fin p e below G (s₁.setTop (mkF m 1 #[rv a1, iv (0 : Int32)] [(.ref a1)]))
  obtain ⟨cq38, kq38, q38a, q38b, q38c⟩ := isOf hZ e0 E1
  obtain ⟨_, _, ⟨T38, L38, k38, n38⟩, -, X38, ⟨Lc38, hQ38, l38, y38, z38⟩, st38⟩ := X0.virtualBack hx (y := own_y7) (z := own_y7) hown (mvT hZ (own_w hw 51 rfl)) (mvT hZ (own_w hw 52 rfl)) (notFace_of_selects (args := #[]) (mvT hZ (own_w hw 54 rfl))) (mvT hZ (own_w hw 54 rfl)) (mvT hZ (own_w hw 53 rfl)) (by decide) (backOf (W := 0) (rm_lat l Z a0 hw [] a1 cs h0 n0 (Nat.le_trans Z0 K0.1) Scs hcs F1) hZ (own_w hw 55 rfl) (own_w hw 49 rfl) (by decide) (by decide)) q38a q38c (g := (mkF m 1 #[rv a1, iv (0 : Int32)] [(.ref a1)])) rfl (by rw [hml]; rfl) (Steps.refl _) (argsL := []) (rest := []) (lenOf pd___Z_171 rfl) rfl (by show 2 * 0 + _ ≤ _; exact Nat.le_of_eq rfl) (hb hby d5_1) (fun _ _ => ⟨rfl, e0, (by decide : 0 + 0 ≤ _), (by decide : 0 + 0 ≤ _)⟩)
  dsimp only [Pt.U, Pt.locs, Pt.cells, Pt.slots] at X38 l38 y38 z38 st38 hQ38
  subst l38 y38 z38
  obtain ⟨rfl, N38q, e38⟩ := hQ38
  skip
  have N38 := Fr.app N0 N38q
  refine own_tr st38 ?_
  show own_Fin p e below G (T38.setTop (mkF m 4 #[rv a1, iv (0 : Int32)] [(.int (1 : Int32))]))
  refine own_st (fun _ k => XS.ifNo X38.here hx rfl (hb hby d5_4) rfl ((if0 _ _).trans (feq (by decide : ¬ ((1 : Int32) = (0 : Int32)))).1) k) ?_
  show own_Fin p e below G (T38.setTop (mkF m 7 #[rv a1, iv (0 : Int32)] []))
  refine own_st (fun _ k => XS.aloadN X38.here hx rfl (hb hby d5_7) rfl rfl k) ?_
  show own_Fin p e below G (T38.setTop (mkF m 8 #[rv a1, iv (0 : Int32)] [(.ref a1)]))
  obtain ⟨T39, X39, e39, st39⟩ := getF X38 hx hZ hown (host := "") (Or.inl (own_w hw 59 rfl)) Via.refl e38 F2 (g := (mkF m 8 #[rv a1, iv (0 : Int32)] [(.ref a1)])) rfl rfl (hb hby d5_8)
  refine own_st st39 ?_
  show own_Fin p e below G (T39.setTop (mkF m 11 #[rv a1, iv (0 : Int32)] [(.ref a2)]))
  refine own_st (fun _ k => XS.iloadN X39.here hx rfl (hb hby d5_11) rfl  k) ?_
  show own_Fin p e below G (T39.setTop (mkF m 12 #[rv a1, iv (0 : Int32)] [(.int (0 : Int32)), (.ref a2)]))
  obtain ⟨_, _, ⟨T40, L40, k40, n40⟩, -, X40, ⟨Lc40, hQ40, l40, y40, z40⟩, st40⟩ := Jvm.LawKit.callS X39 hx (y := own_y8) hown (mvT hZ (own_w hw 61 rfl)) (mvT hZ (own_w hw 62 rfl)) (mvT hZ (own_w hw 63 rfl)) (mvT hZ (own_w hw 64 rfl)) (by decide) (backOf (W := 0) (rm_lc62_61 l Z a0 hw [] a2 fm h0 n0 (Nat.le_trans Z0 K0.1) A2 hfm Sfm) hZ (own_w hw 64 rfl) (own_w hw 63 rfl) (by decide) (by decide)) (g := (mkF m 12 #[rv a1, iv (0 : Int32)] [(.int (0 : Int32)), (.ref a2)])) rfl (by rw [hml]; rfl) (argsL := [(.ref a2), (.int (0 : Int32))]) (rest := []) (lenOf pd___BI_C_378 rfl) rfl (by show 2 * 0 + _ ≤ _; exact Nat.le_of_eq rfl) (hb hby d5_12) (fun _ _ => ⟨rfl, e39, (by decide : 0 + 0 ≤ _), (by decide : 0 + 0 ≤ _)⟩)
  dsimp only [Pt.U, Pt.locs, Pt.cells, Pt.slots] at X40 l40 y40 z40 st40 hQ40
  subst l40 y40 z40
  obtain ⟨rfl, N40q, e40⟩ := hQ40
  skip
  have N40 := Fr.app N38 N40q
  refine own_st st40 ?_
  show own_Fin p e below G (T40.setTop (mkF m 15 #[rv a1, iv (0 : Int32)] [(.int (62 : Int32))]))
  refine own_out X40 Bd.notSynchronized (v := (some (.int (62 : Int32)))) (fun h => by rw [Bd.returns] at h; cases h) hG (fun fs hr => retN X40 hx (t := .char) Bd.returns (by simp) (hb hby d5_15) hr) (by decide) (by decide) ?_
  exact ⟨rfl, N40, e40⟩

def Qrm_lc60 (Z : State) (a1 : Addr) (fm : Value) (h0 : Heap) (n0 : Nat) (v : Option Value) (h : Heap) (L : List Loc) : Prop := v = some (.int (60 : Int32)) ∧ Fr n0 L ∧ h = h0
set_option maxRecDepth 65536 in
set_option maxHeartbeats 40000000 in
theorem rm_lc60 (l : Launch) (Z : State) (a0 : Array Value) (hw : ∀ d ∈ tables_1, d.before a0 Z = true) (ws : List Jvm.Cond) (a1 : Addr) (fm : Value) (h0 : Heap) (n0 : Nat) (Z0 : n0 ≤ h0.size) (A1 : own_AV Z h0 a1 .byte (own_is [(60 : Int32)])) (hfm : fm.isRef = true) (Sfm : Sta Z h0 "jdk/internal/util/Preconditions" "SIOOBE_FORMATTER" "Ljava/util/function/BiFunction;" fm) :
    MetFree l own_y8 (head1 (Jvm.Cond.code own_y8 jdk_43_method_2_code 2 (some .char) :: ws) ({ frames := 2, cells := 0, slots := 0, locals := 27 } : Room)) (fun a U => a = #[(.ref a1), (.int (0 : Int32))] ∧ Z.Warmed39 U.vm ∧ U.heap = h0) (fun _ _ _ _ _ => True) (fun _ U o U' => ∃ v L, o = .returned v ∧ Qrm_lc60 Z a1 fm h0 n0 v U'.heap L ∧ FrameEnd U o U' L ({ frames := 2, cells := 0, slots := 0, locals := 27 } : Room).cells ({ frames := 2, cells := 0, slots := 0, locals := 27 } : Room).slots) := by
  refine MetFree.of_bodySF (plainFor_of_name pn_java_lang_StringLatin1) hisR ?_
  intro p e s m args below meth c s₁ Bd hml0 hP hK
  obtain ⟨rfl, hZ, hh⟩ := hP
  have hx := Bd.exec
  have hby := Bd.bytes
  have hml : c.maxLocals = 2 := hml0
  have hown : s.vm.findClass "java/lang/StringLatin1" = some m.cls := findClass_of_methodNamed Bd.named
  have hnm := (name_of_methodNamed Bd.named Bd.method).1
  have X0 : Stand p l e ({ frames := 2, cells := 0, slots := 0, locals := 27 } : Room) s m #[(.ref a1), (.int (0 : Int32))] below meth c s₁ [] 0 0 := Stand.of_body Bd
  have e0 : s₁.heap = h0 := by rw [← hh, Bd.state]; rfl
  have N0 := Fr.nil n0
  have K0 : Keep h0 h0 [] := Keep.refl _ _
  refine own_start (Qk := Qrm_lc60 Z a1 fm h0 n0) (fun G hG => ?_)
  refine own_st (fun _ k => castTop (ef_7_RI m a1 (0 : Int32)) k) ?_
  show own_Fin p e below G (s₁.setTop (mkF m 0 #[rv a1, iv (0 : Int32)] []))
  refine own_st (fun _ k => XS.iloadN X0.here hx rfl (hb hby d7_0) rfl  k) ?_
  show own_Fin p e below G (s₁.setTop (mkF m 1 #[rv a1, iv (0 : Int32)] [(.int (0 : Int32))]))
  refine own_st (fun _ k => XS.aloadN X0.here hx rfl (hb hby d7_1) rfl rfl k) ?_
  show own_Fin p e below G (s₁.setTop (mkF m 2 #[rv a1, iv (0 : Int32)] [(.ref a1), (.int (0 : Int32))]))
  refine own_st (fun _ k => own_len X0 hx hZ e0 A1 (z := (1 : Int32)) rfl (g := (mkF m 2 #[rv a1, iv (0 : Int32)] [(.ref a1), (.int (0 : Int32))])) rfl rfl (hb hby d7_2) k) ?_
  show own_Fin p e below G (s₁.setTop (mkF m 3 #[rv a1, iv (0 : Int32)] [(.int (1 : Int32)), (.int (0 : Int32))]))
  obtain ⟨_, _, ⟨T41, L41, k41, n41⟩, -, X41, ⟨Lc41, hQ41, l41, y41, z41⟩, st41⟩ := Jvm.LawKit.callS X0 hx (y := own_y6) hown (mvT hZ (own_w hw 65 rfl)) (mvT hZ (own_w hw 66 rfl)) (mvT hZ (own_w hw 49 rfl)) (mvT hZ (own_w hw 67 rfl)) (by decide) (backOf (W := 0) (rm_sci l Z a0 hw [] (0 : Int32) (1 : Int32) fm h0 n0 (Nat.le_trans Z0 K0.1) (by decide) (by decide) hfm Sfm) hZ (own_w hw 67 rfl) (own_w hw 49 rfl) (by decide) (by decide)) (g := (mkF m 3 #[rv a1, iv (0 : Int32)] [(.int (1 : Int32)), (.int (0 : Int32))])) rfl (by rw [hml]; rfl) (argsL := [(.int (0 : Int32)), (.int (1 : Int32))]) (rest := []) (lenOf pd__II_V_313 rfl) rfl (by show 2 * 0 + _ ≤ _; exact Nat.le_of_eq rfl) (hb hby d7_3) (fun _ _ => ⟨rfl, e0, (by decide : 0 + 0 ≤ _), (by decide : 0 + 0 ≤ _)⟩)
  dsimp only [Pt.U, Pt.locs, Pt.cells, Pt.slots] at X41 l41 y41 z41 st41 hQ41
  subst l41 y41 z41
  obtain ⟨rfl, N41q, e41⟩ := hQ41
  skip
  have N41 := Fr.app N0 N41q
  refine own_st st41 ?_
  show own_Fin p e below G (T41.setTop (mkF m 6 #[rv a1, iv (0 : Int32)] []))
  refine own_st (fun _ k => XS.aloadN X41.here hx rfl (hb hby d7_6) rfl rfl k) ?_
  show own_Fin p e below G (T41.setTop (mkF m 7 #[rv a1, iv (0 : Int32)] [(.ref a1)]))
  refine own_st (fun _ k => XS.iloadN X41.here hx rfl (hb hby d7_7) rfl  k) ?_
  show own_Fin p e below G (T41.setTop (mkF m 8 #[rv a1, iv (0 : Int32)] [(.int (0 : Int32)), (.ref a1)]))
  refine own_st (fun _ k => own_ldB X41 hx hZ e41 A1 (j := (0 : Int32)) (n := 1) rfl (by decide) (g := (mkF m 8 #[rv a1, iv (0 : Int32)] [(.int (0 : Int32)), (.ref a1)])) rfl rfl (hb hby d7_8) k) ?_
  show own_Fin p e below G (T41.setTop (mkF m 9 #[rv a1, iv (0 : Int32)] [(.int (60 : Int32))]))
  refine own_st (fun _ k => XS.sipush X41.here hx rfl (hb hby d7_9) k) ?_
  show own_Fin p e below G (T41.setTop (mkF m 12 #[rv a1, iv (0 : Int32)] [(.int (255 : Int32)), (.int (60 : Int32))]))
  refine own_st (fun _ k => XS.iand X41.here hx rfl (hb hby d7_12) rfl k) ?_
  show own_Fin p e below G (T41.setTop (mkF m 13 #[rv a1, iv (0 : Int32)] [(.int (60 : Int32))]))
  refine own_st (fun _ k => XS.i2c X41.here hx rfl (hb hby d7_13) rfl k) ?_
  show own_Fin p e below G (T41.setTop (mkF m 14 #[rv a1, iv (0 : Int32)] [(.int (60 : Int32))]))
  refine own_out X41 Bd.notSynchronized (v := (some (.int (60 : Int32)))) (fun h => by rw [Bd.returns] at h; cases h) hG (fun fs hr => retN X41 hx (t := .char) Bd.returns (by simp) (hb hby d7_14) hr) (by decide) (by decide) ?_
  exact ⟨rfl, N41, e41⟩

def Qrm_ca60 (Z : State) (a1 : Addr) (a2 : Addr) (cs : Int32) (fm : Value) (h0 : Heap) (n0 : Nat) (v : Option Value) (h : Heap) (L : List Loc) : Prop := v = some (.int (60 : Int32)) ∧ Fr n0 L ∧ h = h0
set_option maxRecDepth 65536 in
set_option maxHeartbeats 40000000 in
theorem rm_ca60 (l : Launch) (Z : State) (a0 : Array Value) (hw : ∀ d ∈ tables_1, d.before a0 Z = true) (ws : List Jvm.Cond) (a1 : Addr) (a2 : Addr) (cs : Int32) (fm : Value) (h0 : Heap) (n0 : Nat) (Z0 : n0 ≤ h0.size) (E1 : Exa Z h0 a1 "java/lang/String") (F1 : Fld Z h0 a1 "java/lang/String" "coder" "B" (.int (0 : Int32))) (F2 : Fld Z h0 a1 "java/lang/String" "value" "[B" (.ref a2)) (A2 : own_AV Z h0 a2 .byte (own_is [(60 : Int32)])) (Scs : Sta Z h0 "java/lang/String" "COMPACT_STRINGS" "Z" (.int cs)) (hcs : ¬ cs = (0 : Int32)) (hfm : fm.isRef = true) (Sfm : Sta Z h0 "jdk/internal/util/Preconditions" "SIOOBE_FORMATTER" "Ljava/util/function/BiFunction;" fm) :
    MetFree l own_y9 (head1 (Jvm.Cond.code own_y9 jdk_42_method_56_code 2 (some .char) :: ws) ({ frames := 3, cells := 0, slots := 0, locals := 40 } : Room)) (fun a U => a = #[(.ref a1), (.int (0 : Int32))] ∧ Z.Warmed39 U.vm ∧ U.heap = h0) (fun _ _ _ _ _ => True) (fun _ U o U' => ∃ v L, o = .returned v ∧ Qrm_ca60 Z a1 a2 cs fm h0 n0 v U'.heap L ∧ FrameEnd U o U' L ({ frames := 3, cells := 0, slots := 0, locals := 40 } : Room).cells ({ frames := 3, cells := 0, slots := 0, locals := 40 } : Room).slots) := by
  refine MetFree.of_bodySF (plainFor_of_name pn_java_lang_String) hisR ?_
  intro p e s m args below meth c s₁ Bd hml0 hP hK
  obtain ⟨rfl, hZ, hh⟩ := hP
  have hx := Bd.exec
  have hby := Bd.bytes
  have hml : c.maxLocals = 2 := hml0
  have hown : s.vm.findClass "java/lang/String" = some m.cls := findClass_of_methodNamed Bd.named
  have hnm := (name_of_methodNamed Bd.named Bd.method).1
  have X0 : Stand p l e ({ frames := 3, cells := 0, slots := 0, locals := 40 } : Room) s m #[(.ref a1), (.int (0 : Int32))] below meth c s₁ [] 0 0 := Stand.of_body Bd
  have e0 : s₁.heap = h0 := by rw [← hh, Bd.state]; rfl
  have N0 := Fr.nil n0
  have K0 : Keep h0 h0 [] := Keep.refl _ _
  refine own_start (Qk := Qrm_ca60 Z a1 a2 cs fm h0 n0) (fun G hG => ?_)
  refine own_st (fun _ k => castTop (ef_5_RI m a1 (0 : Int32)) k) ?_
  show own_Fin p e below G (s₁.setTop (mkF m 0 #[rv a1, iv (0 : Int32)] []))
  refine own_st (fun _ k => XS.aloadN X0.here hx rfl (hb hby d5_0) rfl rfl k) ?_
  show own_Fin p e below G (s₁.setTop (mkF m 1 #[rv a1, iv (0 : Int32)] [(.ref a1)]))
  obtain ⟨cq42, kq42, q42a, q42b, q42c⟩ := isOf hZ e0 E1
  obtain ⟨_, _, ⟨T42, L42, k42, n42⟩, -, X42, ⟨Lc42, hQ42, l42, y42, z42⟩, st42⟩ := X0.virtualBack hx (y := own_y7) (z := own_y7) hown (mvT hZ (own_w hw 51 rfl)) (mvT hZ (own_w hw 52 rfl)) (notFace_of_selects (args := #[]) (mvT hZ (own_w hw 54 rfl))) (mvT hZ (own_w hw 54 rfl)) (mvT hZ (own_w hw 53 rfl)) (by decide) (backOf (W := 0) (rm_lat l Z a0 hw [] a1 cs h0 n0 (Nat.le_trans Z0 K0.1) Scs hcs F1) hZ (own_w hw 55 rfl) (own_w hw 49 rfl) (by decide) (by decide)) q42a q42c (g := (mkF m 1 #[rv a1, iv (0 : Int32)] [(.ref a1)])) rfl (by rw [hml]; rfl) (Steps.refl _) (argsL := []) (rest := []) (lenOf pd___Z_171 rfl) rfl (by show 2 * 0 + _ ≤ _; exact Nat.le_of_eq rfl) (hb hby d5_1) (fun _ _ => ⟨rfl, e0, (by decide : 0 + 0 ≤ _), (by decide : 0 + 0 ≤ _)⟩)
  dsimp only [Pt.U, Pt.locs, Pt.cells, Pt.slots] at X42 l42 y42 z42 st42 hQ42
  subst l42 y42 z42
  obtain ⟨rfl, N42q, e42⟩ := hQ42
  skip
  have N42 := Fr.app N0 N42q
  refine own_tr st42 ?_
  show own_Fin p e below G (T42.setTop (mkF m 4 #[rv a1, iv (0 : Int32)] [(.int (1 : Int32))]))
  refine own_st (fun _ k => XS.ifNo X42.here hx rfl (hb hby d5_4) rfl ((if0 _ _).trans (feq (by decide : ¬ ((1 : Int32) = (0 : Int32)))).1) k) ?_
  show own_Fin p e below G (T42.setTop (mkF m 7 #[rv a1, iv (0 : Int32)] []))
  refine own_st (fun _ k => XS.aloadN X42.here hx rfl (hb hby d5_7) rfl rfl k) ?_
  show own_Fin p e below G (T42.setTop (mkF m 8 #[rv a1, iv (0 : Int32)] [(.ref a1)]))
  obtain ⟨T43, X43, e43, st43⟩ := getF X42 hx hZ hown (host := "") (Or.inl (own_w hw 59 rfl)) Via.refl e42 F2 (g := (mkF m 8 #[rv a1, iv (0 : Int32)] [(.ref a1)])) rfl rfl (hb hby d5_8)
  refine own_st st43 ?_
  show own_Fin p e below G (T43.setTop (mkF m 11 #[rv a1, iv (0 : Int32)] [(.ref a2)]))
  refine own_st (fun _ k => XS.iloadN X43.here hx rfl (hb hby d5_11) rfl  k) ?_
  show own_Fin p e below G (T43.setTop (mkF m 12 #[rv a1, iv (0 : Int32)] [(.int (0 : Int32)), (.ref a2)]))
  obtain ⟨_, _, ⟨T44, L44, k44, n44⟩, -, X44, ⟨Lc44, hQ44, l44, y44, z44⟩, st44⟩ := Jvm.LawKit.callS X43 hx (y := own_y8) hown (mvT hZ (own_w hw 61 rfl)) (mvT hZ (own_w hw 62 rfl)) (mvT hZ (own_w hw 63 rfl)) (mvT hZ (own_w hw 64 rfl)) (by decide) (backOf (W := 0) (rm_lc60 l Z a0 hw [] a2 fm h0 n0 (Nat.le_trans Z0 K0.1) A2 hfm Sfm) hZ (own_w hw 64 rfl) (own_w hw 63 rfl) (by decide) (by decide)) (g := (mkF m 12 #[rv a1, iv (0 : Int32)] [(.int (0 : Int32)), (.ref a2)])) rfl (by rw [hml]; rfl) (argsL := [(.ref a2), (.int (0 : Int32))]) (rest := []) (lenOf pd___BI_C_378 rfl) rfl (by show 2 * 0 + _ ≤ _; exact Nat.le_of_eq rfl) (hb hby d5_12) (fun _ _ => ⟨rfl, e43, (by decide : 0 + 0 ≤ _), (by decide : 0 + 0 ≤ _)⟩)
  dsimp only [Pt.U, Pt.locs, Pt.cells, Pt.slots] at X44 l44 y44 z44 st44 hQ44
  subst l44 y44 z44
  obtain ⟨rfl, N44q, e44⟩ := hQ44
  skip
  have N44 := Fr.app N42 N44q
  refine own_st st44 ?_
  show own_Fin p e below G (T44.setTop (mkF m 15 #[rv a1, iv (0 : Int32)] [(.int (60 : Int32))]))
  refine own_out X44 Bd.notSynchronized (v := (some (.int (60 : Int32)))) (fun h => by rw [Bd.returns] at h; cases h) hG (fun fs hr => retN X44 hx (t := .char) Bd.returns (by simp) (hb hby d5_15) hr) (by decide) (by decide) ?_
  exact ⟨rfl, N44, e44⟩

def Qrm_lc62 (Z : State) (a1 : Addr) (fm : Value) (h0 : Heap) (n0 : Nat) (v : Option Value) (h : Heap) (L : List Loc) : Prop := v = some (.int (62 : Int32)) ∧ Fr n0 L ∧ h = h0
set_option maxRecDepth 65536 in
set_option maxHeartbeats 40000000 in
theorem rm_lc62 (l : Launch) (Z : State) (a0 : Array Value) (hw : ∀ d ∈ tables_1, d.before a0 Z = true) (ws : List Jvm.Cond) (a1 : Addr) (fm : Value) (h0 : Heap) (n0 : Nat) (Z0 : n0 ≤ h0.size) (A1 : own_AV Z h0 a1 .byte (own_is [(62 : Int32)])) (hfm : fm.isRef = true) (Sfm : Sta Z h0 "jdk/internal/util/Preconditions" "SIOOBE_FORMATTER" "Ljava/util/function/BiFunction;" fm) :
    MetFree l own_y8 (head1 (Jvm.Cond.code own_y8 jdk_43_method_2_code 2 (some .char) :: ws) ({ frames := 2, cells := 0, slots := 0, locals := 27 } : Room)) (fun a U => a = #[(.ref a1), (.int (0 : Int32))] ∧ Z.Warmed39 U.vm ∧ U.heap = h0) (fun _ _ _ _ _ => True) (fun _ U o U' => ∃ v L, o = .returned v ∧ Qrm_lc62 Z a1 fm h0 n0 v U'.heap L ∧ FrameEnd U o U' L ({ frames := 2, cells := 0, slots := 0, locals := 27 } : Room).cells ({ frames := 2, cells := 0, slots := 0, locals := 27 } : Room).slots) := by
  refine MetFree.of_bodySF (plainFor_of_name pn_java_lang_StringLatin1) hisR ?_
  intro p e s m args below meth c s₁ Bd hml0 hP hK
  obtain ⟨rfl, hZ, hh⟩ := hP
  have hx := Bd.exec
  have hby := Bd.bytes
  have hml : c.maxLocals = 2 := hml0
  have hown : s.vm.findClass "java/lang/StringLatin1" = some m.cls := findClass_of_methodNamed Bd.named
  have hnm := (name_of_methodNamed Bd.named Bd.method).1
  have X0 : Stand p l e ({ frames := 2, cells := 0, slots := 0, locals := 27 } : Room) s m #[(.ref a1), (.int (0 : Int32))] below meth c s₁ [] 0 0 := Stand.of_body Bd
  have e0 : s₁.heap = h0 := by rw [← hh, Bd.state]; rfl
  have N0 := Fr.nil n0
  have K0 : Keep h0 h0 [] := Keep.refl _ _
  refine own_start (Qk := Qrm_lc62 Z a1 fm h0 n0) (fun G hG => ?_)
  refine own_st (fun _ k => castTop (ef_7_RI m a1 (0 : Int32)) k) ?_
  show own_Fin p e below G (s₁.setTop (mkF m 0 #[rv a1, iv (0 : Int32)] []))
  refine own_st (fun _ k => XS.iloadN X0.here hx rfl (hb hby d7_0) rfl  k) ?_
  show own_Fin p e below G (s₁.setTop (mkF m 1 #[rv a1, iv (0 : Int32)] [(.int (0 : Int32))]))
  refine own_st (fun _ k => XS.aloadN X0.here hx rfl (hb hby d7_1) rfl rfl k) ?_
  show own_Fin p e below G (s₁.setTop (mkF m 2 #[rv a1, iv (0 : Int32)] [(.ref a1), (.int (0 : Int32))]))
  refine own_st (fun _ k => own_len X0 hx hZ e0 A1 (z := (1 : Int32)) rfl (g := (mkF m 2 #[rv a1, iv (0 : Int32)] [(.ref a1), (.int (0 : Int32))])) rfl rfl (hb hby d7_2) k) ?_
  show own_Fin p e below G (s₁.setTop (mkF m 3 #[rv a1, iv (0 : Int32)] [(.int (1 : Int32)), (.int (0 : Int32))]))
  obtain ⟨_, _, ⟨T45, L45, k45, n45⟩, -, X45, ⟨Lc45, hQ45, l45, y45, z45⟩, st45⟩ := Jvm.LawKit.callS X0 hx (y := own_y6) hown (mvT hZ (own_w hw 65 rfl)) (mvT hZ (own_w hw 66 rfl)) (mvT hZ (own_w hw 49 rfl)) (mvT hZ (own_w hw 67 rfl)) (by decide) (backOf (W := 0) (rm_sci l Z a0 hw [] (0 : Int32) (1 : Int32) fm h0 n0 (Nat.le_trans Z0 K0.1) (by decide) (by decide) hfm Sfm) hZ (own_w hw 67 rfl) (own_w hw 49 rfl) (by decide) (by decide)) (g := (mkF m 3 #[rv a1, iv (0 : Int32)] [(.int (1 : Int32)), (.int (0 : Int32))])) rfl (by rw [hml]; rfl) (argsL := [(.int (0 : Int32)), (.int (1 : Int32))]) (rest := []) (lenOf pd__II_V_313 rfl) rfl (by show 2 * 0 + _ ≤ _; exact Nat.le_of_eq rfl) (hb hby d7_3) (fun _ _ => ⟨rfl, e0, (by decide : 0 + 0 ≤ _), (by decide : 0 + 0 ≤ _)⟩)
  dsimp only [Pt.U, Pt.locs, Pt.cells, Pt.slots] at X45 l45 y45 z45 st45 hQ45
  subst l45 y45 z45
  obtain ⟨rfl, N45q, e45⟩ := hQ45
  skip
  have N45 := Fr.app N0 N45q
  refine own_st st45 ?_
  show own_Fin p e below G (T45.setTop (mkF m 6 #[rv a1, iv (0 : Int32)] []))
  refine own_st (fun _ k => XS.aloadN X45.here hx rfl (hb hby d7_6) rfl rfl k) ?_
  show own_Fin p e below G (T45.setTop (mkF m 7 #[rv a1, iv (0 : Int32)] [(.ref a1)]))
  refine own_st (fun _ k => XS.iloadN X45.here hx rfl (hb hby d7_7) rfl  k) ?_
  show own_Fin p e below G (T45.setTop (mkF m 8 #[rv a1, iv (0 : Int32)] [(.int (0 : Int32)), (.ref a1)]))
  refine own_st (fun _ k => own_ldB X45 hx hZ e45 A1 (j := (0 : Int32)) (n := 1) rfl (by decide) (g := (mkF m 8 #[rv a1, iv (0 : Int32)] [(.int (0 : Int32)), (.ref a1)])) rfl rfl (hb hby d7_8) k) ?_
  show own_Fin p e below G (T45.setTop (mkF m 9 #[rv a1, iv (0 : Int32)] [(.int (62 : Int32))]))
  refine own_st (fun _ k => XS.sipush X45.here hx rfl (hb hby d7_9) k) ?_
  show own_Fin p e below G (T45.setTop (mkF m 12 #[rv a1, iv (0 : Int32)] [(.int (255 : Int32)), (.int (62 : Int32))]))
  refine own_st (fun _ k => XS.iand X45.here hx rfl (hb hby d7_12) rfl k) ?_
  show own_Fin p e below G (T45.setTop (mkF m 13 #[rv a1, iv (0 : Int32)] [(.int (62 : Int32))]))
  refine own_st (fun _ k => XS.i2c X45.here hx rfl (hb hby d7_13) rfl k) ?_
  show own_Fin p e below G (T45.setTop (mkF m 14 #[rv a1, iv (0 : Int32)] [(.int (62 : Int32))]))
  refine own_out X45 Bd.notSynchronized (v := (some (.int (62 : Int32)))) (fun h => by rw [Bd.returns] at h; cases h) hG (fun fs hr => retN X45 hx (t := .char) Bd.returns (by simp) (hb hby d7_14) hr) (by decide) (by decide) ?_
  exact ⟨rfl, N45, e45⟩

def Qrm_ca62 (Z : State) (a1 : Addr) (a2 : Addr) (cs : Int32) (fm : Value) (h0 : Heap) (n0 : Nat) (v : Option Value) (h : Heap) (L : List Loc) : Prop := v = some (.int (62 : Int32)) ∧ Fr n0 L ∧ h = h0
set_option maxRecDepth 65536 in
set_option maxHeartbeats 40000000 in
theorem rm_ca62 (l : Launch) (Z : State) (a0 : Array Value) (hw : ∀ d ∈ tables_1, d.before a0 Z = true) (ws : List Jvm.Cond) (a1 : Addr) (a2 : Addr) (cs : Int32) (fm : Value) (h0 : Heap) (n0 : Nat) (Z0 : n0 ≤ h0.size) (E1 : Exa Z h0 a1 "java/lang/String") (F1 : Fld Z h0 a1 "java/lang/String" "coder" "B" (.int (0 : Int32))) (F2 : Fld Z h0 a1 "java/lang/String" "value" "[B" (.ref a2)) (A2 : own_AV Z h0 a2 .byte (own_is [(62 : Int32)])) (Scs : Sta Z h0 "java/lang/String" "COMPACT_STRINGS" "Z" (.int cs)) (hcs : ¬ cs = (0 : Int32)) (hfm : fm.isRef = true) (Sfm : Sta Z h0 "jdk/internal/util/Preconditions" "SIOOBE_FORMATTER" "Ljava/util/function/BiFunction;" fm) :
    MetFree l own_y9 (head1 (Jvm.Cond.code own_y9 jdk_42_method_56_code 2 (some .char) :: ws) ({ frames := 3, cells := 0, slots := 0, locals := 40 } : Room)) (fun a U => a = #[(.ref a1), (.int (0 : Int32))] ∧ Z.Warmed39 U.vm ∧ U.heap = h0) (fun _ _ _ _ _ => True) (fun _ U o U' => ∃ v L, o = .returned v ∧ Qrm_ca62 Z a1 a2 cs fm h0 n0 v U'.heap L ∧ FrameEnd U o U' L ({ frames := 3, cells := 0, slots := 0, locals := 40 } : Room).cells ({ frames := 3, cells := 0, slots := 0, locals := 40 } : Room).slots) := by
  refine MetFree.of_bodySF (plainFor_of_name pn_java_lang_String) hisR ?_
  intro p e s m args below meth c s₁ Bd hml0 hP hK
  obtain ⟨rfl, hZ, hh⟩ := hP
  have hx := Bd.exec
  have hby := Bd.bytes
  have hml : c.maxLocals = 2 := hml0
  have hown : s.vm.findClass "java/lang/String" = some m.cls := findClass_of_methodNamed Bd.named
  have hnm := (name_of_methodNamed Bd.named Bd.method).1
  have X0 : Stand p l e ({ frames := 3, cells := 0, slots := 0, locals := 40 } : Room) s m #[(.ref a1), (.int (0 : Int32))] below meth c s₁ [] 0 0 := Stand.of_body Bd
  have e0 : s₁.heap = h0 := by rw [← hh, Bd.state]; rfl
  have N0 := Fr.nil n0
  have K0 : Keep h0 h0 [] := Keep.refl _ _
  refine own_start (Qk := Qrm_ca62 Z a1 a2 cs fm h0 n0) (fun G hG => ?_)
  refine own_st (fun _ k => castTop (ef_5_RI m a1 (0 : Int32)) k) ?_
  show own_Fin p e below G (s₁.setTop (mkF m 0 #[rv a1, iv (0 : Int32)] []))
  refine own_st (fun _ k => XS.aloadN X0.here hx rfl (hb hby d5_0) rfl rfl k) ?_
  show own_Fin p e below G (s₁.setTop (mkF m 1 #[rv a1, iv (0 : Int32)] [(.ref a1)]))
  obtain ⟨cq46, kq46, q46a, q46b, q46c⟩ := isOf hZ e0 E1
  obtain ⟨_, _, ⟨T46, L46, k46, n46⟩, -, X46, ⟨Lc46, hQ46, l46, y46, z46⟩, st46⟩ := X0.virtualBack hx (y := own_y7) (z := own_y7) hown (mvT hZ (own_w hw 51 rfl)) (mvT hZ (own_w hw 52 rfl)) (notFace_of_selects (args := #[]) (mvT hZ (own_w hw 54 rfl))) (mvT hZ (own_w hw 54 rfl)) (mvT hZ (own_w hw 53 rfl)) (by decide) (backOf (W := 0) (rm_lat l Z a0 hw [] a1 cs h0 n0 (Nat.le_trans Z0 K0.1) Scs hcs F1) hZ (own_w hw 55 rfl) (own_w hw 49 rfl) (by decide) (by decide)) q46a q46c (g := (mkF m 1 #[rv a1, iv (0 : Int32)] [(.ref a1)])) rfl (by rw [hml]; rfl) (Steps.refl _) (argsL := []) (rest := []) (lenOf pd___Z_171 rfl) rfl (by show 2 * 0 + _ ≤ _; exact Nat.le_of_eq rfl) (hb hby d5_1) (fun _ _ => ⟨rfl, e0, (by decide : 0 + 0 ≤ _), (by decide : 0 + 0 ≤ _)⟩)
  dsimp only [Pt.U, Pt.locs, Pt.cells, Pt.slots] at X46 l46 y46 z46 st46 hQ46
  subst l46 y46 z46
  obtain ⟨rfl, N46q, e46⟩ := hQ46
  skip
  have N46 := Fr.app N0 N46q
  refine own_tr st46 ?_
  show own_Fin p e below G (T46.setTop (mkF m 4 #[rv a1, iv (0 : Int32)] [(.int (1 : Int32))]))
  refine own_st (fun _ k => XS.ifNo X46.here hx rfl (hb hby d5_4) rfl ((if0 _ _).trans (feq (by decide : ¬ ((1 : Int32) = (0 : Int32)))).1) k) ?_
  show own_Fin p e below G (T46.setTop (mkF m 7 #[rv a1, iv (0 : Int32)] []))
  refine own_st (fun _ k => XS.aloadN X46.here hx rfl (hb hby d5_7) rfl rfl k) ?_
  show own_Fin p e below G (T46.setTop (mkF m 8 #[rv a1, iv (0 : Int32)] [(.ref a1)]))
  obtain ⟨T47, X47, e47, st47⟩ := getF X46 hx hZ hown (host := "") (Or.inl (own_w hw 59 rfl)) Via.refl e46 F2 (g := (mkF m 8 #[rv a1, iv (0 : Int32)] [(.ref a1)])) rfl rfl (hb hby d5_8)
  refine own_st st47 ?_
  show own_Fin p e below G (T47.setTop (mkF m 11 #[rv a1, iv (0 : Int32)] [(.ref a2)]))
  refine own_st (fun _ k => XS.iloadN X47.here hx rfl (hb hby d5_11) rfl  k) ?_
  show own_Fin p e below G (T47.setTop (mkF m 12 #[rv a1, iv (0 : Int32)] [(.int (0 : Int32)), (.ref a2)]))
  obtain ⟨_, _, ⟨T48, L48, k48, n48⟩, -, X48, ⟨Lc48, hQ48, l48, y48, z48⟩, st48⟩ := Jvm.LawKit.callS X47 hx (y := own_y8) hown (mvT hZ (own_w hw 61 rfl)) (mvT hZ (own_w hw 62 rfl)) (mvT hZ (own_w hw 63 rfl)) (mvT hZ (own_w hw 64 rfl)) (by decide) (backOf (W := 0) (rm_lc62 l Z a0 hw [] a2 fm h0 n0 (Nat.le_trans Z0 K0.1) A2 hfm Sfm) hZ (own_w hw 64 rfl) (own_w hw 63 rfl) (by decide) (by decide)) (g := (mkF m 12 #[rv a1, iv (0 : Int32)] [(.int (0 : Int32)), (.ref a2)])) rfl (by rw [hml]; rfl) (argsL := [(.ref a2), (.int (0 : Int32))]) (rest := []) (lenOf pd___BI_C_378 rfl) rfl (by show 2 * 0 + _ ≤ _; exact Nat.le_of_eq rfl) (hb hby d5_12) (fun _ _ => ⟨rfl, e47, (by decide : 0 + 0 ≤ _), (by decide : 0 + 0 ≤ _)⟩)
  dsimp only [Pt.U, Pt.locs, Pt.cells, Pt.slots] at X48 l48 y48 z48 st48 hQ48
  subst l48 y48 z48
  obtain ⟨rfl, N48q, e48⟩ := hQ48
  skip
  have N48 := Fr.app N46 N48q
  refine own_st st48 ?_
  show own_Fin p e below G (T48.setTop (mkF m 15 #[rv a1, iv (0 : Int32)] [(.int (62 : Int32))]))
  refine own_out X48 Bd.notSynchronized (v := (some (.int (62 : Int32)))) (fun h => by rw [Bd.returns] at h; cases h) hG (fun fs hr => retN X48 hx (t := .char) Bd.returns (by simp) (hb hby d5_15) hr) (by decide) (by decide) ?_
  exact ⟨rfl, N48, e48⟩

theorem pd__I_Z_244 : parseMethodDescriptor "(I)Z" = some ⟨[.int], some .boolean⟩ := by decide +kernel
theorem pd___Ljava_lang_String__780 : parseMethodDescriptor "()Ljava/lang/String;" = some ⟨[], some (.object "java/lang/String")⟩ := by decide +kernel
theorem pd__I_C_221 : parseMethodDescriptor "(I)C" = some ⟨[.int], some .char⟩ := by decide +kernel
theorem pn_com_example_attributes_to_entitlements_attributestoentitlements_OperatorOrdersPinLaw : plainName "com/example/attributes_to_entitlements/attributestoentitlements/OperatorOrdersPinLaw" = true := by first | (simp [plainName, overriddenIn]; done) | decide +kernel
theorem ef_0_II (m : MethodId) (x0 : Int32) (x1 : Int32) : entryFrame m #[(.int x0), (.int x1)] maxLocals = mkF m 0 #[iv x0, iv x1, .unset, .unset, .unset, .unset, .unset, .unset, .unset, .unset, .unset, .unset] [] := by first | (simp [entryFrame, mkF, argsToLocals, Value.category, maxLocals]; done) | rfl
def Qrm0 (Z : State) (p1 : Int32) (p2 : Int32) (a_EQUAL : Addr) (a_UNEQUAL : Addr) (a_AT_MOST : Addr) (a_AT_LEAST : Addr) (a_LESS : Addr) (a_GREATER : Addr) (a_EQUAL_symbol : Addr) (a_AT_MOST_symbol : Addr) (a_LESS_symbol : Addr) (a_UNEQUAL_symbol : Addr) (a_GREATER_symbol : Addr) (a_AT_LEAST_symbol : Addr) (a_EQUAL_symbol_value : Addr) (a_AT_MOST_symbol_value : Addr) (a_LESS_symbol_value : Addr) (a_UNEQUAL_symbol_value : Addr) (a_GREATER_symbol_value : Addr) (a_AT_LEAST_symbol_value : Addr) (cs : Int32) (fm : Value) (h0 : Heap) (n0 : Nat) (v : Option Value) (h : Heap) (L : List Loc) : Prop := v = some (.int 1) ∧ Fr n0 L
set_option maxRecDepth 65536 in
set_option maxHeartbeats 40000000 in
theorem rm0 (l : Launch) (Z : State) (a0 : Array Value) (hw : ∀ d ∈ tables_1, d.before a0 Z = true) (ws : List Jvm.Cond) (p1 : Int32) (p2 : Int32) (a_EQUAL : Addr) (a_UNEQUAL : Addr) (a_AT_MOST : Addr) (a_AT_LEAST : Addr) (a_LESS : Addr) (a_GREATER : Addr) (a_EQUAL_symbol : Addr) (a_AT_MOST_symbol : Addr) (a_LESS_symbol : Addr) (a_UNEQUAL_symbol : Addr) (a_GREATER_symbol : Addr) (a_AT_LEAST_symbol : Addr) (a_EQUAL_symbol_value : Addr) (a_AT_MOST_symbol_value : Addr) (a_LESS_symbol_value : Addr) (a_UNEQUAL_symbol_value : Addr) (a_GREATER_symbol_value : Addr) (a_AT_LEAST_symbol_value : Addr) (cs : Int32) (fm : Value) (h0 : Heap) (n0 : Nat) (Z0 : n0 ≤ h0.size) (Ea_EQUAL : Exa Z h0 a_EQUAL "com/example/attributes_to_entitlements/attributestoentitlements/Operator") (Sa_EQUAL : Sta Z h0 "com/example/attributes_to_entitlements/attributestoentitlements/Operator" "EQUAL" "Lcom/example/attributes_to_entitlements/attributestoentitlements/Operator;" (.ref a_EQUAL)) (Ea_UNEQUAL : Exa Z h0 a_UNEQUAL "com/example/attributes_to_entitlements/attributestoentitlements/Operator") (Sa_UNEQUAL : Sta Z h0 "com/example/attributes_to_entitlements/attributestoentitlements/Operator" "UNEQUAL" "Lcom/example/attributes_to_entitlements/attributestoentitlements/Operator;" (.ref a_UNEQUAL)) (Ea_AT_MOST : Exa Z h0 a_AT_MOST "com/example/attributes_to_entitlements/attributestoentitlements/Operator") (Sa_AT_MOST : Sta Z h0 "com/example/attributes_to_entitlements/attributestoentitlements/Operator" "AT_MOST" "Lcom/example/attributes_to_entitlements/attributestoentitlements/Operator;" (.ref a_AT_MOST)) (Ea_AT_LEAST : Exa Z h0 a_AT_LEAST "com/example/attributes_to_entitlements/attributestoentitlements/Operator") (Sa_AT_LEAST : Sta Z h0 "com/example/attributes_to_entitlements/attributestoentitlements/Operator" "AT_LEAST" "Lcom/example/attributes_to_entitlements/attributestoentitlements/Operator;" (.ref a_AT_LEAST)) (Ea_LESS : Exa Z h0 a_LESS "com/example/attributes_to_entitlements/attributestoentitlements/Operator") (Sa_LESS : Sta Z h0 "com/example/attributes_to_entitlements/attributestoentitlements/Operator" "LESS" "Lcom/example/attributes_to_entitlements/attributestoentitlements/Operator;" (.ref a_LESS)) (Ea_GREATER : Exa Z h0 a_GREATER "com/example/attributes_to_entitlements/attributestoentitlements/Operator") (Sa_GREATER : Sta Z h0 "com/example/attributes_to_entitlements/attributestoentitlements/Operator" "GREATER" "Lcom/example/attributes_to_entitlements/attributestoentitlements/Operator;" (.ref a_GREATER)) (Ea_EQUAL_symbol : Exa Z h0 a_EQUAL_symbol "java/lang/String") (Fa_EQUAL_symbol : Fld Z h0 a_EQUAL "com/example/attributes_to_entitlements/attributestoentitlements/Operator" "symbol" "Ljava/lang/String;" (.ref a_EQUAL_symbol)) (Ea_AT_MOST_symbol : Exa Z h0 a_AT_MOST_symbol "java/lang/String") (Fa_AT_MOST_symbol : Fld Z h0 a_AT_MOST "com/example/attributes_to_entitlements/attributestoentitlements/Operator" "symbol" "Ljava/lang/String;" (.ref a_AT_MOST_symbol)) (Ea_LESS_symbol : Exa Z h0 a_LESS_symbol "java/lang/String") (Fa_LESS_symbol : Fld Z h0 a_LESS "com/example/attributes_to_entitlements/attributestoentitlements/Operator" "symbol" "Ljava/lang/String;" (.ref a_LESS_symbol)) (Ea_UNEQUAL_symbol : Exa Z h0 a_UNEQUAL_symbol "java/lang/String") (Fa_UNEQUAL_symbol : Fld Z h0 a_UNEQUAL "com/example/attributes_to_entitlements/attributestoentitlements/Operator" "symbol" "Ljava/lang/String;" (.ref a_UNEQUAL_symbol)) (Ea_GREATER_symbol : Exa Z h0 a_GREATER_symbol "java/lang/String") (Fa_GREATER_symbol : Fld Z h0 a_GREATER "com/example/attributes_to_entitlements/attributestoentitlements/Operator" "symbol" "Ljava/lang/String;" (.ref a_GREATER_symbol)) (Ea_AT_LEAST_symbol : Exa Z h0 a_AT_LEAST_symbol "java/lang/String") (Fa_AT_LEAST_symbol : Fld Z h0 a_AT_LEAST "com/example/attributes_to_entitlements/attributestoentitlements/Operator" "symbol" "Ljava/lang/String;" (.ref a_AT_LEAST_symbol)) (Fa_EQUAL_symbol_value : Fld Z h0 a_EQUAL_symbol "java/lang/String" "value" "[B" (.ref a_EQUAL_symbol_value)) (Fa_AT_MOST_symbol_value : Fld Z h0 a_AT_MOST_symbol "java/lang/String" "value" "[B" (.ref a_AT_MOST_symbol_value)) (Fa_LESS_symbol_value : Fld Z h0 a_LESS_symbol "java/lang/String" "value" "[B" (.ref a_LESS_symbol_value)) (Fa_UNEQUAL_symbol_value : Fld Z h0 a_UNEQUAL_symbol "java/lang/String" "value" "[B" (.ref a_UNEQUAL_symbol_value)) (Fa_GREATER_symbol_value : Fld Z h0 a_GREATER_symbol "java/lang/String" "value" "[B" (.ref a_GREATER_symbol_value)) (Fa_AT_LEAST_symbol_value : Fld Z h0 a_AT_LEAST_symbol "java/lang/String" "value" "[B" (.ref a_AT_LEAST_symbol_value)) (Fa_EQUAL_ordinal : Fld Z h0 a_EQUAL "java/lang/Enum" "ordinal" "I" (.int (0 : Int32))) (Fa_EQUAL_symbol_coder : Fld Z h0 a_EQUAL_symbol "java/lang/String" "coder" "B" (.int (0 : Int32))) (Fa_AT_MOST_ordinal : Fld Z h0 a_AT_MOST "java/lang/Enum" "ordinal" "I" (.int (2 : Int32))) (Fa_UNEQUAL_ordinal : Fld Z h0 a_UNEQUAL "java/lang/Enum" "ordinal" "I" (.int (1 : Int32))) (Fa_AT_MOST_symbol_coder : Fld Z h0 a_AT_MOST_symbol "java/lang/String" "coder" "B" (.int (0 : Int32))) (Fa_LESS_ordinal : Fld Z h0 a_LESS "java/lang/Enum" "ordinal" "I" (.int (4 : Int32))) (Fa_LESS_symbol_coder : Fld Z h0 a_LESS_symbol "java/lang/String" "coder" "B" (.int (0 : Int32))) (Fa_UNEQUAL_symbol_coder : Fld Z h0 a_UNEQUAL_symbol "java/lang/String" "coder" "B" (.int (0 : Int32))) (Fa_GREATER_ordinal : Fld Z h0 a_GREATER "java/lang/Enum" "ordinal" "I" (.int (5 : Int32))) (Fa_GREATER_symbol_coder : Fld Z h0 a_GREATER_symbol "java/lang/String" "coder" "B" (.int (0 : Int32))) (Fa_AT_LEAST_ordinal : Fld Z h0 a_AT_LEAST "java/lang/Enum" "ordinal" "I" (.int (3 : Int32))) (Fa_AT_LEAST_symbol_coder : Fld Z h0 a_AT_LEAST_symbol "java/lang/String" "coder" "B" (.int (0 : Int32))) (Va_EQUAL_symbol_value : own_AV Z h0 a_EQUAL_symbol_value .byte (own_is [(61 : Int32), (61 : Int32)])) (Va_UNEQUAL_symbol_value : own_AV Z h0 a_UNEQUAL_symbol_value .byte (own_is [(33 : Int32), (61 : Int32)])) (Va_AT_MOST_symbol_value : own_AV Z h0 a_AT_MOST_symbol_value .byte (own_is [(60 : Int32), (61 : Int32)])) (Va_AT_LEAST_symbol_value : own_AV Z h0 a_AT_LEAST_symbol_value .byte (own_is [(62 : Int32), (61 : Int32)])) (Va_LESS_symbol_value : own_AV Z h0 a_LESS_symbol_value .byte (own_is [(60 : Int32)])) (Va_GREATER_symbol_value : own_AV Z h0 a_GREATER_symbol_value .byte (own_is [(62 : Int32)])) (Scs : Sta Z h0 "java/lang/String" "COMPACT_STRINGS" "Z" (.int cs)) (hcs : ¬ cs = (0 : Int32)) (hfm : fm.isRef = true) (Sfm : Sta Z h0 "jdk/internal/util/Preconditions" "SIOOBE_FORMATTER" "Ljava/util/function/BiFunction;" fm) :
    MetFree l x (head1 (Jvm.Cond.code x code maxLocals ret :: ws) room_1) (fun a U => a = #[(.int p1), (.int p2)] ∧ Z.Warmed39 U.vm ∧ U.heap = h0) (fun _ _ _ _ _ => True) (fun _ U o U' => ∃ v L, o = .returned v ∧ Qrm0 Z p1 p2 a_EQUAL a_UNEQUAL a_AT_MOST a_AT_LEAST a_LESS a_GREATER a_EQUAL_symbol a_AT_MOST_symbol a_LESS_symbol a_UNEQUAL_symbol a_GREATER_symbol a_AT_LEAST_symbol a_EQUAL_symbol_value a_AT_MOST_symbol_value a_LESS_symbol_value a_UNEQUAL_symbol_value a_GREATER_symbol_value a_AT_LEAST_symbol_value cs fm h0 n0 v U'.heap L ∧ FrameEnd U o U' L room_1.cells room_1.slots) := by
  refine MetFree.of_bodySF (plainFor_of_name pn_com_example_attributes_to_entitlements_attributestoentitlements_OperatorOrdersPinLaw) hisR ?_
  intro p e s m args below meth c s₁ Bd hml0 hP hK
  obtain ⟨rfl, hZ, hh⟩ := hP
  have hx := Bd.exec
  have hby := Bd.bytes
  have hml : c.maxLocals = 12 := hml0
  have hown : s.vm.findClass "com/example/attributes_to_entitlements/attributestoentitlements/OperatorOrdersPinLaw" = some m.cls := findClass_of_methodNamed Bd.named
  have hnm := (name_of_methodNamed Bd.named Bd.method).1
  have X0 : Stand p l e room_1 s m #[(.int p1), (.int p2)] below meth c s₁ [] 0 0 := Stand.of_body Bd
  have e0 : s₁.heap = h0 := by rw [← hh, Bd.state]; rfl
  have N0 := Fr.nil n0
  have K0 : Keep h0 h0 [] := Keep.refl _ _
  have ne_a_EQUAL_a_UNEQUAL : a_EQUAL ≠ a_UNEQUAL := Fld.ne Fa_EQUAL_ordinal Fa_UNEQUAL_ordinal (by decide)
  have ne_a_AT_MOST_a_EQUAL : a_AT_MOST ≠ a_EQUAL := Fld.ne Fa_AT_MOST_ordinal Fa_EQUAL_ordinal (by decide)
  have ne_a_AT_MOST_a_UNEQUAL : a_AT_MOST ≠ a_UNEQUAL := Fld.ne Fa_AT_MOST_ordinal Fa_UNEQUAL_ordinal (by decide)
  have ne_a_AT_LEAST_a_EQUAL : a_AT_LEAST ≠ a_EQUAL := Fld.ne Fa_AT_LEAST_ordinal Fa_EQUAL_ordinal (by decide)
  have ne_a_AT_LEAST_a_UNEQUAL : a_AT_LEAST ≠ a_UNEQUAL := Fld.ne Fa_AT_LEAST_ordinal Fa_UNEQUAL_ordinal (by decide)
  have ne_a_LESS_a_EQUAL : a_LESS ≠ a_EQUAL := Fld.ne Fa_LESS_ordinal Fa_EQUAL_ordinal (by decide)
  have ne_a_LESS_a_UNEQUAL : a_LESS ≠ a_UNEQUAL := Fld.ne Fa_LESS_ordinal Fa_UNEQUAL_ordinal (by decide)
  have ne_a_GREATER_a_EQUAL : a_GREATER ≠ a_EQUAL := Fld.ne Fa_GREATER_ordinal Fa_EQUAL_ordinal (by decide)
  have ne_a_GREATER_a_UNEQUAL : a_GREATER ≠ a_UNEQUAL := Fld.ne Fa_GREATER_ordinal Fa_UNEQUAL_ordinal (by decide)
  refine own_start (Qk := Qrm0 Z p1 p2 a_EQUAL a_UNEQUAL a_AT_MOST a_AT_LEAST a_LESS a_GREATER a_EQUAL_symbol a_AT_MOST_symbol a_LESS_symbol a_UNEQUAL_symbol a_GREATER_symbol a_AT_LEAST_symbol a_EQUAL_symbol_value a_AT_MOST_symbol_value a_LESS_symbol_value a_UNEQUAL_symbol_value a_GREATER_symbol_value a_AT_LEAST_symbol_value cs fm h0 n0) (fun G hG => ?_)
  refine own_st (fun _ k => castTop (ef_0_II m p1 p2) k) ?_
  show own_Fin p e below G (s₁.setTop (mkF m 0 #[iv p1, iv p2, .unset, .unset, .unset, .unset, .unset, .unset, .unset, .unset, .unset, .unset] []))
  refine own_st (fun _ k => XS.bipush X0.here hx rfl (hb hby at_0) k) ?_
  show own_Fin p e below G (s₁.setTop (mkF m 2 #[iv p1, iv p2, .unset, .unset, .unset, .unset, .unset, .unset, .unset, .unset, .unset, .unset] [(.int (6 : Int32))]))
  obtain ⟨T49, h49, k49, X49, e49, E49, A49, O49, st49⟩ := newR X0 hx hZ hown (own_w hw 0 rfl) (own_w hw 1 rfl) e0 (g := (mkF m 2 #[iv p1, iv p2, .unset, .unset, .unset, .unset, .unset, .unset, .unset, .unset, .unset, .unset] [(.int (6 : Int32))])) rfl (hb hby at_2) rfl (by decide) (cap := 6) (by decide) (by decide) (by decide) (by decide)
  obtain ⟨b49, g49⟩ : ∃ z, z = h0.size := ⟨_, rfl⟩
  rw [← g49] at A49 st49
  have ne_a_AT_LEAST_b49 : a_AT_LEAST ≠ b49 := Nat.ne_of_lt (Nat.lt_of_lt_of_le Ea_AT_LEAST.lt (Nat.le_of_eq g49.symm))
  have ne_a_AT_LEAST_symbol_b49 : a_AT_LEAST_symbol ≠ b49 := Nat.ne_of_lt (Nat.lt_of_lt_of_le Ea_AT_LEAST_symbol.lt (Nat.le_of_eq g49.symm))
  have ne_a_AT_LEAST_symbol_value_b49 : a_AT_LEAST_symbol_value ≠ b49 := Nat.ne_of_lt (Nat.lt_of_lt_of_le Va_AT_LEAST_symbol_value.lt (Nat.le_of_eq g49.symm))
  have ne_a_AT_MOST_b49 : a_AT_MOST ≠ b49 := Nat.ne_of_lt (Nat.lt_of_lt_of_le Ea_AT_MOST.lt (Nat.le_of_eq g49.symm))
  have ne_a_AT_MOST_symbol_b49 : a_AT_MOST_symbol ≠ b49 := Nat.ne_of_lt (Nat.lt_of_lt_of_le Ea_AT_MOST_symbol.lt (Nat.le_of_eq g49.symm))
  have ne_a_AT_MOST_symbol_value_b49 : a_AT_MOST_symbol_value ≠ b49 := Nat.ne_of_lt (Nat.lt_of_lt_of_le Va_AT_MOST_symbol_value.lt (Nat.le_of_eq g49.symm))
  have ne_a_EQUAL_b49 : a_EQUAL ≠ b49 := Nat.ne_of_lt (Nat.lt_of_lt_of_le Ea_EQUAL.lt (Nat.le_of_eq g49.symm))
  have ne_a_EQUAL_symbol_b49 : a_EQUAL_symbol ≠ b49 := Nat.ne_of_lt (Nat.lt_of_lt_of_le Ea_EQUAL_symbol.lt (Nat.le_of_eq g49.symm))
  have ne_a_EQUAL_symbol_value_b49 : a_EQUAL_symbol_value ≠ b49 := Nat.ne_of_lt (Nat.lt_of_lt_of_le Va_EQUAL_symbol_value.lt (Nat.le_of_eq g49.symm))
  have ne_a_GREATER_b49 : a_GREATER ≠ b49 := Nat.ne_of_lt (Nat.lt_of_lt_of_le Ea_GREATER.lt (Nat.le_of_eq g49.symm))
  have ne_a_GREATER_symbol_b49 : a_GREATER_symbol ≠ b49 := Nat.ne_of_lt (Nat.lt_of_lt_of_le Ea_GREATER_symbol.lt (Nat.le_of_eq g49.symm))
  have ne_a_GREATER_symbol_value_b49 : a_GREATER_symbol_value ≠ b49 := Nat.ne_of_lt (Nat.lt_of_lt_of_le Va_GREATER_symbol_value.lt (Nat.le_of_eq g49.symm))
  have ne_a_LESS_b49 : a_LESS ≠ b49 := Nat.ne_of_lt (Nat.lt_of_lt_of_le Ea_LESS.lt (Nat.le_of_eq g49.symm))
  have ne_a_LESS_symbol_b49 : a_LESS_symbol ≠ b49 := Nat.ne_of_lt (Nat.lt_of_lt_of_le Ea_LESS_symbol.lt (Nat.le_of_eq g49.symm))
  have ne_a_LESS_symbol_value_b49 : a_LESS_symbol_value ≠ b49 := Nat.ne_of_lt (Nat.lt_of_lt_of_le Va_LESS_symbol_value.lt (Nat.le_of_eq g49.symm))
  have ne_a_UNEQUAL_b49 : a_UNEQUAL ≠ b49 := Nat.ne_of_lt (Nat.lt_of_lt_of_le Ea_UNEQUAL.lt (Nat.le_of_eq g49.symm))
  have ne_a_UNEQUAL_symbol_b49 : a_UNEQUAL_symbol ≠ b49 := Nat.ne_of_lt (Nat.lt_of_lt_of_le Ea_UNEQUAL_symbol.lt (Nat.le_of_eq g49.symm))
  have ne_a_UNEQUAL_symbol_value_b49 : a_UNEQUAL_symbol_value ≠ b49 := Nat.ne_of_lt (Nat.lt_of_lt_of_le Va_UNEQUAL_symbol_value.lt (Nat.le_of_eq g49.symm))
  have sz_b49 : h0.size ≤ b49 := Nat.le_trans K0.1 (Nat.le_of_eq g49.symm)
  have g_b49 : n0 ≤ b49 := Nat.le_trans Z0 sz_b49
  have f50_0 := Ea_EQUAL.ext E49
  have f50_1 := Sa_EQUAL.ext E49
  have f50_2 := Ea_UNEQUAL.ext E49
  have f50_3 := Sa_UNEQUAL.ext E49
  have f50_4 := Ea_AT_MOST.ext E49
  have f50_5 := Sa_AT_MOST.ext E49
  have f50_6 := Ea_AT_LEAST.ext E49
  have f50_7 := Sa_AT_LEAST.ext E49
  have f50_8 := Ea_LESS.ext E49
  have f50_9 := Sa_LESS.ext E49
  have f50_10 := Ea_GREATER.ext E49
  have f50_11 := Sa_GREATER.ext E49
  have f50_12 := Ea_EQUAL_symbol.ext E49
  have f50_13 := Fa_EQUAL_symbol.ext E49
  have f50_14 := Ea_AT_MOST_symbol.ext E49
  have f50_15 := Fa_AT_MOST_symbol.ext E49
  have f50_16 := Ea_LESS_symbol.ext E49
  have f50_17 := Fa_LESS_symbol.ext E49
  have f50_18 := Ea_UNEQUAL_symbol.ext E49
  have f50_19 := Fa_UNEQUAL_symbol.ext E49
  have f50_20 := Ea_GREATER_symbol.ext E49
  have f50_21 := Fa_GREATER_symbol.ext E49
  have f50_22 := Ea_AT_LEAST_symbol.ext E49
  have f50_23 := Fa_AT_LEAST_symbol.ext E49
  have f50_24 := Fa_EQUAL_symbol_value.ext E49
  have f50_25 := Fa_AT_MOST_symbol_value.ext E49
  have f50_26 := Fa_LESS_symbol_value.ext E49
  have f50_27 := Fa_UNEQUAL_symbol_value.ext E49
  have f50_28 := Fa_GREATER_symbol_value.ext E49
  have f50_29 := Fa_AT_LEAST_symbol_value.ext E49
  have f50_30 := Fa_EQUAL_ordinal.ext E49
  have f50_31 := Fa_EQUAL_symbol_coder.ext E49
  have f50_32 := Fa_AT_MOST_ordinal.ext E49
  have f50_33 := Fa_UNEQUAL_ordinal.ext E49
  have f50_34 := Fa_AT_MOST_symbol_coder.ext E49
  have f50_35 := Fa_LESS_ordinal.ext E49
  have f50_36 := Fa_LESS_symbol_coder.ext E49
  have f50_37 := Fa_UNEQUAL_symbol_coder.ext E49
  have f50_38 := Fa_GREATER_ordinal.ext E49
  have f50_39 := Fa_GREATER_symbol_coder.ext E49
  have f50_40 := Fa_AT_LEAST_ordinal.ext E49
  have f50_41 := Fa_AT_LEAST_symbol_coder.ext E49
  have f50_42 := Va_EQUAL_symbol_value.ext E49
  have f50_43 := Va_UNEQUAL_symbol_value.ext E49
  have f50_44 := Va_AT_MOST_symbol_value.ext E49
  have f50_45 := Va_AT_LEAST_symbol_value.ext E49
  have f50_46 := Va_LESS_symbol_value.ext E49
  have f50_47 := Va_GREATER_symbol_value.ext E49
  have f50_48 := Scs.ext E49
  have f50_49 := Sfm.ext E49
  have K51 : Keep h0 h49 [] := K0.ext E49
  have V49 : own_AVk Z h49 b49 k49 (.object "com/example/attributes_to_entitlements/attributestoentitlements/Operator") [.null, .null, .null, .null, .null, .null] := own_AVk_new A49
  refine own_st st49 ?_
  show own_Fin p e below G (T49.setTop (mkF m 5 #[iv p1, iv p2, .unset, .unset, .unset, .unset, .unset, .unset, .unset, .unset, .unset, .unset] [(.ref b49)]))
  refine own_st (fun _ k => XS.dup X49.here hx rfl (hb hby at_5) rfl rfl k) ?_
  show own_Fin p e below G (T49.setTop (mkF m 6 #[iv p1, iv p2, .unset, .unset, .unset, .unset, .unset, .unset, .unset, .unset, .unset, .unset] [(.ref b49), (.ref b49)]))
  refine own_st (fun _ k => XS.iconst X49.here hx rfl (hb hby at_6) k) ?_
  show own_Fin p e below G (T49.setTop (mkF m 7 #[iv p1, iv p2, .unset, .unset, .unset, .unset, .unset, .unset, .unset, .unset, .unset, .unset] [(.int (0 : Int32)), (.ref b49), (.ref b49)]))
  obtain ⟨T52, X52, e52, st52⟩ := getS2 X49 hx hZ hown (host := "") (Or.inl (own_w hw 2 rfl)) Via.refl e49 f50_1 (g := (mkF m 7 #[iv p1, iv p2, .unset, .unset, .unset, .unset, .unset, .unset, .unset, .unset, .unset, .unset] [(.int (0 : Int32)), (.ref b49), (.ref b49)])) rfl (hb hby at_7)
  refine own_st st52 ?_
  show own_Fin p e below G (T52.setTop (mkF m 10 #[iv p1, iv p2, .unset, .unset, .unset, .unset, .unset, .unset, .unset, .unset, .unset, .unset] [(.ref a_EQUAL), (.int (0 : Int32)), (.ref b49), (.ref b49)]))
  obtain ⟨T53, h53, X53, e53, W53, V53, st53⟩ := own_stR X52 hx hZ e52 V49 (j := (0 : Int32)) (n := 6) rfl (by decide) rfl (fun A q => Sto.ofV A q O49 (Ins.self f50_0)) (g := (mkF m 10 #[iv p1, iv p2, .unset, .unset, .unset, .unset, .unset, .unset, .unset, .unset, .unset, .unset] [(.ref a_EQUAL), (.int (0 : Int32)), (.ref b49), (.ref b49)])) rfl rfl (hb hby at_10)
  have f54_0 := f50_0.wr W53
  have f54_1 := f50_1.wr W53
  have f54_2 := f50_2.wr W53
  have f54_3 := f50_3.wr W53
  have f54_4 := f50_4.wr W53
  have f54_5 := f50_5.wr W53
  have f54_6 := f50_6.wr W53
  have f54_7 := f50_7.wr W53
  have f54_8 := f50_8.wr W53
  have f54_9 := f50_9.wr W53
  have f54_10 := f50_10.wr W53
  have f54_11 := f50_11.wr W53
  have f54_12 := f50_12.wr W53
  have f54_13 := f50_13.other W53 (Or.inl ne_a_EQUAL_b49)
  have f54_14 := f50_14.wr W53
  have f54_15 := f50_15.other W53 (Or.inl ne_a_AT_MOST_b49)
  have f54_16 := f50_16.wr W53
  have f54_17 := f50_17.other W53 (Or.inl ne_a_LESS_b49)
  have f54_18 := f50_18.wr W53
  have f54_19 := f50_19.other W53 (Or.inl ne_a_UNEQUAL_b49)
  have f54_20 := f50_20.wr W53
  have f54_21 := f50_21.other W53 (Or.inl ne_a_GREATER_b49)
  have f54_22 := f50_22.wr W53
  have f54_23 := f50_23.other W53 (Or.inl ne_a_AT_LEAST_b49)
  have f54_24 := f50_24.other W53 (Or.inl ne_a_EQUAL_symbol_b49)
  have f54_25 := f50_25.other W53 (Or.inl ne_a_AT_MOST_symbol_b49)
  have f54_26 := f50_26.other W53 (Or.inl ne_a_LESS_symbol_b49)
  have f54_27 := f50_27.other W53 (Or.inl ne_a_UNEQUAL_symbol_b49)
  have f54_28 := f50_28.other W53 (Or.inl ne_a_GREATER_symbol_b49)
  have f54_29 := f50_29.other W53 (Or.inl ne_a_AT_LEAST_symbol_b49)
  have f54_30 := f50_30.other W53 (Or.inl ne_a_EQUAL_b49)
  have f54_31 := f50_31.other W53 (Or.inl ne_a_EQUAL_symbol_b49)
  have f54_32 := f50_32.other W53 (Or.inl ne_a_AT_MOST_b49)
  have f54_33 := f50_33.other W53 (Or.inl ne_a_UNEQUAL_b49)
  have f54_34 := f50_34.other W53 (Or.inl ne_a_AT_MOST_symbol_b49)
  have f54_35 := f50_35.other W53 (Or.inl ne_a_LESS_b49)
  have f54_36 := f50_36.other W53 (Or.inl ne_a_LESS_symbol_b49)
  have f54_37 := f50_37.other W53 (Or.inl ne_a_UNEQUAL_symbol_b49)
  have f54_38 := f50_38.other W53 (Or.inl ne_a_GREATER_b49)
  have f54_39 := f50_39.other W53 (Or.inl ne_a_GREATER_symbol_b49)
  have f54_40 := f50_40.other W53 (Or.inl ne_a_AT_LEAST_b49)
  have f54_41 := f50_41.other W53 (Or.inl ne_a_AT_LEAST_symbol_b49)
  have f54_42 := f50_42.other W53 ne_a_EQUAL_symbol_value_b49
  have f54_43 := f50_43.other W53 ne_a_UNEQUAL_symbol_value_b49
  have f54_44 := f50_44.other W53 ne_a_AT_MOST_symbol_value_b49
  have f54_45 := f50_45.other W53 ne_a_AT_LEAST_symbol_value_b49
  have f54_46 := f50_46.other W53 ne_a_LESS_symbol_value_b49
  have f54_47 := f50_47.other W53 ne_a_GREATER_symbol_value_b49
  have f54_48 := f50_48.wr W53
  have f54_49 := f50_49.wr W53
  have K55 : Keep h0 h53 [] := K51.wr W53 (Or.inr sz_b49)
  have N56 := Fr.snoc X53 N0 g_b49
  replace V53 : own_AVk Z h53 b49 k49 (.object "com/example/attributes_to_entitlements/attributestoentitlements/Operator") [(.ref a_EQUAL), .null, .null, .null, .null, .null] := V53
  refine own_st st53 ?_
  show own_Fin p e below G (T53.setTop (mkF m 11 #[iv p1, iv p2, .unset, .unset, .unset, .unset, .unset, .unset, .unset, .unset, .unset, .unset] [(.ref b49)]))
  refine own_st (fun _ k => XS.dup X53.here hx rfl (hb hby at_11) rfl rfl k) ?_
  show own_Fin p e below G (T53.setTop (mkF m 12 #[iv p1, iv p2, .unset, .unset, .unset, .unset, .unset, .unset, .unset, .unset, .unset, .unset] [(.ref b49), (.ref b49)]))
  refine own_st (fun _ k => XS.iconst X53.here hx rfl (hb hby at_12) k) ?_
  show own_Fin p e below G (T53.setTop (mkF m 13 #[iv p1, iv p2, .unset, .unset, .unset, .unset, .unset, .unset, .unset, .unset, .unset, .unset] [(.int (1 : Int32)), (.ref b49), (.ref b49)]))
  obtain ⟨T57, X57, e57, st57⟩ := getS2 X53 hx hZ hown (host := "") (Or.inl (own_w hw 6 rfl)) Via.refl e53 f54_3 (g := (mkF m 13 #[iv p1, iv p2, .unset, .unset, .unset, .unset, .unset, .unset, .unset, .unset, .unset, .unset] [(.int (1 : Int32)), (.ref b49), (.ref b49)])) rfl (hb hby at_13)
  refine own_st st57 ?_
  show own_Fin p e below G (T57.setTop (mkF m 16 #[iv p1, iv p2, .unset, .unset, .unset, .unset, .unset, .unset, .unset, .unset, .unset, .unset] [(.ref a_UNEQUAL), (.int (1 : Int32)), (.ref b49), (.ref b49)]))
  obtain ⟨T58, h58, X58, e58, W58, V58, st58⟩ := own_stR X57 hx hZ e57 V53 (j := (1 : Int32)) (n := 6) rfl (by decide) rfl (fun A q => Sto.ofV A q O49 (Ins.self f54_2)) (g := (mkF m 16 #[iv p1, iv p2, .unset, .unset, .unset, .unset, .unset, .unset, .unset, .unset, .unset, .unset] [(.ref a_UNEQUAL), (.int (1 : Int32)), (.ref b49), (.ref b49)])) rfl rfl (hb hby at_16)
  have f59_0 := f54_0.wr W58
  have f59_1 := f54_1.wr W58
  have f59_2 := f54_2.wr W58
  have f59_3 := f54_3.wr W58
  have f59_4 := f54_4.wr W58
  have f59_5 := f54_5.wr W58
  have f59_6 := f54_6.wr W58
  have f59_7 := f54_7.wr W58
  have f59_8 := f54_8.wr W58
  have f59_9 := f54_9.wr W58
  have f59_10 := f54_10.wr W58
  have f59_11 := f54_11.wr W58
  have f59_12 := f54_12.wr W58
  have f59_13 := f54_13.other W58 (Or.inl ne_a_EQUAL_b49)
  have f59_14 := f54_14.wr W58
  have f59_15 := f54_15.other W58 (Or.inl ne_a_AT_MOST_b49)
  have f59_16 := f54_16.wr W58
  have f59_17 := f54_17.other W58 (Or.inl ne_a_LESS_b49)
  have f59_18 := f54_18.wr W58
  have f59_19 := f54_19.other W58 (Or.inl ne_a_UNEQUAL_b49)
  have f59_20 := f54_20.wr W58
  have f59_21 := f54_21.other W58 (Or.inl ne_a_GREATER_b49)
  have f59_22 := f54_22.wr W58
  have f59_23 := f54_23.other W58 (Or.inl ne_a_AT_LEAST_b49)
  have f59_24 := f54_24.other W58 (Or.inl ne_a_EQUAL_symbol_b49)
  have f59_25 := f54_25.other W58 (Or.inl ne_a_AT_MOST_symbol_b49)
  have f59_26 := f54_26.other W58 (Or.inl ne_a_LESS_symbol_b49)
  have f59_27 := f54_27.other W58 (Or.inl ne_a_UNEQUAL_symbol_b49)
  have f59_28 := f54_28.other W58 (Or.inl ne_a_GREATER_symbol_b49)
  have f59_29 := f54_29.other W58 (Or.inl ne_a_AT_LEAST_symbol_b49)
  have f59_30 := f54_30.other W58 (Or.inl ne_a_EQUAL_b49)
  have f59_31 := f54_31.other W58 (Or.inl ne_a_EQUAL_symbol_b49)
  have f59_32 := f54_32.other W58 (Or.inl ne_a_AT_MOST_b49)
  have f59_33 := f54_33.other W58 (Or.inl ne_a_UNEQUAL_b49)
  have f59_34 := f54_34.other W58 (Or.inl ne_a_AT_MOST_symbol_b49)
  have f59_35 := f54_35.other W58 (Or.inl ne_a_LESS_b49)
  have f59_36 := f54_36.other W58 (Or.inl ne_a_LESS_symbol_b49)
  have f59_37 := f54_37.other W58 (Or.inl ne_a_UNEQUAL_symbol_b49)
  have f59_38 := f54_38.other W58 (Or.inl ne_a_GREATER_b49)
  have f59_39 := f54_39.other W58 (Or.inl ne_a_GREATER_symbol_b49)
  have f59_40 := f54_40.other W58 (Or.inl ne_a_AT_LEAST_b49)
  have f59_41 := f54_41.other W58 (Or.inl ne_a_AT_LEAST_symbol_b49)
  have f59_42 := f54_42.other W58 ne_a_EQUAL_symbol_value_b49
  have f59_43 := f54_43.other W58 ne_a_UNEQUAL_symbol_value_b49
  have f59_44 := f54_44.other W58 ne_a_AT_MOST_symbol_value_b49
  have f59_45 := f54_45.other W58 ne_a_AT_LEAST_symbol_value_b49
  have f59_46 := f54_46.other W58 ne_a_LESS_symbol_value_b49
  have f59_47 := f54_47.other W58 ne_a_GREATER_symbol_value_b49
  have f59_48 := f54_48.wr W58
  have f59_49 := f54_49.wr W58
  have K60 : Keep h0 h58 [] := K55.wr W58 (Or.inr sz_b49)
  have N61 := Fr.snoc X58 N56 g_b49
  replace V58 : own_AVk Z h58 b49 k49 (.object "com/example/attributes_to_entitlements/attributestoentitlements/Operator") [(.ref a_EQUAL), (.ref a_UNEQUAL), .null, .null, .null, .null] := V58
  refine own_st st58 ?_
  show own_Fin p e below G (T58.setTop (mkF m 17 #[iv p1, iv p2, .unset, .unset, .unset, .unset, .unset, .unset, .unset, .unset, .unset, .unset] [(.ref b49)]))
  refine own_st (fun _ k => XS.dup X58.here hx rfl (hb hby at_17) rfl rfl k) ?_
  show own_Fin p e below G (T58.setTop (mkF m 18 #[iv p1, iv p2, .unset, .unset, .unset, .unset, .unset, .unset, .unset, .unset, .unset, .unset] [(.ref b49), (.ref b49)]))
  refine own_st (fun _ k => XS.iconst X58.here hx rfl (hb hby at_18) k) ?_
  show own_Fin p e below G (T58.setTop (mkF m 19 #[iv p1, iv p2, .unset, .unset, .unset, .unset, .unset, .unset, .unset, .unset, .unset, .unset] [(.int (2 : Int32)), (.ref b49), (.ref b49)]))
  obtain ⟨T62, X62, e62, st62⟩ := getS2 X58 hx hZ hown (host := "") (Or.inl (own_w hw 8 rfl)) Via.refl e58 f59_5 (g := (mkF m 19 #[iv p1, iv p2, .unset, .unset, .unset, .unset, .unset, .unset, .unset, .unset, .unset, .unset] [(.int (2 : Int32)), (.ref b49), (.ref b49)])) rfl (hb hby at_19)
  refine own_st st62 ?_
  show own_Fin p e below G (T62.setTop (mkF m 22 #[iv p1, iv p2, .unset, .unset, .unset, .unset, .unset, .unset, .unset, .unset, .unset, .unset] [(.ref a_AT_MOST), (.int (2 : Int32)), (.ref b49), (.ref b49)]))
  obtain ⟨T63, h63, X63, e63, W63, V63, st63⟩ := own_stR X62 hx hZ e62 V58 (j := (2 : Int32)) (n := 6) rfl (by decide) rfl (fun A q => Sto.ofV A q O49 (Ins.self f59_4)) (g := (mkF m 22 #[iv p1, iv p2, .unset, .unset, .unset, .unset, .unset, .unset, .unset, .unset, .unset, .unset] [(.ref a_AT_MOST), (.int (2 : Int32)), (.ref b49), (.ref b49)])) rfl rfl (hb hby at_22)
  have f64_0 := f59_0.wr W63
  have f64_1 := f59_1.wr W63
  have f64_2 := f59_2.wr W63
  have f64_3 := f59_3.wr W63
  have f64_4 := f59_4.wr W63
  have f64_5 := f59_5.wr W63
  have f64_6 := f59_6.wr W63
  have f64_7 := f59_7.wr W63
  have f64_8 := f59_8.wr W63
  have f64_9 := f59_9.wr W63
  have f64_10 := f59_10.wr W63
  have f64_11 := f59_11.wr W63
  have f64_12 := f59_12.wr W63
  have f64_13 := f59_13.other W63 (Or.inl ne_a_EQUAL_b49)
  have f64_14 := f59_14.wr W63
  have f64_15 := f59_15.other W63 (Or.inl ne_a_AT_MOST_b49)
  have f64_16 := f59_16.wr W63
  have f64_17 := f59_17.other W63 (Or.inl ne_a_LESS_b49)
  have f64_18 := f59_18.wr W63
  have f64_19 := f59_19.other W63 (Or.inl ne_a_UNEQUAL_b49)
  have f64_20 := f59_20.wr W63
  have f64_21 := f59_21.other W63 (Or.inl ne_a_GREATER_b49)
  have f64_22 := f59_22.wr W63
  have f64_23 := f59_23.other W63 (Or.inl ne_a_AT_LEAST_b49)
  have f64_24 := f59_24.other W63 (Or.inl ne_a_EQUAL_symbol_b49)
  have f64_25 := f59_25.other W63 (Or.inl ne_a_AT_MOST_symbol_b49)
  have f64_26 := f59_26.other W63 (Or.inl ne_a_LESS_symbol_b49)
  have f64_27 := f59_27.other W63 (Or.inl ne_a_UNEQUAL_symbol_b49)
  have f64_28 := f59_28.other W63 (Or.inl ne_a_GREATER_symbol_b49)
  have f64_29 := f59_29.other W63 (Or.inl ne_a_AT_LEAST_symbol_b49)
  have f64_30 := f59_30.other W63 (Or.inl ne_a_EQUAL_b49)
  have f64_31 := f59_31.other W63 (Or.inl ne_a_EQUAL_symbol_b49)
  have f64_32 := f59_32.other W63 (Or.inl ne_a_AT_MOST_b49)
  have f64_33 := f59_33.other W63 (Or.inl ne_a_UNEQUAL_b49)
  have f64_34 := f59_34.other W63 (Or.inl ne_a_AT_MOST_symbol_b49)
  have f64_35 := f59_35.other W63 (Or.inl ne_a_LESS_b49)
  have f64_36 := f59_36.other W63 (Or.inl ne_a_LESS_symbol_b49)
  have f64_37 := f59_37.other W63 (Or.inl ne_a_UNEQUAL_symbol_b49)
  have f64_38 := f59_38.other W63 (Or.inl ne_a_GREATER_b49)
  have f64_39 := f59_39.other W63 (Or.inl ne_a_GREATER_symbol_b49)
  have f64_40 := f59_40.other W63 (Or.inl ne_a_AT_LEAST_b49)
  have f64_41 := f59_41.other W63 (Or.inl ne_a_AT_LEAST_symbol_b49)
  have f64_42 := f59_42.other W63 ne_a_EQUAL_symbol_value_b49
  have f64_43 := f59_43.other W63 ne_a_UNEQUAL_symbol_value_b49
  have f64_44 := f59_44.other W63 ne_a_AT_MOST_symbol_value_b49
  have f64_45 := f59_45.other W63 ne_a_AT_LEAST_symbol_value_b49
  have f64_46 := f59_46.other W63 ne_a_LESS_symbol_value_b49
  have f64_47 := f59_47.other W63 ne_a_GREATER_symbol_value_b49
  have f64_48 := f59_48.wr W63
  have f64_49 := f59_49.wr W63
  have K65 : Keep h0 h63 [] := K60.wr W63 (Or.inr sz_b49)
  have N66 := Fr.snoc X63 N61 g_b49
  replace V63 : own_AVk Z h63 b49 k49 (.object "com/example/attributes_to_entitlements/attributestoentitlements/Operator") [(.ref a_EQUAL), (.ref a_UNEQUAL), (.ref a_AT_MOST), .null, .null, .null] := V63
  refine own_st st63 ?_
  show own_Fin p e below G (T63.setTop (mkF m 23 #[iv p1, iv p2, .unset, .unset, .unset, .unset, .unset, .unset, .unset, .unset, .unset, .unset] [(.ref b49)]))
  refine own_st (fun _ k => XS.dup X63.here hx rfl (hb hby at_23) rfl rfl k) ?_
  show own_Fin p e below G (T63.setTop (mkF m 24 #[iv p1, iv p2, .unset, .unset, .unset, .unset, .unset, .unset, .unset, .unset, .unset, .unset] [(.ref b49), (.ref b49)]))
  refine own_st (fun _ k => XS.iconst X63.here hx rfl (hb hby at_24) k) ?_
  show own_Fin p e below G (T63.setTop (mkF m 25 #[iv p1, iv p2, .unset, .unset, .unset, .unset, .unset, .unset, .unset, .unset, .unset, .unset] [(.int (3 : Int32)), (.ref b49), (.ref b49)]))
  obtain ⟨T67, X67, e67, st67⟩ := getS2 X63 hx hZ hown (host := "") (Or.inl (own_w hw 10 rfl)) Via.refl e63 f64_7 (g := (mkF m 25 #[iv p1, iv p2, .unset, .unset, .unset, .unset, .unset, .unset, .unset, .unset, .unset, .unset] [(.int (3 : Int32)), (.ref b49), (.ref b49)])) rfl (hb hby at_25)
  refine own_st st67 ?_
  show own_Fin p e below G (T67.setTop (mkF m 28 #[iv p1, iv p2, .unset, .unset, .unset, .unset, .unset, .unset, .unset, .unset, .unset, .unset] [(.ref a_AT_LEAST), (.int (3 : Int32)), (.ref b49), (.ref b49)]))
  obtain ⟨T68, h68, X68, e68, W68, V68, st68⟩ := own_stR X67 hx hZ e67 V63 (j := (3 : Int32)) (n := 6) rfl (by decide) rfl (fun A q => Sto.ofV A q O49 (Ins.self f64_6)) (g := (mkF m 28 #[iv p1, iv p2, .unset, .unset, .unset, .unset, .unset, .unset, .unset, .unset, .unset, .unset] [(.ref a_AT_LEAST), (.int (3 : Int32)), (.ref b49), (.ref b49)])) rfl rfl (hb hby at_28)
  have f69_0 := f64_0.wr W68
  have f69_1 := f64_1.wr W68
  have f69_2 := f64_2.wr W68
  have f69_3 := f64_3.wr W68
  have f69_4 := f64_4.wr W68
  have f69_5 := f64_5.wr W68
  have f69_6 := f64_6.wr W68
  have f69_7 := f64_7.wr W68
  have f69_8 := f64_8.wr W68
  have f69_9 := f64_9.wr W68
  have f69_10 := f64_10.wr W68
  have f69_11 := f64_11.wr W68
  have f69_12 := f64_12.wr W68
  have f69_13 := f64_13.other W68 (Or.inl ne_a_EQUAL_b49)
  have f69_14 := f64_14.wr W68
  have f69_15 := f64_15.other W68 (Or.inl ne_a_AT_MOST_b49)
  have f69_16 := f64_16.wr W68
  have f69_17 := f64_17.other W68 (Or.inl ne_a_LESS_b49)
  have f69_18 := f64_18.wr W68
  have f69_19 := f64_19.other W68 (Or.inl ne_a_UNEQUAL_b49)
  have f69_20 := f64_20.wr W68
  have f69_21 := f64_21.other W68 (Or.inl ne_a_GREATER_b49)
  have f69_22 := f64_22.wr W68
  have f69_23 := f64_23.other W68 (Or.inl ne_a_AT_LEAST_b49)
  have f69_24 := f64_24.other W68 (Or.inl ne_a_EQUAL_symbol_b49)
  have f69_25 := f64_25.other W68 (Or.inl ne_a_AT_MOST_symbol_b49)
  have f69_26 := f64_26.other W68 (Or.inl ne_a_LESS_symbol_b49)
  have f69_27 := f64_27.other W68 (Or.inl ne_a_UNEQUAL_symbol_b49)
  have f69_28 := f64_28.other W68 (Or.inl ne_a_GREATER_symbol_b49)
  have f69_29 := f64_29.other W68 (Or.inl ne_a_AT_LEAST_symbol_b49)
  have f69_30 := f64_30.other W68 (Or.inl ne_a_EQUAL_b49)
  have f69_31 := f64_31.other W68 (Or.inl ne_a_EQUAL_symbol_b49)
  have f69_32 := f64_32.other W68 (Or.inl ne_a_AT_MOST_b49)
  have f69_33 := f64_33.other W68 (Or.inl ne_a_UNEQUAL_b49)
  have f69_34 := f64_34.other W68 (Or.inl ne_a_AT_MOST_symbol_b49)
  have f69_35 := f64_35.other W68 (Or.inl ne_a_LESS_b49)
  have f69_36 := f64_36.other W68 (Or.inl ne_a_LESS_symbol_b49)
  have f69_37 := f64_37.other W68 (Or.inl ne_a_UNEQUAL_symbol_b49)
  have f69_38 := f64_38.other W68 (Or.inl ne_a_GREATER_b49)
  have f69_39 := f64_39.other W68 (Or.inl ne_a_GREATER_symbol_b49)
  have f69_40 := f64_40.other W68 (Or.inl ne_a_AT_LEAST_b49)
  have f69_41 := f64_41.other W68 (Or.inl ne_a_AT_LEAST_symbol_b49)
  have f69_42 := f64_42.other W68 ne_a_EQUAL_symbol_value_b49
  have f69_43 := f64_43.other W68 ne_a_UNEQUAL_symbol_value_b49
  have f69_44 := f64_44.other W68 ne_a_AT_MOST_symbol_value_b49
  have f69_45 := f64_45.other W68 ne_a_AT_LEAST_symbol_value_b49
  have f69_46 := f64_46.other W68 ne_a_LESS_symbol_value_b49
  have f69_47 := f64_47.other W68 ne_a_GREATER_symbol_value_b49
  have f69_48 := f64_48.wr W68
  have f69_49 := f64_49.wr W68
  have K70 : Keep h0 h68 [] := K65.wr W68 (Or.inr sz_b49)
  have N71 := Fr.snoc X68 N66 g_b49
  replace V68 : own_AVk Z h68 b49 k49 (.object "com/example/attributes_to_entitlements/attributestoentitlements/Operator") [(.ref a_EQUAL), (.ref a_UNEQUAL), (.ref a_AT_MOST), (.ref a_AT_LEAST), .null, .null] := V68
  refine own_st st68 ?_
  show own_Fin p e below G (T68.setTop (mkF m 29 #[iv p1, iv p2, .unset, .unset, .unset, .unset, .unset, .unset, .unset, .unset, .unset, .unset] [(.ref b49)]))
  refine own_st (fun _ k => XS.dup X68.here hx rfl (hb hby at_29) rfl rfl k) ?_
  show own_Fin p e below G (T68.setTop (mkF m 30 #[iv p1, iv p2, .unset, .unset, .unset, .unset, .unset, .unset, .unset, .unset, .unset, .unset] [(.ref b49), (.ref b49)]))
  refine own_st (fun _ k => XS.iconst X68.here hx rfl (hb hby at_30) k) ?_
  show own_Fin p e below G (T68.setTop (mkF m 31 #[iv p1, iv p2, .unset, .unset, .unset, .unset, .unset, .unset, .unset, .unset, .unset, .unset] [(.int (4 : Int32)), (.ref b49), (.ref b49)]))
  obtain ⟨T72, X72, e72, st72⟩ := getS2 X68 hx hZ hown (host := "") (Or.inl (own_w hw 12 rfl)) Via.refl e68 f69_9 (g := (mkF m 31 #[iv p1, iv p2, .unset, .unset, .unset, .unset, .unset, .unset, .unset, .unset, .unset, .unset] [(.int (4 : Int32)), (.ref b49), (.ref b49)])) rfl (hb hby at_31)
  refine own_st st72 ?_
  show own_Fin p e below G (T72.setTop (mkF m 34 #[iv p1, iv p2, .unset, .unset, .unset, .unset, .unset, .unset, .unset, .unset, .unset, .unset] [(.ref a_LESS), (.int (4 : Int32)), (.ref b49), (.ref b49)]))
  obtain ⟨T73, h73, X73, e73, W73, V73, st73⟩ := own_stR X72 hx hZ e72 V68 (j := (4 : Int32)) (n := 6) rfl (by decide) rfl (fun A q => Sto.ofV A q O49 (Ins.self f69_8)) (g := (mkF m 34 #[iv p1, iv p2, .unset, .unset, .unset, .unset, .unset, .unset, .unset, .unset, .unset, .unset] [(.ref a_LESS), (.int (4 : Int32)), (.ref b49), (.ref b49)])) rfl rfl (hb hby at_34)
  have f74_0 := f69_0.wr W73
  have f74_1 := f69_1.wr W73
  have f74_2 := f69_2.wr W73
  have f74_3 := f69_3.wr W73
  have f74_4 := f69_4.wr W73
  have f74_5 := f69_5.wr W73
  have f74_6 := f69_6.wr W73
  have f74_7 := f69_7.wr W73
  have f74_8 := f69_8.wr W73
  have f74_9 := f69_9.wr W73
  have f74_10 := f69_10.wr W73
  have f74_11 := f69_11.wr W73
  have f74_12 := f69_12.wr W73
  have f74_13 := f69_13.other W73 (Or.inl ne_a_EQUAL_b49)
  have f74_14 := f69_14.wr W73
  have f74_15 := f69_15.other W73 (Or.inl ne_a_AT_MOST_b49)
  have f74_16 := f69_16.wr W73
  have f74_17 := f69_17.other W73 (Or.inl ne_a_LESS_b49)
  have f74_18 := f69_18.wr W73
  have f74_19 := f69_19.other W73 (Or.inl ne_a_UNEQUAL_b49)
  have f74_20 := f69_20.wr W73
  have f74_21 := f69_21.other W73 (Or.inl ne_a_GREATER_b49)
  have f74_22 := f69_22.wr W73
  have f74_23 := f69_23.other W73 (Or.inl ne_a_AT_LEAST_b49)
  have f74_24 := f69_24.other W73 (Or.inl ne_a_EQUAL_symbol_b49)
  have f74_25 := f69_25.other W73 (Or.inl ne_a_AT_MOST_symbol_b49)
  have f74_26 := f69_26.other W73 (Or.inl ne_a_LESS_symbol_b49)
  have f74_27 := f69_27.other W73 (Or.inl ne_a_UNEQUAL_symbol_b49)
  have f74_28 := f69_28.other W73 (Or.inl ne_a_GREATER_symbol_b49)
  have f74_29 := f69_29.other W73 (Or.inl ne_a_AT_LEAST_symbol_b49)
  have f74_30 := f69_30.other W73 (Or.inl ne_a_EQUAL_b49)
  have f74_31 := f69_31.other W73 (Or.inl ne_a_EQUAL_symbol_b49)
  have f74_32 := f69_32.other W73 (Or.inl ne_a_AT_MOST_b49)
  have f74_33 := f69_33.other W73 (Or.inl ne_a_UNEQUAL_b49)
  have f74_34 := f69_34.other W73 (Or.inl ne_a_AT_MOST_symbol_b49)
  have f74_35 := f69_35.other W73 (Or.inl ne_a_LESS_b49)
  have f74_36 := f69_36.other W73 (Or.inl ne_a_LESS_symbol_b49)
  have f74_37 := f69_37.other W73 (Or.inl ne_a_UNEQUAL_symbol_b49)
  have f74_38 := f69_38.other W73 (Or.inl ne_a_GREATER_b49)
  have f74_39 := f69_39.other W73 (Or.inl ne_a_GREATER_symbol_b49)
  have f74_40 := f69_40.other W73 (Or.inl ne_a_AT_LEAST_b49)
  have f74_41 := f69_41.other W73 (Or.inl ne_a_AT_LEAST_symbol_b49)
  have f74_42 := f69_42.other W73 ne_a_EQUAL_symbol_value_b49
  have f74_43 := f69_43.other W73 ne_a_UNEQUAL_symbol_value_b49
  have f74_44 := f69_44.other W73 ne_a_AT_MOST_symbol_value_b49
  have f74_45 := f69_45.other W73 ne_a_AT_LEAST_symbol_value_b49
  have f74_46 := f69_46.other W73 ne_a_LESS_symbol_value_b49
  have f74_47 := f69_47.other W73 ne_a_GREATER_symbol_value_b49
  have f74_48 := f69_48.wr W73
  have f74_49 := f69_49.wr W73
  have K75 : Keep h0 h73 [] := K70.wr W73 (Or.inr sz_b49)
  have N76 := Fr.snoc X73 N71 g_b49
  replace V73 : own_AVk Z h73 b49 k49 (.object "com/example/attributes_to_entitlements/attributestoentitlements/Operator") [(.ref a_EQUAL), (.ref a_UNEQUAL), (.ref a_AT_MOST), (.ref a_AT_LEAST), (.ref a_LESS), .null] := V73
  refine own_st st73 ?_
  show own_Fin p e below G (T73.setTop (mkF m 35 #[iv p1, iv p2, .unset, .unset, .unset, .unset, .unset, .unset, .unset, .unset, .unset, .unset] [(.ref b49)]))
  refine own_st (fun _ k => XS.dup X73.here hx rfl (hb hby at_35) rfl rfl k) ?_
  show own_Fin p e below G (T73.setTop (mkF m 36 #[iv p1, iv p2, .unset, .unset, .unset, .unset, .unset, .unset, .unset, .unset, .unset, .unset] [(.ref b49), (.ref b49)]))
  refine own_st (fun _ k => XS.iconst X73.here hx rfl (hb hby at_36) k) ?_
  show own_Fin p e below G (T73.setTop (mkF m 37 #[iv p1, iv p2, .unset, .unset, .unset, .unset, .unset, .unset, .unset, .unset, .unset, .unset] [(.int (5 : Int32)), (.ref b49), (.ref b49)]))
  obtain ⟨T77, X77, e77, st77⟩ := getS2 X73 hx hZ hown (host := "") (Or.inl (own_w hw 14 rfl)) Via.refl e73 f74_11 (g := (mkF m 37 #[iv p1, iv p2, .unset, .unset, .unset, .unset, .unset, .unset, .unset, .unset, .unset, .unset] [(.int (5 : Int32)), (.ref b49), (.ref b49)])) rfl (hb hby at_37)
  refine own_st st77 ?_
  show own_Fin p e below G (T77.setTop (mkF m 40 #[iv p1, iv p2, .unset, .unset, .unset, .unset, .unset, .unset, .unset, .unset, .unset, .unset] [(.ref a_GREATER), (.int (5 : Int32)), (.ref b49), (.ref b49)]))
  obtain ⟨T78, h78, X78, e78, W78, V78, st78⟩ := own_stR X77 hx hZ e77 V73 (j := (5 : Int32)) (n := 6) rfl (by decide) rfl (fun A q => Sto.ofV A q O49 (Ins.self f74_10)) (g := (mkF m 40 #[iv p1, iv p2, .unset, .unset, .unset, .unset, .unset, .unset, .unset, .unset, .unset, .unset] [(.ref a_GREATER), (.int (5 : Int32)), (.ref b49), (.ref b49)])) rfl rfl (hb hby at_40)
  have f79_0 := f74_0.wr W78
  have f79_1 := f74_1.wr W78
  have f79_2 := f74_2.wr W78
  have f79_3 := f74_3.wr W78
  have f79_4 := f74_4.wr W78
  have f79_5 := f74_5.wr W78
  have f79_6 := f74_6.wr W78
  have f79_7 := f74_7.wr W78
  have f79_8 := f74_8.wr W78
  have f79_9 := f74_9.wr W78
  have f79_10 := f74_10.wr W78
  have f79_11 := f74_11.wr W78
  have f79_12 := f74_12.wr W78
  have f79_13 := f74_13.other W78 (Or.inl ne_a_EQUAL_b49)
  have f79_14 := f74_14.wr W78
  have f79_15 := f74_15.other W78 (Or.inl ne_a_AT_MOST_b49)
  have f79_16 := f74_16.wr W78
  have f79_17 := f74_17.other W78 (Or.inl ne_a_LESS_b49)
  have f79_18 := f74_18.wr W78
  have f79_19 := f74_19.other W78 (Or.inl ne_a_UNEQUAL_b49)
  have f79_20 := f74_20.wr W78
  have f79_21 := f74_21.other W78 (Or.inl ne_a_GREATER_b49)
  have f79_22 := f74_22.wr W78
  have f79_23 := f74_23.other W78 (Or.inl ne_a_AT_LEAST_b49)
  have f79_24 := f74_24.other W78 (Or.inl ne_a_EQUAL_symbol_b49)
  have f79_25 := f74_25.other W78 (Or.inl ne_a_AT_MOST_symbol_b49)
  have f79_26 := f74_26.other W78 (Or.inl ne_a_LESS_symbol_b49)
  have f79_27 := f74_27.other W78 (Or.inl ne_a_UNEQUAL_symbol_b49)
  have f79_28 := f74_28.other W78 (Or.inl ne_a_GREATER_symbol_b49)
  have f79_29 := f74_29.other W78 (Or.inl ne_a_AT_LEAST_symbol_b49)
  have f79_30 := f74_30.other W78 (Or.inl ne_a_EQUAL_b49)
  have f79_31 := f74_31.other W78 (Or.inl ne_a_EQUAL_symbol_b49)
  have f79_32 := f74_32.other W78 (Or.inl ne_a_AT_MOST_b49)
  have f79_33 := f74_33.other W78 (Or.inl ne_a_UNEQUAL_b49)
  have f79_34 := f74_34.other W78 (Or.inl ne_a_AT_MOST_symbol_b49)
  have f79_35 := f74_35.other W78 (Or.inl ne_a_LESS_b49)
  have f79_36 := f74_36.other W78 (Or.inl ne_a_LESS_symbol_b49)
  have f79_37 := f74_37.other W78 (Or.inl ne_a_UNEQUAL_symbol_b49)
  have f79_38 := f74_38.other W78 (Or.inl ne_a_GREATER_b49)
  have f79_39 := f74_39.other W78 (Or.inl ne_a_GREATER_symbol_b49)
  have f79_40 := f74_40.other W78 (Or.inl ne_a_AT_LEAST_b49)
  have f79_41 := f74_41.other W78 (Or.inl ne_a_AT_LEAST_symbol_b49)
  have f79_42 := f74_42.other W78 ne_a_EQUAL_symbol_value_b49
  have f79_43 := f74_43.other W78 ne_a_UNEQUAL_symbol_value_b49
  have f79_44 := f74_44.other W78 ne_a_AT_MOST_symbol_value_b49
  have f79_45 := f74_45.other W78 ne_a_AT_LEAST_symbol_value_b49
  have f79_46 := f74_46.other W78 ne_a_LESS_symbol_value_b49
  have f79_47 := f74_47.other W78 ne_a_GREATER_symbol_value_b49
  have f79_48 := f74_48.wr W78
  have f79_49 := f74_49.wr W78
  have K80 : Keep h0 h78 [] := K75.wr W78 (Or.inr sz_b49)
  have N81 := Fr.snoc X78 N76 g_b49
  replace V78 : own_AVk Z h78 b49 k49 (.object "com/example/attributes_to_entitlements/attributestoentitlements/Operator") [(.ref a_EQUAL), (.ref a_UNEQUAL), (.ref a_AT_MOST), (.ref a_AT_LEAST), (.ref a_LESS), (.ref a_GREATER)] := V78
  refine own_st st78 ?_
  show own_Fin p e below G (T78.setTop (mkF m 41 #[iv p1, iv p2, .unset, .unset, .unset, .unset, .unset, .unset, .unset, .unset, .unset, .unset] [(.ref b49)]))
  refine own_st (fun _ k => XS.astoreN X78.here hx rfl (hb hby at_41) rfl rfl (l' := #[iv p1, iv p2, rv b49, .unset, .unset, .unset, .unset, .unset, .unset, .unset, .unset, .unset]) rfl k) ?_
  show own_Fin p e below G (T78.setTop (mkF m 42 #[iv p1, iv p2, rv b49, .unset, .unset, .unset, .unset, .unset, .unset, .unset, .unset, .unset] []))
  refine own_st (fun _ k => XS.iloadN X78.here hx rfl (hb hby at_42) rfl  k) ?_
  show own_Fin p e below G (T78.setTop (mkF m 43 #[iv p1, iv p2, rv b49, .unset, .unset, .unset, .unset, .unset, .unset, .unset, .unset, .unset] [(.int p1)]))
  refine own_st (fun _ k => own_ldc X78 hx hZ hown (own_w hw 16 rfl) (g := (mkF m 43 #[iv p1, iv p2, rv b49, .unset, .unset, .unset, .unset, .unset, .unset, .unset, .unset, .unset] [(.int p1)])) rfl (hb hby at_43) k) ?_
  show own_Fin p e below G (T78.setTop (mkF m 45 #[iv p1, iv p2, rv b49, .unset, .unset, .unset, .unset, .unset, .unset, .unset, .unset, .unset] [(.int (2147483647 : Int32)), (.int p1)]))
  refine own_st (fun _ k => XS.iand X78.here hx rfl (hb hby at_45) rfl k) ?_
  show own_Fin p e below G (T78.setTop (mkF m 46 #[iv p1, iv p2, rv b49, .unset, .unset, .unset, .unset, .unset, .unset, .unset, .unset, .unset] [(.int (p1 &&& (2147483647 : Int32)))]))
  refine own_st (fun _ k => XS.bipush X78.here hx rfl (hb hby at_46) k) ?_
  show own_Fin p e below G (T78.setTop (mkF m 48 #[iv p1, iv p2, rv b49, .unset, .unset, .unset, .unset, .unset, .unset, .unset, .unset, .unset] [(.int (6 : Int32)), (.int (p1 &&& (2147483647 : Int32)))]))
  refine own_st (fun _ k => iremM (g := (mkF m 48 #[iv p1, iv p2, rv b49, .unset, .unset, .unset, .unset, .unset, .unset, .unset, .unset, .unset] [(.int (6 : Int32)), (.int (p1 &&& (2147483647 : Int32)))])) X78 hx rfl (hb hby at_48) rfl (by decide) k) ?_
  show own_Fin p e below G (T78.setTop (mkF m 49 #[iv p1, iv p2, rv b49, .unset, .unset, .unset, .unset, .unset, .unset, .unset, .unset, .unset] [(.int ((p1 &&& (2147483647 : Int32)) % (6 : Int32)))]))
  generalize e_v82 : ((p1 &&& (2147483647 : Int32)) % (6 : Int32)) = v82
  show own_Fin p e below G (T78.setTop (mkF m 49 #[iv p1, iv p2, rv b49, .unset, .unset, .unset, .unset, .unset, .unset, .unset, .unset, .unset] [(.int v82)]))
  have r6 := own_r6 p1
  rw [e_v82] at r6
  refine own_st (fun _ k => XS.istoreN X78.here hx rfl (hb hby at_49) rfl (l' := #[iv p1, iv p2, rv b49, iv v82, .unset, .unset, .unset, .unset, .unset, .unset, .unset, .unset]) rfl k) ?_
  show own_Fin p e below G (T78.setTop (mkF m 50 #[iv p1, iv p2, rv b49, iv v82, .unset, .unset, .unset, .unset, .unset, .unset, .unset, .unset] []))
  rcases own_c6 r6 with rfl | rfl | rfl | rfl | rfl | rfl
  · show own_Fin p e below G (T78.setTop (mkF m 50 #[iv p1, iv p2, rv b49, iv (0 : Int32), .unset, .unset, .unset, .unset, .unset, .unset, .unset, .unset] []))
    refine own_st (fun _ k => XS.aloadN X78.here hx rfl (hb hby at_50) rfl rfl k) ?_
    show own_Fin p e below G (T78.setTop (mkF m 51 #[iv p1, iv p2, rv b49, iv (0 : Int32), .unset, .unset, .unset, .unset, .unset, .unset, .unset, .unset] [(.ref b49)]))
    refine own_st (fun _ k => XS.iloadN X78.here hx rfl (hb hby at_51) rfl  k) ?_
    show own_Fin p e below G (T78.setTop (mkF m 52 #[iv p1, iv p2, rv b49, iv (0 : Int32), .unset, .unset, .unset, .unset, .unset, .unset, .unset, .unset] [(.int (0 : Int32)), (.ref b49)]))
    refine own_st (fun _ k => own_ldR X78 hx hZ e78 V78 (j := (0 : Int32)) (n := 6) rfl (by decide) rfl (v := (.ref a_EQUAL)) rfl (g := (mkF m 52 #[iv p1, iv p2, rv b49, iv (0 : Int32), .unset, .unset, .unset, .unset, .unset, .unset, .unset, .unset] [(.int (0 : Int32)), (.ref b49)])) rfl rfl (hb hby at_52) k) ?_
    show own_Fin p e below G (T78.setTop (mkF m 53 #[iv p1, iv p2, rv b49, iv (0 : Int32), .unset, .unset, .unset, .unset, .unset, .unset, .unset, .unset] [(.ref a_EQUAL)]))
    refine own_st (fun _ k => XS.astore X78.here hx rfl (hb hby at_53) rfl rfl (l' := #[iv p1, iv p2, rv b49, iv (0 : Int32), rv a_EQUAL, .unset, .unset, .unset, .unset, .unset, .unset, .unset]) rfl k) ?_
    show own_Fin p e below G (T78.setTop (mkF m 55 #[iv p1, iv p2, rv b49, iv (0 : Int32), rv a_EQUAL, .unset, .unset, .unset, .unset, .unset, .unset, .unset] []))
    refine own_st (fun _ k => XS.iloadN X78.here hx rfl (hb hby at_55) rfl  k) ?_
    show own_Fin p e below G (T78.setTop (mkF m 56 #[iv p1, iv p2, rv b49, iv (0 : Int32), rv a_EQUAL, .unset, .unset, .unset, .unset, .unset, .unset, .unset] [(.int p2)]))
    refine own_st (fun _ k => own_ldc X78 hx hZ hown (own_w hw 17 rfl) (g := (mkF m 56 #[iv p1, iv p2, rv b49, iv (0 : Int32), rv a_EQUAL, .unset, .unset, .unset, .unset, .unset, .unset, .unset] [(.int p2)])) rfl (hb hby at_56) k) ?_
    show own_Fin p e below G (T78.setTop (mkF m 58 #[iv p1, iv p2, rv b49, iv (0 : Int32), rv a_EQUAL, .unset, .unset, .unset, .unset, .unset, .unset, .unset] [(.int (1073741823 : Int32)), (.int p2)]))
    refine own_st (fun _ k => XS.iand X78.here hx rfl (hb hby at_58) rfl k) ?_
    show own_Fin p e below G (T78.setTop (mkF m 59 #[iv p1, iv p2, rv b49, iv (0 : Int32), rv a_EQUAL, .unset, .unset, .unset, .unset, .unset, .unset, .unset] [(.int (p2 &&& (1073741823 : Int32)))]))
    refine own_st (fun _ k => XS.iconst X78.here hx rfl (hb hby at_59) k) ?_
    show own_Fin p e below G (T78.setTop (mkF m 60 #[iv p1, iv p2, rv b49, iv (0 : Int32), rv a_EQUAL, .unset, .unset, .unset, .unset, .unset, .unset, .unset] [(.int (1 : Int32)), (.int (p2 &&& (1073741823 : Int32)))]))
    refine own_st (fun _ k => XS.iadd X78.here hx rfl (hb hby at_60) rfl k) ?_
    show own_Fin p e below G (T78.setTop (mkF m 61 #[iv p1, iv p2, rv b49, iv (0 : Int32), rv a_EQUAL, .unset, .unset, .unset, .unset, .unset, .unset, .unset] [(.int ((p2 &&& (1073741823 : Int32)) + (1 : Int32)))]))
    generalize e_v83 : ((p2 &&& (1073741823 : Int32)) + (1 : Int32)) = v83
    show own_Fin p e below G (T78.setTop (mkF m 61 #[iv p1, iv p2, rv b49, iv (0 : Int32), rv a_EQUAL, .unset, .unset, .unset, .unset, .unset, .unset, .unset] [(.int v83)]))
    have rp := own_pos p2
    rw [e_v83] at rp
    have t0 : (0 : Int32).toInt = 0 := rfl
    have z1p : ¬ v83 = (0 : Int32) := by rw [← Int32.toInt_inj]; omega
    have z2p : ¬ v83 < (0 : Int32) := by rw [Int32.lt_iff_toInt_lt]; omega
    have z3p : (0 : Int32) < v83 := by rw [Int32.lt_iff_toInt_lt]; omega
    have z1n : ¬ (-v83) = (0 : Int32) := by rw [← Int32.toInt_inj]; omega
    have z2n : (-v83) < (0 : Int32) := by rw [Int32.lt_iff_toInt_lt]; omega
    have z3n : ¬ (0 : Int32) < (-v83) := by rw [Int32.lt_iff_toInt_lt]; omega
    refine own_st (fun _ k => XS.istore X78.here hx rfl (hb hby at_61) rfl (l' := #[iv p1, iv p2, rv b49, iv (0 : Int32), rv a_EQUAL, iv v83, .unset, .unset, .unset, .unset, .unset, .unset]) rfl k) ?_
    show own_Fin p e below G (T78.setTop (mkF m 63 #[iv p1, iv p2, rv b49, iv (0 : Int32), rv a_EQUAL, iv v83, .unset, .unset, .unset, .unset, .unset, .unset] []))
    refine own_st (fun _ k => XS.aload X78.here hx rfl (hb hby at_63) rfl rfl k) ?_
    show own_Fin p e below G (T78.setTop (mkF m 65 #[iv p1, iv p2, rv b49, iv (0 : Int32), rv a_EQUAL, iv v83, .unset, .unset, .unset, .unset, .unset, .unset] [(.ref a_EQUAL)]))
    obtain ⟨cq84, kq84, q84a, q84b, q84c⟩ := isOf hZ e78 f79_0
    obtain ⟨_, _, ⟨T84, L84, k84, n84⟩, -, X84, ⟨Lc84, hQ84, l84, y84, z84⟩, st84⟩ := X78.virtualBack hx (y := own_y0) (z := own_y0) hown (mvT hZ (own_w hw 18 rfl)) (mvT hZ (own_w hw 19 rfl)) (notFace_of_selects (args := #[]) (mvT hZ (own_w hw 21 rfl))) (mvT hZ (own_w hw 21 rfl)) (mvT hZ (own_w hw 20 rfl)) (by decide) (backOf (W := 0) (rm_ors l Z a0 hw [] a_EQUAL a_EQUAL a_UNEQUAL h78 n0 (Nat.le_trans Z0 K80.1) f79_1 f79_3) hZ (own_w hw 22 rfl) (own_w hw 3 rfl) (by decide) (by decide)) q84a q84c (g := (mkF m 65 #[iv p1, iv p2, rv b49, iv (0 : Int32), rv a_EQUAL, iv v83, .unset, .unset, .unset, .unset, .unset, .unset] [(.ref a_EQUAL)])) rfl (by rw [hml]; rfl) (Steps.refl _) (argsL := []) (rest := []) (lenOf pd___Z_171 rfl) rfl (by show 2 * 0 + _ ≤ _; exact Nat.le_of_eq rfl) (hb hby at_65) (fun _ _ => ⟨rfl, e78, (by decide : 1 + 0 ≤ _), (by decide : 6 + 0 ≤ _)⟩)
    dsimp only [Pt.U, Pt.locs, Pt.cells, Pt.slots] at X84 l84 y84 z84 st84 hQ84
    subst l84 y84 z84
    obtain ⟨hv84, N84q, e84⟩ := hQ84
    rw [(by unfold own_ord; rw [if_pos rfl] : own_ord a_EQUAL a_EQUAL a_UNEQUAL = 0)] at hv84
    subst hv84
    skip
    have N84 := Fr.app N81 N84q
    refine own_tr st84 ?_
    show own_Fin p e below G (T84.setTop (mkF m 68 #[iv p1, iv p2, rv b49, iv (0 : Int32), rv a_EQUAL, iv v83, .unset, .unset, .unset, .unset, .unset, .unset] [(.int (0 : Int32))]))
    refine own_st (fun _ k => XS.istore X84.here hx rfl (hb hby at_68) rfl (l' := #[iv p1, iv p2, rv b49, iv (0 : Int32), rv a_EQUAL, iv v83, iv (0 : Int32), .unset, .unset, .unset, .unset, .unset]) rfl k) ?_
    show own_Fin p e below G (T84.setTop (mkF m 70 #[iv p1, iv p2, rv b49, iv (0 : Int32), rv a_EQUAL, iv v83, iv (0 : Int32), .unset, .unset, .unset, .unset, .unset] []))
    refine own_st (fun _ k => XS.aload X84.here hx rfl (hb hby at_70) rfl rfl k) ?_
    show own_Fin p e below G (T84.setTop (mkF m 72 #[iv p1, iv p2, rv b49, iv (0 : Int32), rv a_EQUAL, iv v83, iv (0 : Int32), .unset, .unset, .unset, .unset, .unset] [(.ref a_EQUAL)]))
    refine own_st (fun _ k => XS.iload X84.here hx rfl (hb hby at_72) rfl  k) ?_
    show own_Fin p e below G (T84.setTop (mkF m 74 #[iv p1, iv p2, rv b49, iv (0 : Int32), rv a_EQUAL, iv v83, iv (0 : Int32), .unset, .unset, .unset, .unset, .unset] [(.int v83), (.ref a_EQUAL)]))
    refine own_st (fun _ k => XS.ineg X84.here hx rfl (hb hby at_74) rfl k) ?_
    show own_Fin p e below G (T84.setTop (mkF m 75 #[iv p1, iv p2, rv b49, iv (0 : Int32), rv a_EQUAL, iv v83, iv (0 : Int32), .unset, .unset, .unset, .unset, .unset] [(.int (-v83)), (.ref a_EQUAL)]))
    obtain ⟨cq85, kq85, q85a, q85b, q85c⟩ := isOf hZ e84 f79_0
    obtain ⟨_, _, ⟨T85, L85, k85, n85⟩, -, X85, ⟨Lc85, hQ85, l85, y85, z85⟩, st85⟩ := X84.virtualBack hx (y := own_y3) (z := own_y3) hown (mvT hZ (own_w hw 24 rfl)) (mvT hZ (own_w hw 25 rfl)) (notFace_of_selects (args := #[]) (mvT hZ (own_w hw 27 rfl))) (mvT hZ (own_w hw 27 rfl)) (mvT hZ (own_w hw 26 rfl)) (by decide) (backOf (W := 0) (rm_h0n l Z a0 hw [] a_EQUAL (-v83) h78 n0 (Nat.le_trans Z0 K80.1) f79_0 f79_30 z1n z2n z3n) hZ (own_w hw 28 rfl) (own_w hw 3 rfl) (by decide) (by decide)) q85a q85c (g := (mkF m 75 #[iv p1, iv p2, rv b49, iv (0 : Int32), rv a_EQUAL, iv v83, iv (0 : Int32), .unset, .unset, .unset, .unset, .unset] [(.int (-v83)), (.ref a_EQUAL)])) rfl (by rw [hml]; rfl) (Steps.refl _) (argsL := [(.int (-v83))]) (rest := []) (lenOf pd__I_Z_244 rfl) rfl (by show 2 * 0 + _ ≤ _; exact Nat.le_of_eq rfl) (hb hby at_75) (fun _ _ => ⟨rfl, e84, (by decide : 1 + 0 ≤ _), (by decide : 6 + 0 ≤ _)⟩)
    dsimp only [Pt.U, Pt.locs, Pt.cells, Pt.slots] at X85 l85 y85 z85 st85 hQ85
    subst l85 y85 z85
    obtain ⟨rfl, N85q, e85⟩ := hQ85
    skip
    have N85 := Fr.app N84 N85q
    refine own_tr st85 ?_
    show own_Fin p e below G (T85.setTop (mkF m 78 #[iv p1, iv p2, rv b49, iv (0 : Int32), rv a_EQUAL, iv v83, iv (0 : Int32), .unset, .unset, .unset, .unset, .unset] [(.int (0 : Int32))]))
    refine own_st (fun _ k => XS.aload X85.here hx rfl (hb hby at_78) rfl rfl k) ?_
    show own_Fin p e below G (T85.setTop (mkF m 80 #[iv p1, iv p2, rv b49, iv (0 : Int32), rv a_EQUAL, iv v83, iv (0 : Int32), .unset, .unset, .unset, .unset, .unset] [(.ref a_EQUAL), (.int (0 : Int32))]))
    refine own_st (fun _ k => XS.iload X85.here hx rfl (hb hby at_80) rfl  k) ?_
    show own_Fin p e below G (T85.setTop (mkF m 82 #[iv p1, iv p2, rv b49, iv (0 : Int32), rv a_EQUAL, iv v83, iv (0 : Int32), .unset, .unset, .unset, .unset, .unset] [(.int v83), (.ref a_EQUAL), (.int (0 : Int32))]))
    obtain ⟨cq86, kq86, q86a, q86b, q86c⟩ := isOf hZ e85 f79_0
    obtain ⟨_, _, ⟨T86, L86, k86, n86⟩, -, X86, ⟨Lc86, hQ86, l86, y86, z86⟩, st86⟩ := X85.virtualBack hx (y := own_y3) (z := own_y3) hown (mvT hZ (own_w hw 24 rfl)) (mvT hZ (own_w hw 25 rfl)) (notFace_of_selects (args := #[]) (mvT hZ (own_w hw 27 rfl))) (mvT hZ (own_w hw 27 rfl)) (mvT hZ (own_w hw 26 rfl)) (by decide) (backOf (W := 1) (rm_h0p l Z a0 hw [] a_EQUAL v83 h78 n0 (Nat.le_trans Z0 K80.1) f79_0 f79_30 z1p z2p z3p) hZ (own_w hw 28 rfl) (own_w hw 3 rfl) (by decide) (by decide)) q86a q86c (g := (mkF m 82 #[iv p1, iv p2, rv b49, iv (0 : Int32), rv a_EQUAL, iv v83, iv (0 : Int32), .unset, .unset, .unset, .unset, .unset] [(.int v83), (.ref a_EQUAL), (.int (0 : Int32))])) rfl (by rw [hml]; rfl) (Steps.refl _) (argsL := [(.int v83)]) (rest := [(.int (0 : Int32))]) (lenOf pd__I_Z_244 rfl) rfl (by show 2 * 0 + _ ≤ _; exact Nat.le_of_eq rfl) (hb hby at_82) (fun _ _ => ⟨rfl, e85, (by decide : 1 + 0 ≤ _), (by decide : 6 + 0 ≤ _)⟩)
    dsimp only [Pt.U, Pt.locs, Pt.cells, Pt.slots] at X86 l86 y86 z86 st86 hQ86
    subst l86 y86 z86
    obtain ⟨rfl, N86q, e86⟩ := hQ86
    skip
    have N86 := Fr.app N85 N86q
    refine own_tr st86 ?_
    show own_Fin p e below G (T86.setTop (mkF m 85 #[iv p1, iv p2, rv b49, iv (0 : Int32), rv a_EQUAL, iv v83, iv (0 : Int32), .unset, .unset, .unset, .unset, .unset] [(.int (0 : Int32)), (.int (0 : Int32))]))
    refine own_st (fun _ k => XS.icmpYes X86.here hx rfl (pc0 := 85) (pc' := 92) rfl (hb hby at_85) rfl (teq (by decide : ((0 : Int32) = (0 : Int32)))).1 (by decide) (by decide) k) ?_
    show own_Fin p e below G (T86.setTop (mkF m 92 #[iv p1, iv p2, rv b49, iv (0 : Int32), rv a_EQUAL, iv v83, iv (0 : Int32), .unset, .unset, .unset, .unset, .unset] []))
    refine own_st (fun _ k => XS.iconst X86.here hx rfl (hb hby at_92) k) ?_
    show own_Fin p e below G (T86.setTop (mkF m 93 #[iv p1, iv p2, rv b49, iv (0 : Int32), rv a_EQUAL, iv v83, iv (0 : Int32), .unset, .unset, .unset, .unset, .unset] [(.int (0 : Int32))]))
    refine own_st (fun _ k => XS.istore X86.here hx rfl (hb hby at_93) rfl (l' := #[iv p1, iv p2, rv b49, iv (0 : Int32), rv a_EQUAL, iv v83, iv (0 : Int32), iv (0 : Int32), .unset, .unset, .unset, .unset]) rfl k) ?_
    show own_Fin p e below G (T86.setTop (mkF m 95 #[iv p1, iv p2, rv b49, iv (0 : Int32), rv a_EQUAL, iv v83, iv (0 : Int32), iv (0 : Int32), .unset, .unset, .unset, .unset] []))
    refine own_st (fun _ k => XS.aload X86.here hx rfl (hb hby at_95) rfl rfl k) ?_
    show own_Fin p e below G (T86.setTop (mkF m 97 #[iv p1, iv p2, rv b49, iv (0 : Int32), rv a_EQUAL, iv v83, iv (0 : Int32), iv (0 : Int32), .unset, .unset, .unset, .unset] [(.ref a_EQUAL)]))
    obtain ⟨cq87, kq87, q87a, q87b, q87c⟩ := isOf hZ e86 f79_0
    obtain ⟨_, _, ⟨T87, L87, k87, n87⟩, -, X87, ⟨Lc87, hQ87, l87, y87, z87⟩, st87⟩ := X86.virtualBack hx (y := own_y4) (z := own_y4) hown (mvT hZ (own_w hw 38 rfl)) (mvT hZ (own_w hw 39 rfl)) (notFace_of_selects (args := #[]) (mvT hZ (own_w hw 41 rfl))) (mvT hZ (own_w hw 41 rfl)) (mvT hZ (own_w hw 40 rfl)) (by decide) (backOf (W := 0) (rm_sym l Z a0 hw [] a_EQUAL a_EQUAL_symbol h78 n0 (Nat.le_trans Z0 K80.1) f79_13) hZ (own_w hw 42 rfl) (own_w hw 3 rfl) (by decide) (by decide)) q87a q87c (g := (mkF m 97 #[iv p1, iv p2, rv b49, iv (0 : Int32), rv a_EQUAL, iv v83, iv (0 : Int32), iv (0 : Int32), .unset, .unset, .unset, .unset] [(.ref a_EQUAL)])) rfl (by rw [hml]; rfl) (Steps.refl _) (argsL := []) (rest := []) (lenOf pd___Ljava_lang_String__780 rfl) rfl (by show 2 * 0 + _ ≤ _; exact Nat.le_of_eq rfl) (hb hby at_97) (fun _ _ => ⟨rfl, e86, (by decide : 1 + 0 ≤ _), (by decide : 6 + 0 ≤ _)⟩)
    dsimp only [Pt.U, Pt.locs, Pt.cells, Pt.slots] at X87 l87 y87 z87 st87 hQ87
    subst l87 y87 z87
    obtain ⟨rfl, N87q, e87⟩ := hQ87
    skip
    have N87 := Fr.app N86 N87q
    refine own_tr st87 ?_
    show own_Fin p e below G (T87.setTop (mkF m 100 #[iv p1, iv p2, rv b49, iv (0 : Int32), rv a_EQUAL, iv v83, iv (0 : Int32), iv (0 : Int32), .unset, .unset, .unset, .unset] [(.ref a_EQUAL_symbol)]))
    refine own_st (fun _ k => XS.astore X87.here hx rfl (hb hby at_100) rfl rfl (l' := #[iv p1, iv p2, rv b49, iv (0 : Int32), rv a_EQUAL, iv v83, iv (0 : Int32), iv (0 : Int32), rv a_EQUAL_symbol, .unset, .unset, .unset]) rfl k) ?_
    show own_Fin p e below G (T87.setTop (mkF m 102 #[iv p1, iv p2, rv b49, iv (0 : Int32), rv a_EQUAL, iv v83, iv (0 : Int32), iv (0 : Int32), rv a_EQUAL_symbol, .unset, .unset, .unset] []))
    refine own_st (fun _ k => XS.aload X87.here hx rfl (hb hby at_102) rfl rfl k) ?_
    show own_Fin p e below G (T87.setTop (mkF m 104 #[iv p1, iv p2, rv b49, iv (0 : Int32), rv a_EQUAL, iv v83, iv (0 : Int32), iv (0 : Int32), rv a_EQUAL_symbol, .unset, .unset, .unset] [(.ref a_EQUAL_symbol)]))
    refine own_st (fun _ k => XS.iconst X87.here hx rfl (hb hby at_104) k) ?_
    show own_Fin p e below G (T87.setTop (mkF m 105 #[iv p1, iv p2, rv b49, iv (0 : Int32), rv a_EQUAL, iv v83, iv (0 : Int32), iv (0 : Int32), rv a_EQUAL_symbol, .unset, .unset, .unset] [(.int (0 : Int32)), (.ref a_EQUAL_symbol)]))
    obtain ⟨cq88, kq88, q88a, q88b, q88c⟩ := isOf hZ e87 f79_12
    obtain ⟨_, _, ⟨T88, L88, k88, n88⟩, -, X88, ⟨Lc88, hQ88, l88, y88, z88⟩, st88⟩ := X87.virtualBack hx (y := own_y9) (z := own_y9) hown (mvT hZ (own_w hw 45 rfl)) (mvT hZ (own_w hw 46 rfl)) (notFace_of_selects (args := #[]) (mvT hZ (own_w hw 48 rfl))) (mvT hZ (own_w hw 48 rfl)) (mvT hZ (own_w hw 47 rfl)) (by decide) (backOf (W := 0) (rm_ca61_61 l Z a0 hw [] a_EQUAL_symbol a_EQUAL_symbol_value cs fm h78 n0 (Nat.le_trans Z0 K80.1) f79_12 f79_31 f79_24 f79_42 f79_48 hcs hfm f79_49) hZ (own_w hw 50 rfl) (own_w hw 49 rfl) (by decide) (by decide)) q88a q88c (g := (mkF m 105 #[iv p1, iv p2, rv b49, iv (0 : Int32), rv a_EQUAL, iv v83, iv (0 : Int32), iv (0 : Int32), rv a_EQUAL_symbol, .unset, .unset, .unset] [(.int (0 : Int32)), (.ref a_EQUAL_symbol)])) rfl (by rw [hml]; rfl) (Steps.refl _) (argsL := [(.int (0 : Int32))]) (rest := []) (lenOf pd__I_C_221 rfl) rfl (by show 2 * 0 + _ ≤ _; exact Nat.le_of_eq rfl) (hb hby at_105) (fun _ _ => ⟨rfl, e87, (by decide : 1 + 0 ≤ _), (by decide : 6 + 0 ≤ _)⟩)
    dsimp only [Pt.U, Pt.locs, Pt.cells, Pt.slots] at X88 l88 y88 z88 st88 hQ88
    subst l88 y88 z88
    obtain ⟨rfl, N88q, e88⟩ := hQ88
    skip
    have N88 := Fr.app N87 N88q
    refine own_tr st88 ?_
    show own_Fin p e below G (T88.setTop (mkF m 108 #[iv p1, iv p2, rv b49, iv (0 : Int32), rv a_EQUAL, iv v83, iv (0 : Int32), iv (0 : Int32), rv a_EQUAL_symbol, .unset, .unset, .unset] [(.int (61 : Int32))]))
    refine own_st (fun _ k => XS.istore X88.here hx rfl (hb hby at_108) rfl (l' := #[iv p1, iv p2, rv b49, iv (0 : Int32), rv a_EQUAL, iv v83, iv (0 : Int32), iv (0 : Int32), rv a_EQUAL_symbol, iv (61 : Int32), .unset, .unset]) rfl k) ?_
    show own_Fin p e below G (T88.setTop (mkF m 110 #[iv p1, iv p2, rv b49, iv (0 : Int32), rv a_EQUAL, iv v83, iv (0 : Int32), iv (0 : Int32), rv a_EQUAL_symbol, iv (61 : Int32), .unset, .unset] []))
    refine own_st (fun _ k => XS.iload X88.here hx rfl (hb hby at_110) rfl  k) ?_
    show own_Fin p e below G (T88.setTop (mkF m 112 #[iv p1, iv p2, rv b49, iv (0 : Int32), rv a_EQUAL, iv v83, iv (0 : Int32), iv (0 : Int32), rv a_EQUAL_symbol, iv (61 : Int32), .unset, .unset] [(.int (61 : Int32))]))
    refine own_st (fun _ k => XS.bipush X88.here hx rfl (hb hby at_112) k) ?_
    show own_Fin p e below G (T88.setTop (mkF m 114 #[iv p1, iv p2, rv b49, iv (0 : Int32), rv a_EQUAL, iv v83, iv (0 : Int32), iv (0 : Int32), rv a_EQUAL_symbol, iv (61 : Int32), .unset, .unset] [(.int (60 : Int32)), (.int (61 : Int32))]))
    refine own_st (fun _ k => XS.icmpNo X88.here hx rfl (hb hby at_114) rfl (feq (by decide : ¬ ((61 : Int32) = (60 : Int32)))).1 k) ?_
    show own_Fin p e below G (T88.setTop (mkF m 117 #[iv p1, iv p2, rv b49, iv (0 : Int32), rv a_EQUAL, iv v83, iv (0 : Int32), iv (0 : Int32), rv a_EQUAL_symbol, iv (61 : Int32), .unset, .unset] []))
    refine own_st (fun _ k => XS.iload X88.here hx rfl (hb hby at_117) rfl  k) ?_
    show own_Fin p e below G (T88.setTop (mkF m 119 #[iv p1, iv p2, rv b49, iv (0 : Int32), rv a_EQUAL, iv v83, iv (0 : Int32), iv (0 : Int32), rv a_EQUAL_symbol, iv (61 : Int32), .unset, .unset] [(.int (61 : Int32))]))
    refine own_st (fun _ k => XS.bipush X88.here hx rfl (hb hby at_119) k) ?_
    show own_Fin p e below G (T88.setTop (mkF m 121 #[iv p1, iv p2, rv b49, iv (0 : Int32), rv a_EQUAL, iv v83, iv (0 : Int32), iv (0 : Int32), rv a_EQUAL_symbol, iv (61 : Int32), .unset, .unset] [(.int (62 : Int32)), (.int (61 : Int32))]))
    refine own_st (fun _ k => XS.icmpYes X88.here hx rfl (pc0 := 121) (pc' := 128) rfl (hb hby at_121) rfl (feq (by decide : ¬ ((61 : Int32) = (62 : Int32)))).2 (by decide) (by decide) k) ?_
    show own_Fin p e below G (T88.setTop (mkF m 128 #[iv p1, iv p2, rv b49, iv (0 : Int32), rv a_EQUAL, iv v83, iv (0 : Int32), iv (0 : Int32), rv a_EQUAL_symbol, iv (61 : Int32), .unset, .unset] []))
    refine own_st (fun _ k => XS.iconst X88.here hx rfl (hb hby at_128) k) ?_
    show own_Fin p e below G (T88.setTop (mkF m 129 #[iv p1, iv p2, rv b49, iv (0 : Int32), rv a_EQUAL, iv v83, iv (0 : Int32), iv (0 : Int32), rv a_EQUAL_symbol, iv (61 : Int32), .unset, .unset] [(.int (0 : Int32))]))
    refine own_st (fun _ k => XS.istore X88.here hx rfl (hb hby at_129) rfl (l' := #[iv p1, iv p2, rv b49, iv (0 : Int32), rv a_EQUAL, iv v83, iv (0 : Int32), iv (0 : Int32), rv a_EQUAL_symbol, iv (61 : Int32), iv (0 : Int32), .unset]) rfl k) ?_
    show own_Fin p e below G (T88.setTop (mkF m 131 #[iv p1, iv p2, rv b49, iv (0 : Int32), rv a_EQUAL, iv v83, iv (0 : Int32), iv (0 : Int32), rv a_EQUAL_symbol, iv (61 : Int32), iv (0 : Int32), .unset] []))
    refine own_st (fun _ k => XS.iloadN X88.here hx rfl (hb hby at_131) rfl  k) ?_
    show own_Fin p e below G (T88.setTop (mkF m 132 #[iv p1, iv p2, rv b49, iv (0 : Int32), rv a_EQUAL, iv v83, iv (0 : Int32), iv (0 : Int32), rv a_EQUAL_symbol, iv (61 : Int32), iv (0 : Int32), .unset] [(.int (0 : Int32))]))
    refine own_st (fun _ k => XS.iconst X88.here hx rfl (hb hby at_132) k) ?_
    show own_Fin p e below G (T88.setTop (mkF m 133 #[iv p1, iv p2, rv b49, iv (0 : Int32), rv a_EQUAL, iv v83, iv (0 : Int32), iv (0 : Int32), rv a_EQUAL_symbol, iv (61 : Int32), iv (0 : Int32), .unset] [(.int (2 : Int32)), (.int (0 : Int32))]))
    refine own_st (fun _ k => XS.icmpYes X88.here hx rfl (pc0 := 133) (pc' := 140) rfl (hb hby at_133) rfl (tlt (by decide : ((0 : Int32) < (2 : Int32)))).1 (by decide) (by decide) k) ?_
    show own_Fin p e below G (T88.setTop (mkF m 140 #[iv p1, iv p2, rv b49, iv (0 : Int32), rv a_EQUAL, iv v83, iv (0 : Int32), iv (0 : Int32), rv a_EQUAL_symbol, iv (61 : Int32), iv (0 : Int32), .unset] []))
    refine own_st (fun _ k => XS.iconst X88.here hx rfl (hb hby at_140) k) ?_
    show own_Fin p e below G (T88.setTop (mkF m 141 #[iv p1, iv p2, rv b49, iv (0 : Int32), rv a_EQUAL, iv v83, iv (0 : Int32), iv (0 : Int32), rv a_EQUAL_symbol, iv (61 : Int32), iv (0 : Int32), .unset] [(.int (0 : Int32))]))
    refine own_st (fun _ k => XS.istore X88.here hx rfl (hb hby at_141) rfl (l' := #[iv p1, iv p2, rv b49, iv (0 : Int32), rv a_EQUAL, iv v83, iv (0 : Int32), iv (0 : Int32), rv a_EQUAL_symbol, iv (61 : Int32), iv (0 : Int32), iv (0 : Int32)]) rfl k) ?_
    show own_Fin p e below G (T88.setTop (mkF m 143 #[iv p1, iv p2, rv b49, iv (0 : Int32), rv a_EQUAL, iv v83, iv (0 : Int32), iv (0 : Int32), rv a_EQUAL_symbol, iv (61 : Int32), iv (0 : Int32), iv (0 : Int32)] []))
    refine own_st (fun _ k => XS.iload X88.here hx rfl (hb hby at_143) rfl  k) ?_
    show own_Fin p e below G (T88.setTop (mkF m 145 #[iv p1, iv p2, rv b49, iv (0 : Int32), rv a_EQUAL, iv v83, iv (0 : Int32), iv (0 : Int32), rv a_EQUAL_symbol, iv (61 : Int32), iv (0 : Int32), iv (0 : Int32)] [(.int (0 : Int32))]))
    refine own_st (fun _ k => XS.iload X88.here hx rfl (hb hby at_145) rfl  k) ?_
    show own_Fin p e below G (T88.setTop (mkF m 147 #[iv p1, iv p2, rv b49, iv (0 : Int32), rv a_EQUAL, iv v83, iv (0 : Int32), iv (0 : Int32), rv a_EQUAL_symbol, iv (61 : Int32), iv (0 : Int32), iv (0 : Int32)] [(.int (0 : Int32)), (.int (0 : Int32))]))
    refine own_st (fun _ k => XS.icmpNo X88.here hx rfl (hb hby at_147) rfl (teq (by decide : ((0 : Int32) = (0 : Int32)))).2 k) ?_
    show own_Fin p e below G (T88.setTop (mkF m 150 #[iv p1, iv p2, rv b49, iv (0 : Int32), rv a_EQUAL, iv v83, iv (0 : Int32), iv (0 : Int32), rv a_EQUAL_symbol, iv (61 : Int32), iv (0 : Int32), iv (0 : Int32)] []))
    refine own_st (fun _ k => XS.iload X88.here hx rfl (hb hby at_150) rfl  k) ?_
    show own_Fin p e below G (T88.setTop (mkF m 152 #[iv p1, iv p2, rv b49, iv (0 : Int32), rv a_EQUAL, iv v83, iv (0 : Int32), iv (0 : Int32), rv a_EQUAL_symbol, iv (61 : Int32), iv (0 : Int32), iv (0 : Int32)] [(.int (0 : Int32))]))
    refine own_st (fun _ k => XS.iload X88.here hx rfl (hb hby at_152) rfl  k) ?_
    show own_Fin p e below G (T88.setTop (mkF m 154 #[iv p1, iv p2, rv b49, iv (0 : Int32), rv a_EQUAL, iv v83, iv (0 : Int32), iv (0 : Int32), rv a_EQUAL_symbol, iv (61 : Int32), iv (0 : Int32), iv (0 : Int32)] [(.int (0 : Int32)), (.int (0 : Int32))]))
    refine own_st (fun _ k => XS.icmpNo X88.here hx rfl (hb hby at_154) rfl (teq (by decide : ((0 : Int32) = (0 : Int32)))).2 k) ?_
    show own_Fin p e below G (T88.setTop (mkF m 157 #[iv p1, iv p2, rv b49, iv (0 : Int32), rv a_EQUAL, iv v83, iv (0 : Int32), iv (0 : Int32), rv a_EQUAL_symbol, iv (61 : Int32), iv (0 : Int32), iv (0 : Int32)] []))
    refine own_st (fun _ k => XS.iload X88.here hx rfl (hb hby at_157) rfl  k) ?_
    show own_Fin p e below G (T88.setTop (mkF m 159 #[iv p1, iv p2, rv b49, iv (0 : Int32), rv a_EQUAL, iv v83, iv (0 : Int32), iv (0 : Int32), rv a_EQUAL_symbol, iv (61 : Int32), iv (0 : Int32), iv (0 : Int32)] [(.int (0 : Int32))]))
    refine own_st (fun _ k => XS.iload X88.here hx rfl (hb hby at_159) rfl  k) ?_
    show own_Fin p e below G (T88.setTop (mkF m 161 #[iv p1, iv p2, rv b49, iv (0 : Int32), rv a_EQUAL, iv v83, iv (0 : Int32), iv (0 : Int32), rv a_EQUAL_symbol, iv (61 : Int32), iv (0 : Int32), iv (0 : Int32)] [(.int (0 : Int32)), (.int (0 : Int32))]))
    refine own_st (fun _ k => XS.icmpNo X88.here hx rfl (hb hby at_161) rfl (teq (by decide : ((0 : Int32) = (0 : Int32)))).2 k) ?_
    show own_Fin p e below G (T88.setTop (mkF m 164 #[iv p1, iv p2, rv b49, iv (0 : Int32), rv a_EQUAL, iv v83, iv (0 : Int32), iv (0 : Int32), rv a_EQUAL_symbol, iv (61 : Int32), iv (0 : Int32), iv (0 : Int32)] []))
    refine own_st (fun _ k => XS.iconst X88.here hx rfl (hb hby at_164) k) ?_
    show own_Fin p e below G (T88.setTop (mkF m 165 #[iv p1, iv p2, rv b49, iv (0 : Int32), rv a_EQUAL, iv v83, iv (0 : Int32), iv (0 : Int32), rv a_EQUAL_symbol, iv (61 : Int32), iv (0 : Int32), iv (0 : Int32)] [(.int (1 : Int32))]))
    refine own_st (fun _ k => XS.goto X88.here hx rfl (pc0 := 165) (pc' := 169) rfl (hb hby at_165) (by decide) (by decide) k) ?_
    show own_Fin p e below G (T88.setTop (mkF m 169 #[iv p1, iv p2, rv b49, iv (0 : Int32), rv a_EQUAL, iv v83, iv (0 : Int32), iv (0 : Int32), rv a_EQUAL_symbol, iv (61 : Int32), iv (0 : Int32), iv (0 : Int32)] [(.int (1 : Int32))]))
    refine own_out X88 Bd.notSynchronized (v := (some (.int (1 : Int32)))) (fun h => by rw [Bd.returns] at h; cases h) hG (fun fs hr => retN X88 hx (t := .boolean) Bd.returns (by simp) (hb hby at_169) hr) (by decide) (by decide) ?_
    exact ⟨rfl, N88⟩
  · show own_Fin p e below G (T78.setTop (mkF m 50 #[iv p1, iv p2, rv b49, iv (1 : Int32), .unset, .unset, .unset, .unset, .unset, .unset, .unset, .unset] []))
    refine own_st (fun _ k => XS.aloadN X78.here hx rfl (hb hby at_50) rfl rfl k) ?_
    show own_Fin p e below G (T78.setTop (mkF m 51 #[iv p1, iv p2, rv b49, iv (1 : Int32), .unset, .unset, .unset, .unset, .unset, .unset, .unset, .unset] [(.ref b49)]))
    refine own_st (fun _ k => XS.iloadN X78.here hx rfl (hb hby at_51) rfl  k) ?_
    show own_Fin p e below G (T78.setTop (mkF m 52 #[iv p1, iv p2, rv b49, iv (1 : Int32), .unset, .unset, .unset, .unset, .unset, .unset, .unset, .unset] [(.int (1 : Int32)), (.ref b49)]))
    refine own_st (fun _ k => own_ldR X78 hx hZ e78 V78 (j := (1 : Int32)) (n := 6) rfl (by decide) rfl (v := (.ref a_UNEQUAL)) rfl (g := (mkF m 52 #[iv p1, iv p2, rv b49, iv (1 : Int32), .unset, .unset, .unset, .unset, .unset, .unset, .unset, .unset] [(.int (1 : Int32)), (.ref b49)])) rfl rfl (hb hby at_52) k) ?_
    show own_Fin p e below G (T78.setTop (mkF m 53 #[iv p1, iv p2, rv b49, iv (1 : Int32), .unset, .unset, .unset, .unset, .unset, .unset, .unset, .unset] [(.ref a_UNEQUAL)]))
    refine own_st (fun _ k => XS.astore X78.here hx rfl (hb hby at_53) rfl rfl (l' := #[iv p1, iv p2, rv b49, iv (1 : Int32), rv a_UNEQUAL, .unset, .unset, .unset, .unset, .unset, .unset, .unset]) rfl k) ?_
    show own_Fin p e below G (T78.setTop (mkF m 55 #[iv p1, iv p2, rv b49, iv (1 : Int32), rv a_UNEQUAL, .unset, .unset, .unset, .unset, .unset, .unset, .unset] []))
    refine own_st (fun _ k => XS.iloadN X78.here hx rfl (hb hby at_55) rfl  k) ?_
    show own_Fin p e below G (T78.setTop (mkF m 56 #[iv p1, iv p2, rv b49, iv (1 : Int32), rv a_UNEQUAL, .unset, .unset, .unset, .unset, .unset, .unset, .unset] [(.int p2)]))
    refine own_st (fun _ k => own_ldc X78 hx hZ hown (own_w hw 17 rfl) (g := (mkF m 56 #[iv p1, iv p2, rv b49, iv (1 : Int32), rv a_UNEQUAL, .unset, .unset, .unset, .unset, .unset, .unset, .unset] [(.int p2)])) rfl (hb hby at_56) k) ?_
    show own_Fin p e below G (T78.setTop (mkF m 58 #[iv p1, iv p2, rv b49, iv (1 : Int32), rv a_UNEQUAL, .unset, .unset, .unset, .unset, .unset, .unset, .unset] [(.int (1073741823 : Int32)), (.int p2)]))
    refine own_st (fun _ k => XS.iand X78.here hx rfl (hb hby at_58) rfl k) ?_
    show own_Fin p e below G (T78.setTop (mkF m 59 #[iv p1, iv p2, rv b49, iv (1 : Int32), rv a_UNEQUAL, .unset, .unset, .unset, .unset, .unset, .unset, .unset] [(.int (p2 &&& (1073741823 : Int32)))]))
    refine own_st (fun _ k => XS.iconst X78.here hx rfl (hb hby at_59) k) ?_
    show own_Fin p e below G (T78.setTop (mkF m 60 #[iv p1, iv p2, rv b49, iv (1 : Int32), rv a_UNEQUAL, .unset, .unset, .unset, .unset, .unset, .unset, .unset] [(.int (1 : Int32)), (.int (p2 &&& (1073741823 : Int32)))]))
    refine own_st (fun _ k => XS.iadd X78.here hx rfl (hb hby at_60) rfl k) ?_
    show own_Fin p e below G (T78.setTop (mkF m 61 #[iv p1, iv p2, rv b49, iv (1 : Int32), rv a_UNEQUAL, .unset, .unset, .unset, .unset, .unset, .unset, .unset] [(.int ((p2 &&& (1073741823 : Int32)) + (1 : Int32)))]))
    generalize e_v89 : ((p2 &&& (1073741823 : Int32)) + (1 : Int32)) = v89
    show own_Fin p e below G (T78.setTop (mkF m 61 #[iv p1, iv p2, rv b49, iv (1 : Int32), rv a_UNEQUAL, .unset, .unset, .unset, .unset, .unset, .unset, .unset] [(.int v89)]))
    have rp := own_pos p2
    rw [e_v89] at rp
    have t0 : (0 : Int32).toInt = 0 := rfl
    have z1p : ¬ v89 = (0 : Int32) := by rw [← Int32.toInt_inj]; omega
    have z2p : ¬ v89 < (0 : Int32) := by rw [Int32.lt_iff_toInt_lt]; omega
    have z3p : (0 : Int32) < v89 := by rw [Int32.lt_iff_toInt_lt]; omega
    have z1n : ¬ (-v89) = (0 : Int32) := by rw [← Int32.toInt_inj]; omega
    have z2n : (-v89) < (0 : Int32) := by rw [Int32.lt_iff_toInt_lt]; omega
    have z3n : ¬ (0 : Int32) < (-v89) := by rw [Int32.lt_iff_toInt_lt]; omega
    refine own_st (fun _ k => XS.istore X78.here hx rfl (hb hby at_61) rfl (l' := #[iv p1, iv p2, rv b49, iv (1 : Int32), rv a_UNEQUAL, iv v89, .unset, .unset, .unset, .unset, .unset, .unset]) rfl k) ?_
    show own_Fin p e below G (T78.setTop (mkF m 63 #[iv p1, iv p2, rv b49, iv (1 : Int32), rv a_UNEQUAL, iv v89, .unset, .unset, .unset, .unset, .unset, .unset] []))
    refine own_st (fun _ k => XS.aload X78.here hx rfl (hb hby at_63) rfl rfl k) ?_
    show own_Fin p e below G (T78.setTop (mkF m 65 #[iv p1, iv p2, rv b49, iv (1 : Int32), rv a_UNEQUAL, iv v89, .unset, .unset, .unset, .unset, .unset, .unset] [(.ref a_UNEQUAL)]))
    obtain ⟨cq90, kq90, q90a, q90b, q90c⟩ := isOf hZ e78 f79_2
    obtain ⟨_, _, ⟨T90, L90, k90, n90⟩, -, X90, ⟨Lc90, hQ90, l90, y90, z90⟩, st90⟩ := X78.virtualBack hx (y := own_y0) (z := own_y0) hown (mvT hZ (own_w hw 18 rfl)) (mvT hZ (own_w hw 19 rfl)) (notFace_of_selects (args := #[]) (mvT hZ (own_w hw 21 rfl))) (mvT hZ (own_w hw 21 rfl)) (mvT hZ (own_w hw 20 rfl)) (by decide) (backOf (W := 0) (rm_ors l Z a0 hw [] a_UNEQUAL a_EQUAL a_UNEQUAL h78 n0 (Nat.le_trans Z0 K80.1) f79_1 f79_3) hZ (own_w hw 22 rfl) (own_w hw 3 rfl) (by decide) (by decide)) q90a q90c (g := (mkF m 65 #[iv p1, iv p2, rv b49, iv (1 : Int32), rv a_UNEQUAL, iv v89, .unset, .unset, .unset, .unset, .unset, .unset] [(.ref a_UNEQUAL)])) rfl (by rw [hml]; rfl) (Steps.refl _) (argsL := []) (rest := []) (lenOf pd___Z_171 rfl) rfl (by show 2 * 0 + _ ≤ _; exact Nat.le_of_eq rfl) (hb hby at_65) (fun _ _ => ⟨rfl, e78, (by decide : 1 + 0 ≤ _), (by decide : 6 + 0 ≤ _)⟩)
    dsimp only [Pt.U, Pt.locs, Pt.cells, Pt.slots] at X90 l90 y90 z90 st90 hQ90
    subst l90 y90 z90
    obtain ⟨hv90, N90q, e90⟩ := hQ90
    rw [(by unfold own_ord; rw [if_neg (Ne.symm ne_a_EQUAL_a_UNEQUAL), if_pos rfl] : own_ord a_UNEQUAL a_EQUAL a_UNEQUAL = 0)] at hv90
    subst hv90
    skip
    have N90 := Fr.app N81 N90q
    refine own_tr st90 ?_
    show own_Fin p e below G (T90.setTop (mkF m 68 #[iv p1, iv p2, rv b49, iv (1 : Int32), rv a_UNEQUAL, iv v89, .unset, .unset, .unset, .unset, .unset, .unset] [(.int (0 : Int32))]))
    refine own_st (fun _ k => XS.istore X90.here hx rfl (hb hby at_68) rfl (l' := #[iv p1, iv p2, rv b49, iv (1 : Int32), rv a_UNEQUAL, iv v89, iv (0 : Int32), .unset, .unset, .unset, .unset, .unset]) rfl k) ?_
    show own_Fin p e below G (T90.setTop (mkF m 70 #[iv p1, iv p2, rv b49, iv (1 : Int32), rv a_UNEQUAL, iv v89, iv (0 : Int32), .unset, .unset, .unset, .unset, .unset] []))
    refine own_st (fun _ k => XS.aload X90.here hx rfl (hb hby at_70) rfl rfl k) ?_
    show own_Fin p e below G (T90.setTop (mkF m 72 #[iv p1, iv p2, rv b49, iv (1 : Int32), rv a_UNEQUAL, iv v89, iv (0 : Int32), .unset, .unset, .unset, .unset, .unset] [(.ref a_UNEQUAL)]))
    refine own_st (fun _ k => XS.iload X90.here hx rfl (hb hby at_72) rfl  k) ?_
    show own_Fin p e below G (T90.setTop (mkF m 74 #[iv p1, iv p2, rv b49, iv (1 : Int32), rv a_UNEQUAL, iv v89, iv (0 : Int32), .unset, .unset, .unset, .unset, .unset] [(.int v89), (.ref a_UNEQUAL)]))
    refine own_st (fun _ k => XS.ineg X90.here hx rfl (hb hby at_74) rfl k) ?_
    show own_Fin p e below G (T90.setTop (mkF m 75 #[iv p1, iv p2, rv b49, iv (1 : Int32), rv a_UNEQUAL, iv v89, iv (0 : Int32), .unset, .unset, .unset, .unset, .unset] [(.int (-v89)), (.ref a_UNEQUAL)]))
    obtain ⟨cq91, kq91, q91a, q91b, q91c⟩ := isOf hZ e90 f79_2
    obtain ⟨_, _, ⟨T91, L91, k91, n91⟩, -, X91, ⟨Lc91, hQ91, l91, y91, z91⟩, st91⟩ := X90.virtualBack hx (y := own_y3) (z := own_y3) hown (mvT hZ (own_w hw 24 rfl)) (mvT hZ (own_w hw 25 rfl)) (notFace_of_selects (args := #[]) (mvT hZ (own_w hw 27 rfl))) (mvT hZ (own_w hw 27 rfl)) (mvT hZ (own_w hw 26 rfl)) (by decide) (backOf (W := 0) (rm_h1n l Z a0 hw [] a_UNEQUAL (-v89) h78 n0 (Nat.le_trans Z0 K80.1) f79_2 f79_33 z1n z2n z3n) hZ (own_w hw 28 rfl) (own_w hw 3 rfl) (by decide) (by decide)) q91a q91c (g := (mkF m 75 #[iv p1, iv p2, rv b49, iv (1 : Int32), rv a_UNEQUAL, iv v89, iv (0 : Int32), .unset, .unset, .unset, .unset, .unset] [(.int (-v89)), (.ref a_UNEQUAL)])) rfl (by rw [hml]; rfl) (Steps.refl _) (argsL := [(.int (-v89))]) (rest := []) (lenOf pd__I_Z_244 rfl) rfl (by show 2 * 0 + _ ≤ _; exact Nat.le_of_eq rfl) (hb hby at_75) (fun _ _ => ⟨rfl, e90, (by decide : 1 + 0 ≤ _), (by decide : 6 + 0 ≤ _)⟩)
    dsimp only [Pt.U, Pt.locs, Pt.cells, Pt.slots] at X91 l91 y91 z91 st91 hQ91
    subst l91 y91 z91
    obtain ⟨rfl, N91q, e91⟩ := hQ91
    skip
    have N91 := Fr.app N90 N91q
    refine own_tr st91 ?_
    show own_Fin p e below G (T91.setTop (mkF m 78 #[iv p1, iv p2, rv b49, iv (1 : Int32), rv a_UNEQUAL, iv v89, iv (0 : Int32), .unset, .unset, .unset, .unset, .unset] [(.int (1 : Int32))]))
    refine own_st (fun _ k => XS.aload X91.here hx rfl (hb hby at_78) rfl rfl k) ?_
    show own_Fin p e below G (T91.setTop (mkF m 80 #[iv p1, iv p2, rv b49, iv (1 : Int32), rv a_UNEQUAL, iv v89, iv (0 : Int32), .unset, .unset, .unset, .unset, .unset] [(.ref a_UNEQUAL), (.int (1 : Int32))]))
    refine own_st (fun _ k => XS.iload X91.here hx rfl (hb hby at_80) rfl  k) ?_
    show own_Fin p e below G (T91.setTop (mkF m 82 #[iv p1, iv p2, rv b49, iv (1 : Int32), rv a_UNEQUAL, iv v89, iv (0 : Int32), .unset, .unset, .unset, .unset, .unset] [(.int v89), (.ref a_UNEQUAL), (.int (1 : Int32))]))
    obtain ⟨cq92, kq92, q92a, q92b, q92c⟩ := isOf hZ e91 f79_2
    obtain ⟨_, _, ⟨T92, L92, k92, n92⟩, -, X92, ⟨Lc92, hQ92, l92, y92, z92⟩, st92⟩ := X91.virtualBack hx (y := own_y3) (z := own_y3) hown (mvT hZ (own_w hw 24 rfl)) (mvT hZ (own_w hw 25 rfl)) (notFace_of_selects (args := #[]) (mvT hZ (own_w hw 27 rfl))) (mvT hZ (own_w hw 27 rfl)) (mvT hZ (own_w hw 26 rfl)) (by decide) (backOf (W := 1) (rm_h1p l Z a0 hw [] a_UNEQUAL v89 h78 n0 (Nat.le_trans Z0 K80.1) f79_2 f79_33 z1p z2p z3p) hZ (own_w hw 28 rfl) (own_w hw 3 rfl) (by decide) (by decide)) q92a q92c (g := (mkF m 82 #[iv p1, iv p2, rv b49, iv (1 : Int32), rv a_UNEQUAL, iv v89, iv (0 : Int32), .unset, .unset, .unset, .unset, .unset] [(.int v89), (.ref a_UNEQUAL), (.int (1 : Int32))])) rfl (by rw [hml]; rfl) (Steps.refl _) (argsL := [(.int v89)]) (rest := [(.int (1 : Int32))]) (lenOf pd__I_Z_244 rfl) rfl (by show 2 * 0 + _ ≤ _; exact Nat.le_of_eq rfl) (hb hby at_82) (fun _ _ => ⟨rfl, e91, (by decide : 1 + 0 ≤ _), (by decide : 6 + 0 ≤ _)⟩)
    dsimp only [Pt.U, Pt.locs, Pt.cells, Pt.slots] at X92 l92 y92 z92 st92 hQ92
    subst l92 y92 z92
    obtain ⟨rfl, N92q, e92⟩ := hQ92
    skip
    have N92 := Fr.app N91 N92q
    refine own_tr st92 ?_
    show own_Fin p e below G (T92.setTop (mkF m 85 #[iv p1, iv p2, rv b49, iv (1 : Int32), rv a_UNEQUAL, iv v89, iv (0 : Int32), .unset, .unset, .unset, .unset, .unset] [(.int (1 : Int32)), (.int (1 : Int32))]))
    refine own_st (fun _ k => XS.icmpYes X92.here hx rfl (pc0 := 85) (pc' := 92) rfl (hb hby at_85) rfl (teq (by decide : ((1 : Int32) = (1 : Int32)))).1 (by decide) (by decide) k) ?_
    show own_Fin p e below G (T92.setTop (mkF m 92 #[iv p1, iv p2, rv b49, iv (1 : Int32), rv a_UNEQUAL, iv v89, iv (0 : Int32), .unset, .unset, .unset, .unset, .unset] []))
    refine own_st (fun _ k => XS.iconst X92.here hx rfl (hb hby at_92) k) ?_
    show own_Fin p e below G (T92.setTop (mkF m 93 #[iv p1, iv p2, rv b49, iv (1 : Int32), rv a_UNEQUAL, iv v89, iv (0 : Int32), .unset, .unset, .unset, .unset, .unset] [(.int (0 : Int32))]))
    refine own_st (fun _ k => XS.istore X92.here hx rfl (hb hby at_93) rfl (l' := #[iv p1, iv p2, rv b49, iv (1 : Int32), rv a_UNEQUAL, iv v89, iv (0 : Int32), iv (0 : Int32), .unset, .unset, .unset, .unset]) rfl k) ?_
    show own_Fin p e below G (T92.setTop (mkF m 95 #[iv p1, iv p2, rv b49, iv (1 : Int32), rv a_UNEQUAL, iv v89, iv (0 : Int32), iv (0 : Int32), .unset, .unset, .unset, .unset] []))
    refine own_st (fun _ k => XS.aload X92.here hx rfl (hb hby at_95) rfl rfl k) ?_
    show own_Fin p e below G (T92.setTop (mkF m 97 #[iv p1, iv p2, rv b49, iv (1 : Int32), rv a_UNEQUAL, iv v89, iv (0 : Int32), iv (0 : Int32), .unset, .unset, .unset, .unset] [(.ref a_UNEQUAL)]))
    obtain ⟨cq93, kq93, q93a, q93b, q93c⟩ := isOf hZ e92 f79_2
    obtain ⟨_, _, ⟨T93, L93, k93, n93⟩, -, X93, ⟨Lc93, hQ93, l93, y93, z93⟩, st93⟩ := X92.virtualBack hx (y := own_y4) (z := own_y4) hown (mvT hZ (own_w hw 38 rfl)) (mvT hZ (own_w hw 39 rfl)) (notFace_of_selects (args := #[]) (mvT hZ (own_w hw 41 rfl))) (mvT hZ (own_w hw 41 rfl)) (mvT hZ (own_w hw 40 rfl)) (by decide) (backOf (W := 0) (rm_sym l Z a0 hw [] a_UNEQUAL a_UNEQUAL_symbol h78 n0 (Nat.le_trans Z0 K80.1) f79_19) hZ (own_w hw 42 rfl) (own_w hw 3 rfl) (by decide) (by decide)) q93a q93c (g := (mkF m 97 #[iv p1, iv p2, rv b49, iv (1 : Int32), rv a_UNEQUAL, iv v89, iv (0 : Int32), iv (0 : Int32), .unset, .unset, .unset, .unset] [(.ref a_UNEQUAL)])) rfl (by rw [hml]; rfl) (Steps.refl _) (argsL := []) (rest := []) (lenOf pd___Ljava_lang_String__780 rfl) rfl (by show 2 * 0 + _ ≤ _; exact Nat.le_of_eq rfl) (hb hby at_97) (fun _ _ => ⟨rfl, e92, (by decide : 1 + 0 ≤ _), (by decide : 6 + 0 ≤ _)⟩)
    dsimp only [Pt.U, Pt.locs, Pt.cells, Pt.slots] at X93 l93 y93 z93 st93 hQ93
    subst l93 y93 z93
    obtain ⟨rfl, N93q, e93⟩ := hQ93
    skip
    have N93 := Fr.app N92 N93q
    refine own_tr st93 ?_
    show own_Fin p e below G (T93.setTop (mkF m 100 #[iv p1, iv p2, rv b49, iv (1 : Int32), rv a_UNEQUAL, iv v89, iv (0 : Int32), iv (0 : Int32), .unset, .unset, .unset, .unset] [(.ref a_UNEQUAL_symbol)]))
    refine own_st (fun _ k => XS.astore X93.here hx rfl (hb hby at_100) rfl rfl (l' := #[iv p1, iv p2, rv b49, iv (1 : Int32), rv a_UNEQUAL, iv v89, iv (0 : Int32), iv (0 : Int32), rv a_UNEQUAL_symbol, .unset, .unset, .unset]) rfl k) ?_
    show own_Fin p e below G (T93.setTop (mkF m 102 #[iv p1, iv p2, rv b49, iv (1 : Int32), rv a_UNEQUAL, iv v89, iv (0 : Int32), iv (0 : Int32), rv a_UNEQUAL_symbol, .unset, .unset, .unset] []))
    refine own_st (fun _ k => XS.aload X93.here hx rfl (hb hby at_102) rfl rfl k) ?_
    show own_Fin p e below G (T93.setTop (mkF m 104 #[iv p1, iv p2, rv b49, iv (1 : Int32), rv a_UNEQUAL, iv v89, iv (0 : Int32), iv (0 : Int32), rv a_UNEQUAL_symbol, .unset, .unset, .unset] [(.ref a_UNEQUAL_symbol)]))
    refine own_st (fun _ k => XS.iconst X93.here hx rfl (hb hby at_104) k) ?_
    show own_Fin p e below G (T93.setTop (mkF m 105 #[iv p1, iv p2, rv b49, iv (1 : Int32), rv a_UNEQUAL, iv v89, iv (0 : Int32), iv (0 : Int32), rv a_UNEQUAL_symbol, .unset, .unset, .unset] [(.int (0 : Int32)), (.ref a_UNEQUAL_symbol)]))
    obtain ⟨cq94, kq94, q94a, q94b, q94c⟩ := isOf hZ e93 f79_18
    obtain ⟨_, _, ⟨T94, L94, k94, n94⟩, -, X94, ⟨Lc94, hQ94, l94, y94, z94⟩, st94⟩ := X93.virtualBack hx (y := own_y9) (z := own_y9) hown (mvT hZ (own_w hw 45 rfl)) (mvT hZ (own_w hw 46 rfl)) (notFace_of_selects (args := #[]) (mvT hZ (own_w hw 48 rfl))) (mvT hZ (own_w hw 48 rfl)) (mvT hZ (own_w hw 47 rfl)) (by decide) (backOf (W := 0) (rm_ca33_61 l Z a0 hw [] a_UNEQUAL_symbol a_UNEQUAL_symbol_value cs fm h78 n0 (Nat.le_trans Z0 K80.1) f79_18 f79_37 f79_27 f79_43 f79_48 hcs hfm f79_49) hZ (own_w hw 50 rfl) (own_w hw 49 rfl) (by decide) (by decide)) q94a q94c (g := (mkF m 105 #[iv p1, iv p2, rv b49, iv (1 : Int32), rv a_UNEQUAL, iv v89, iv (0 : Int32), iv (0 : Int32), rv a_UNEQUAL_symbol, .unset, .unset, .unset] [(.int (0 : Int32)), (.ref a_UNEQUAL_symbol)])) rfl (by rw [hml]; rfl) (Steps.refl _) (argsL := [(.int (0 : Int32))]) (rest := []) (lenOf pd__I_C_221 rfl) rfl (by show 2 * 0 + _ ≤ _; exact Nat.le_of_eq rfl) (hb hby at_105) (fun _ _ => ⟨rfl, e93, (by decide : 1 + 0 ≤ _), (by decide : 6 + 0 ≤ _)⟩)
    dsimp only [Pt.U, Pt.locs, Pt.cells, Pt.slots] at X94 l94 y94 z94 st94 hQ94
    subst l94 y94 z94
    obtain ⟨rfl, N94q, e94⟩ := hQ94
    skip
    have N94 := Fr.app N93 N94q
    refine own_tr st94 ?_
    show own_Fin p e below G (T94.setTop (mkF m 108 #[iv p1, iv p2, rv b49, iv (1 : Int32), rv a_UNEQUAL, iv v89, iv (0 : Int32), iv (0 : Int32), rv a_UNEQUAL_symbol, .unset, .unset, .unset] [(.int (33 : Int32))]))
    refine own_st (fun _ k => XS.istore X94.here hx rfl (hb hby at_108) rfl (l' := #[iv p1, iv p2, rv b49, iv (1 : Int32), rv a_UNEQUAL, iv v89, iv (0 : Int32), iv (0 : Int32), rv a_UNEQUAL_symbol, iv (33 : Int32), .unset, .unset]) rfl k) ?_
    show own_Fin p e below G (T94.setTop (mkF m 110 #[iv p1, iv p2, rv b49, iv (1 : Int32), rv a_UNEQUAL, iv v89, iv (0 : Int32), iv (0 : Int32), rv a_UNEQUAL_symbol, iv (33 : Int32), .unset, .unset] []))
    refine own_st (fun _ k => XS.iload X94.here hx rfl (hb hby at_110) rfl  k) ?_
    show own_Fin p e below G (T94.setTop (mkF m 112 #[iv p1, iv p2, rv b49, iv (1 : Int32), rv a_UNEQUAL, iv v89, iv (0 : Int32), iv (0 : Int32), rv a_UNEQUAL_symbol, iv (33 : Int32), .unset, .unset] [(.int (33 : Int32))]))
    refine own_st (fun _ k => XS.bipush X94.here hx rfl (hb hby at_112) k) ?_
    show own_Fin p e below G (T94.setTop (mkF m 114 #[iv p1, iv p2, rv b49, iv (1 : Int32), rv a_UNEQUAL, iv v89, iv (0 : Int32), iv (0 : Int32), rv a_UNEQUAL_symbol, iv (33 : Int32), .unset, .unset] [(.int (60 : Int32)), (.int (33 : Int32))]))
    refine own_st (fun _ k => XS.icmpNo X94.here hx rfl (hb hby at_114) rfl (feq (by decide : ¬ ((33 : Int32) = (60 : Int32)))).1 k) ?_
    show own_Fin p e below G (T94.setTop (mkF m 117 #[iv p1, iv p2, rv b49, iv (1 : Int32), rv a_UNEQUAL, iv v89, iv (0 : Int32), iv (0 : Int32), rv a_UNEQUAL_symbol, iv (33 : Int32), .unset, .unset] []))
    refine own_st (fun _ k => XS.iload X94.here hx rfl (hb hby at_117) rfl  k) ?_
    show own_Fin p e below G (T94.setTop (mkF m 119 #[iv p1, iv p2, rv b49, iv (1 : Int32), rv a_UNEQUAL, iv v89, iv (0 : Int32), iv (0 : Int32), rv a_UNEQUAL_symbol, iv (33 : Int32), .unset, .unset] [(.int (33 : Int32))]))
    refine own_st (fun _ k => XS.bipush X94.here hx rfl (hb hby at_119) k) ?_
    show own_Fin p e below G (T94.setTop (mkF m 121 #[iv p1, iv p2, rv b49, iv (1 : Int32), rv a_UNEQUAL, iv v89, iv (0 : Int32), iv (0 : Int32), rv a_UNEQUAL_symbol, iv (33 : Int32), .unset, .unset] [(.int (62 : Int32)), (.int (33 : Int32))]))
    refine own_st (fun _ k => XS.icmpYes X94.here hx rfl (pc0 := 121) (pc' := 128) rfl (hb hby at_121) rfl (feq (by decide : ¬ ((33 : Int32) = (62 : Int32)))).2 (by decide) (by decide) k) ?_
    show own_Fin p e below G (T94.setTop (mkF m 128 #[iv p1, iv p2, rv b49, iv (1 : Int32), rv a_UNEQUAL, iv v89, iv (0 : Int32), iv (0 : Int32), rv a_UNEQUAL_symbol, iv (33 : Int32), .unset, .unset] []))
    refine own_st (fun _ k => XS.iconst X94.here hx rfl (hb hby at_128) k) ?_
    show own_Fin p e below G (T94.setTop (mkF m 129 #[iv p1, iv p2, rv b49, iv (1 : Int32), rv a_UNEQUAL, iv v89, iv (0 : Int32), iv (0 : Int32), rv a_UNEQUAL_symbol, iv (33 : Int32), .unset, .unset] [(.int (0 : Int32))]))
    refine own_st (fun _ k => XS.istore X94.here hx rfl (hb hby at_129) rfl (l' := #[iv p1, iv p2, rv b49, iv (1 : Int32), rv a_UNEQUAL, iv v89, iv (0 : Int32), iv (0 : Int32), rv a_UNEQUAL_symbol, iv (33 : Int32), iv (0 : Int32), .unset]) rfl k) ?_
    show own_Fin p e below G (T94.setTop (mkF m 131 #[iv p1, iv p2, rv b49, iv (1 : Int32), rv a_UNEQUAL, iv v89, iv (0 : Int32), iv (0 : Int32), rv a_UNEQUAL_symbol, iv (33 : Int32), iv (0 : Int32), .unset] []))
    refine own_st (fun _ k => XS.iloadN X94.here hx rfl (hb hby at_131) rfl  k) ?_
    show own_Fin p e below G (T94.setTop (mkF m 132 #[iv p1, iv p2, rv b49, iv (1 : Int32), rv a_UNEQUAL, iv v89, iv (0 : Int32), iv (0 : Int32), rv a_UNEQUAL_symbol, iv (33 : Int32), iv (0 : Int32), .unset] [(.int (1 : Int32))]))
    refine own_st (fun _ k => XS.iconst X94.here hx rfl (hb hby at_132) k) ?_
    show own_Fin p e below G (T94.setTop (mkF m 133 #[iv p1, iv p2, rv b49, iv (1 : Int32), rv a_UNEQUAL, iv v89, iv (0 : Int32), iv (0 : Int32), rv a_UNEQUAL_symbol, iv (33 : Int32), iv (0 : Int32), .unset] [(.int (2 : Int32)), (.int (1 : Int32))]))
    refine own_st (fun _ k => XS.icmpYes X94.here hx rfl (pc0 := 133) (pc' := 140) rfl (hb hby at_133) rfl (tlt (by decide : ((1 : Int32) < (2 : Int32)))).1 (by decide) (by decide) k) ?_
    show own_Fin p e below G (T94.setTop (mkF m 140 #[iv p1, iv p2, rv b49, iv (1 : Int32), rv a_UNEQUAL, iv v89, iv (0 : Int32), iv (0 : Int32), rv a_UNEQUAL_symbol, iv (33 : Int32), iv (0 : Int32), .unset] []))
    refine own_st (fun _ k => XS.iconst X94.here hx rfl (hb hby at_140) k) ?_
    show own_Fin p e below G (T94.setTop (mkF m 141 #[iv p1, iv p2, rv b49, iv (1 : Int32), rv a_UNEQUAL, iv v89, iv (0 : Int32), iv (0 : Int32), rv a_UNEQUAL_symbol, iv (33 : Int32), iv (0 : Int32), .unset] [(.int (0 : Int32))]))
    refine own_st (fun _ k => XS.istore X94.here hx rfl (hb hby at_141) rfl (l' := #[iv p1, iv p2, rv b49, iv (1 : Int32), rv a_UNEQUAL, iv v89, iv (0 : Int32), iv (0 : Int32), rv a_UNEQUAL_symbol, iv (33 : Int32), iv (0 : Int32), iv (0 : Int32)]) rfl k) ?_
    show own_Fin p e below G (T94.setTop (mkF m 143 #[iv p1, iv p2, rv b49, iv (1 : Int32), rv a_UNEQUAL, iv v89, iv (0 : Int32), iv (0 : Int32), rv a_UNEQUAL_symbol, iv (33 : Int32), iv (0 : Int32), iv (0 : Int32)] []))
    refine own_st (fun _ k => XS.iload X94.here hx rfl (hb hby at_143) rfl  k) ?_
    show own_Fin p e below G (T94.setTop (mkF m 145 #[iv p1, iv p2, rv b49, iv (1 : Int32), rv a_UNEQUAL, iv v89, iv (0 : Int32), iv (0 : Int32), rv a_UNEQUAL_symbol, iv (33 : Int32), iv (0 : Int32), iv (0 : Int32)] [(.int (0 : Int32))]))
    refine own_st (fun _ k => XS.iload X94.here hx rfl (hb hby at_145) rfl  k) ?_
    show own_Fin p e below G (T94.setTop (mkF m 147 #[iv p1, iv p2, rv b49, iv (1 : Int32), rv a_UNEQUAL, iv v89, iv (0 : Int32), iv (0 : Int32), rv a_UNEQUAL_symbol, iv (33 : Int32), iv (0 : Int32), iv (0 : Int32)] [(.int (0 : Int32)), (.int (0 : Int32))]))
    refine own_st (fun _ k => XS.icmpNo X94.here hx rfl (hb hby at_147) rfl (teq (by decide : ((0 : Int32) = (0 : Int32)))).2 k) ?_
    show own_Fin p e below G (T94.setTop (mkF m 150 #[iv p1, iv p2, rv b49, iv (1 : Int32), rv a_UNEQUAL, iv v89, iv (0 : Int32), iv (0 : Int32), rv a_UNEQUAL_symbol, iv (33 : Int32), iv (0 : Int32), iv (0 : Int32)] []))
    refine own_st (fun _ k => XS.iload X94.here hx rfl (hb hby at_150) rfl  k) ?_
    show own_Fin p e below G (T94.setTop (mkF m 152 #[iv p1, iv p2, rv b49, iv (1 : Int32), rv a_UNEQUAL, iv v89, iv (0 : Int32), iv (0 : Int32), rv a_UNEQUAL_symbol, iv (33 : Int32), iv (0 : Int32), iv (0 : Int32)] [(.int (0 : Int32))]))
    refine own_st (fun _ k => XS.iload X94.here hx rfl (hb hby at_152) rfl  k) ?_
    show own_Fin p e below G (T94.setTop (mkF m 154 #[iv p1, iv p2, rv b49, iv (1 : Int32), rv a_UNEQUAL, iv v89, iv (0 : Int32), iv (0 : Int32), rv a_UNEQUAL_symbol, iv (33 : Int32), iv (0 : Int32), iv (0 : Int32)] [(.int (0 : Int32)), (.int (0 : Int32))]))
    refine own_st (fun _ k => XS.icmpNo X94.here hx rfl (hb hby at_154) rfl (teq (by decide : ((0 : Int32) = (0 : Int32)))).2 k) ?_
    show own_Fin p e below G (T94.setTop (mkF m 157 #[iv p1, iv p2, rv b49, iv (1 : Int32), rv a_UNEQUAL, iv v89, iv (0 : Int32), iv (0 : Int32), rv a_UNEQUAL_symbol, iv (33 : Int32), iv (0 : Int32), iv (0 : Int32)] []))
    refine own_st (fun _ k => XS.iload X94.here hx rfl (hb hby at_157) rfl  k) ?_
    show own_Fin p e below G (T94.setTop (mkF m 159 #[iv p1, iv p2, rv b49, iv (1 : Int32), rv a_UNEQUAL, iv v89, iv (0 : Int32), iv (0 : Int32), rv a_UNEQUAL_symbol, iv (33 : Int32), iv (0 : Int32), iv (0 : Int32)] [(.int (0 : Int32))]))
    refine own_st (fun _ k => XS.iload X94.here hx rfl (hb hby at_159) rfl  k) ?_
    show own_Fin p e below G (T94.setTop (mkF m 161 #[iv p1, iv p2, rv b49, iv (1 : Int32), rv a_UNEQUAL, iv v89, iv (0 : Int32), iv (0 : Int32), rv a_UNEQUAL_symbol, iv (33 : Int32), iv (0 : Int32), iv (0 : Int32)] [(.int (0 : Int32)), (.int (0 : Int32))]))
    refine own_st (fun _ k => XS.icmpNo X94.here hx rfl (hb hby at_161) rfl (teq (by decide : ((0 : Int32) = (0 : Int32)))).2 k) ?_
    show own_Fin p e below G (T94.setTop (mkF m 164 #[iv p1, iv p2, rv b49, iv (1 : Int32), rv a_UNEQUAL, iv v89, iv (0 : Int32), iv (0 : Int32), rv a_UNEQUAL_symbol, iv (33 : Int32), iv (0 : Int32), iv (0 : Int32)] []))
    refine own_st (fun _ k => XS.iconst X94.here hx rfl (hb hby at_164) k) ?_
    show own_Fin p e below G (T94.setTop (mkF m 165 #[iv p1, iv p2, rv b49, iv (1 : Int32), rv a_UNEQUAL, iv v89, iv (0 : Int32), iv (0 : Int32), rv a_UNEQUAL_symbol, iv (33 : Int32), iv (0 : Int32), iv (0 : Int32)] [(.int (1 : Int32))]))
    refine own_st (fun _ k => XS.goto X94.here hx rfl (pc0 := 165) (pc' := 169) rfl (hb hby at_165) (by decide) (by decide) k) ?_
    show own_Fin p e below G (T94.setTop (mkF m 169 #[iv p1, iv p2, rv b49, iv (1 : Int32), rv a_UNEQUAL, iv v89, iv (0 : Int32), iv (0 : Int32), rv a_UNEQUAL_symbol, iv (33 : Int32), iv (0 : Int32), iv (0 : Int32)] [(.int (1 : Int32))]))
    refine own_out X94 Bd.notSynchronized (v := (some (.int (1 : Int32)))) (fun h => by rw [Bd.returns] at h; cases h) hG (fun fs hr => retN X94 hx (t := .boolean) Bd.returns (by simp) (hb hby at_169) hr) (by decide) (by decide) ?_
    exact ⟨rfl, N94⟩
  · show own_Fin p e below G (T78.setTop (mkF m 50 #[iv p1, iv p2, rv b49, iv (2 : Int32), .unset, .unset, .unset, .unset, .unset, .unset, .unset, .unset] []))
    refine own_st (fun _ k => XS.aloadN X78.here hx rfl (hb hby at_50) rfl rfl k) ?_
    show own_Fin p e below G (T78.setTop (mkF m 51 #[iv p1, iv p2, rv b49, iv (2 : Int32), .unset, .unset, .unset, .unset, .unset, .unset, .unset, .unset] [(.ref b49)]))
    refine own_st (fun _ k => XS.iloadN X78.here hx rfl (hb hby at_51) rfl  k) ?_
    show own_Fin p e below G (T78.setTop (mkF m 52 #[iv p1, iv p2, rv b49, iv (2 : Int32), .unset, .unset, .unset, .unset, .unset, .unset, .unset, .unset] [(.int (2 : Int32)), (.ref b49)]))
    refine own_st (fun _ k => own_ldR X78 hx hZ e78 V78 (j := (2 : Int32)) (n := 6) rfl (by decide) rfl (v := (.ref a_AT_MOST)) rfl (g := (mkF m 52 #[iv p1, iv p2, rv b49, iv (2 : Int32), .unset, .unset, .unset, .unset, .unset, .unset, .unset, .unset] [(.int (2 : Int32)), (.ref b49)])) rfl rfl (hb hby at_52) k) ?_
    show own_Fin p e below G (T78.setTop (mkF m 53 #[iv p1, iv p2, rv b49, iv (2 : Int32), .unset, .unset, .unset, .unset, .unset, .unset, .unset, .unset] [(.ref a_AT_MOST)]))
    refine own_st (fun _ k => XS.astore X78.here hx rfl (hb hby at_53) rfl rfl (l' := #[iv p1, iv p2, rv b49, iv (2 : Int32), rv a_AT_MOST, .unset, .unset, .unset, .unset, .unset, .unset, .unset]) rfl k) ?_
    show own_Fin p e below G (T78.setTop (mkF m 55 #[iv p1, iv p2, rv b49, iv (2 : Int32), rv a_AT_MOST, .unset, .unset, .unset, .unset, .unset, .unset, .unset] []))
    refine own_st (fun _ k => XS.iloadN X78.here hx rfl (hb hby at_55) rfl  k) ?_
    show own_Fin p e below G (T78.setTop (mkF m 56 #[iv p1, iv p2, rv b49, iv (2 : Int32), rv a_AT_MOST, .unset, .unset, .unset, .unset, .unset, .unset, .unset] [(.int p2)]))
    refine own_st (fun _ k => own_ldc X78 hx hZ hown (own_w hw 17 rfl) (g := (mkF m 56 #[iv p1, iv p2, rv b49, iv (2 : Int32), rv a_AT_MOST, .unset, .unset, .unset, .unset, .unset, .unset, .unset] [(.int p2)])) rfl (hb hby at_56) k) ?_
    show own_Fin p e below G (T78.setTop (mkF m 58 #[iv p1, iv p2, rv b49, iv (2 : Int32), rv a_AT_MOST, .unset, .unset, .unset, .unset, .unset, .unset, .unset] [(.int (1073741823 : Int32)), (.int p2)]))
    refine own_st (fun _ k => XS.iand X78.here hx rfl (hb hby at_58) rfl k) ?_
    show own_Fin p e below G (T78.setTop (mkF m 59 #[iv p1, iv p2, rv b49, iv (2 : Int32), rv a_AT_MOST, .unset, .unset, .unset, .unset, .unset, .unset, .unset] [(.int (p2 &&& (1073741823 : Int32)))]))
    refine own_st (fun _ k => XS.iconst X78.here hx rfl (hb hby at_59) k) ?_
    show own_Fin p e below G (T78.setTop (mkF m 60 #[iv p1, iv p2, rv b49, iv (2 : Int32), rv a_AT_MOST, .unset, .unset, .unset, .unset, .unset, .unset, .unset] [(.int (1 : Int32)), (.int (p2 &&& (1073741823 : Int32)))]))
    refine own_st (fun _ k => XS.iadd X78.here hx rfl (hb hby at_60) rfl k) ?_
    show own_Fin p e below G (T78.setTop (mkF m 61 #[iv p1, iv p2, rv b49, iv (2 : Int32), rv a_AT_MOST, .unset, .unset, .unset, .unset, .unset, .unset, .unset] [(.int ((p2 &&& (1073741823 : Int32)) + (1 : Int32)))]))
    generalize e_v95 : ((p2 &&& (1073741823 : Int32)) + (1 : Int32)) = v95
    show own_Fin p e below G (T78.setTop (mkF m 61 #[iv p1, iv p2, rv b49, iv (2 : Int32), rv a_AT_MOST, .unset, .unset, .unset, .unset, .unset, .unset, .unset] [(.int v95)]))
    have rp := own_pos p2
    rw [e_v95] at rp
    have t0 : (0 : Int32).toInt = 0 := rfl
    have z1p : ¬ v95 = (0 : Int32) := by rw [← Int32.toInt_inj]; omega
    have z2p : ¬ v95 < (0 : Int32) := by rw [Int32.lt_iff_toInt_lt]; omega
    have z3p : (0 : Int32) < v95 := by rw [Int32.lt_iff_toInt_lt]; omega
    have z1n : ¬ (-v95) = (0 : Int32) := by rw [← Int32.toInt_inj]; omega
    have z2n : (-v95) < (0 : Int32) := by rw [Int32.lt_iff_toInt_lt]; omega
    have z3n : ¬ (0 : Int32) < (-v95) := by rw [Int32.lt_iff_toInt_lt]; omega
    refine own_st (fun _ k => XS.istore X78.here hx rfl (hb hby at_61) rfl (l' := #[iv p1, iv p2, rv b49, iv (2 : Int32), rv a_AT_MOST, iv v95, .unset, .unset, .unset, .unset, .unset, .unset]) rfl k) ?_
    show own_Fin p e below G (T78.setTop (mkF m 63 #[iv p1, iv p2, rv b49, iv (2 : Int32), rv a_AT_MOST, iv v95, .unset, .unset, .unset, .unset, .unset, .unset] []))
    refine own_st (fun _ k => XS.aload X78.here hx rfl (hb hby at_63) rfl rfl k) ?_
    show own_Fin p e below G (T78.setTop (mkF m 65 #[iv p1, iv p2, rv b49, iv (2 : Int32), rv a_AT_MOST, iv v95, .unset, .unset, .unset, .unset, .unset, .unset] [(.ref a_AT_MOST)]))
    obtain ⟨cq96, kq96, q96a, q96b, q96c⟩ := isOf hZ e78 f79_4
    obtain ⟨_, _, ⟨T96, L96, k96, n96⟩, -, X96, ⟨Lc96, hQ96, l96, y96, z96⟩, st96⟩ := X78.virtualBack hx (y := own_y0) (z := own_y0) hown (mvT hZ (own_w hw 18 rfl)) (mvT hZ (own_w hw 19 rfl)) (notFace_of_selects (args := #[]) (mvT hZ (own_w hw 21 rfl))) (mvT hZ (own_w hw 21 rfl)) (mvT hZ (own_w hw 20 rfl)) (by decide) (backOf (W := 0) (rm_ors l Z a0 hw [] a_AT_MOST a_EQUAL a_UNEQUAL h78 n0 (Nat.le_trans Z0 K80.1) f79_1 f79_3) hZ (own_w hw 22 rfl) (own_w hw 3 rfl) (by decide) (by decide)) q96a q96c (g := (mkF m 65 #[iv p1, iv p2, rv b49, iv (2 : Int32), rv a_AT_MOST, iv v95, .unset, .unset, .unset, .unset, .unset, .unset] [(.ref a_AT_MOST)])) rfl (by rw [hml]; rfl) (Steps.refl _) (argsL := []) (rest := []) (lenOf pd___Z_171 rfl) rfl (by show 2 * 0 + _ ≤ _; exact Nat.le_of_eq rfl) (hb hby at_65) (fun _ _ => ⟨rfl, e78, (by decide : 1 + 0 ≤ _), (by decide : 6 + 0 ≤ _)⟩)
    dsimp only [Pt.U, Pt.locs, Pt.cells, Pt.slots] at X96 l96 y96 z96 st96 hQ96
    subst l96 y96 z96
    obtain ⟨hv96, N96q, e96⟩ := hQ96
    rw [(by unfold own_ord; rw [if_neg ne_a_AT_MOST_a_EQUAL, if_neg ne_a_AT_MOST_a_UNEQUAL] : own_ord a_AT_MOST a_EQUAL a_UNEQUAL = 1)] at hv96
    subst hv96
    skip
    have N96 := Fr.app N81 N96q
    refine own_tr st96 ?_
    show own_Fin p e below G (T96.setTop (mkF m 68 #[iv p1, iv p2, rv b49, iv (2 : Int32), rv a_AT_MOST, iv v95, .unset, .unset, .unset, .unset, .unset, .unset] [(.int (1 : Int32))]))
    refine own_st (fun _ k => XS.istore X96.here hx rfl (hb hby at_68) rfl (l' := #[iv p1, iv p2, rv b49, iv (2 : Int32), rv a_AT_MOST, iv v95, iv (1 : Int32), .unset, .unset, .unset, .unset, .unset]) rfl k) ?_
    show own_Fin p e below G (T96.setTop (mkF m 70 #[iv p1, iv p2, rv b49, iv (2 : Int32), rv a_AT_MOST, iv v95, iv (1 : Int32), .unset, .unset, .unset, .unset, .unset] []))
    refine own_st (fun _ k => XS.aload X96.here hx rfl (hb hby at_70) rfl rfl k) ?_
    show own_Fin p e below G (T96.setTop (mkF m 72 #[iv p1, iv p2, rv b49, iv (2 : Int32), rv a_AT_MOST, iv v95, iv (1 : Int32), .unset, .unset, .unset, .unset, .unset] [(.ref a_AT_MOST)]))
    refine own_st (fun _ k => XS.iload X96.here hx rfl (hb hby at_72) rfl  k) ?_
    show own_Fin p e below G (T96.setTop (mkF m 74 #[iv p1, iv p2, rv b49, iv (2 : Int32), rv a_AT_MOST, iv v95, iv (1 : Int32), .unset, .unset, .unset, .unset, .unset] [(.int v95), (.ref a_AT_MOST)]))
    refine own_st (fun _ k => XS.ineg X96.here hx rfl (hb hby at_74) rfl k) ?_
    show own_Fin p e below G (T96.setTop (mkF m 75 #[iv p1, iv p2, rv b49, iv (2 : Int32), rv a_AT_MOST, iv v95, iv (1 : Int32), .unset, .unset, .unset, .unset, .unset] [(.int (-v95)), (.ref a_AT_MOST)]))
    obtain ⟨cq97, kq97, q97a, q97b, q97c⟩ := isOf hZ e96 f79_4
    obtain ⟨_, _, ⟨T97, L97, k97, n97⟩, -, X97, ⟨Lc97, hQ97, l97, y97, z97⟩, st97⟩ := X96.virtualBack hx (y := own_y3) (z := own_y3) hown (mvT hZ (own_w hw 24 rfl)) (mvT hZ (own_w hw 25 rfl)) (notFace_of_selects (args := #[]) (mvT hZ (own_w hw 27 rfl))) (mvT hZ (own_w hw 27 rfl)) (mvT hZ (own_w hw 26 rfl)) (by decide) (backOf (W := 0) (rm_h2n l Z a0 hw [] a_AT_MOST (-v95) h78 n0 (Nat.le_trans Z0 K80.1) f79_4 f79_32 z1n z2n z3n) hZ (own_w hw 28 rfl) (own_w hw 3 rfl) (by decide) (by decide)) q97a q97c (g := (mkF m 75 #[iv p1, iv p2, rv b49, iv (2 : Int32), rv a_AT_MOST, iv v95, iv (1 : Int32), .unset, .unset, .unset, .unset, .unset] [(.int (-v95)), (.ref a_AT_MOST)])) rfl (by rw [hml]; rfl) (Steps.refl _) (argsL := [(.int (-v95))]) (rest := []) (lenOf pd__I_Z_244 rfl) rfl (by show 2 * 0 + _ ≤ _; exact Nat.le_of_eq rfl) (hb hby at_75) (fun _ _ => ⟨rfl, e96, (by decide : 1 + 0 ≤ _), (by decide : 6 + 0 ≤ _)⟩)
    dsimp only [Pt.U, Pt.locs, Pt.cells, Pt.slots] at X97 l97 y97 z97 st97 hQ97
    subst l97 y97 z97
    obtain ⟨rfl, N97q, e97⟩ := hQ97
    skip
    have N97 := Fr.app N96 N97q
    refine own_tr st97 ?_
    show own_Fin p e below G (T97.setTop (mkF m 78 #[iv p1, iv p2, rv b49, iv (2 : Int32), rv a_AT_MOST, iv v95, iv (1 : Int32), .unset, .unset, .unset, .unset, .unset] [(.int (1 : Int32))]))
    refine own_st (fun _ k => XS.aload X97.here hx rfl (hb hby at_78) rfl rfl k) ?_
    show own_Fin p e below G (T97.setTop (mkF m 80 #[iv p1, iv p2, rv b49, iv (2 : Int32), rv a_AT_MOST, iv v95, iv (1 : Int32), .unset, .unset, .unset, .unset, .unset] [(.ref a_AT_MOST), (.int (1 : Int32))]))
    refine own_st (fun _ k => XS.iload X97.here hx rfl (hb hby at_80) rfl  k) ?_
    show own_Fin p e below G (T97.setTop (mkF m 82 #[iv p1, iv p2, rv b49, iv (2 : Int32), rv a_AT_MOST, iv v95, iv (1 : Int32), .unset, .unset, .unset, .unset, .unset] [(.int v95), (.ref a_AT_MOST), (.int (1 : Int32))]))
    obtain ⟨cq98, kq98, q98a, q98b, q98c⟩ := isOf hZ e97 f79_4
    obtain ⟨_, _, ⟨T98, L98, k98, n98⟩, -, X98, ⟨Lc98, hQ98, l98, y98, z98⟩, st98⟩ := X97.virtualBack hx (y := own_y3) (z := own_y3) hown (mvT hZ (own_w hw 24 rfl)) (mvT hZ (own_w hw 25 rfl)) (notFace_of_selects (args := #[]) (mvT hZ (own_w hw 27 rfl))) (mvT hZ (own_w hw 27 rfl)) (mvT hZ (own_w hw 26 rfl)) (by decide) (backOf (W := 1) (rm_h2p l Z a0 hw [] a_AT_MOST v95 h78 n0 (Nat.le_trans Z0 K80.1) f79_4 f79_32 z1p z2p z3p) hZ (own_w hw 28 rfl) (own_w hw 3 rfl) (by decide) (by decide)) q98a q98c (g := (mkF m 82 #[iv p1, iv p2, rv b49, iv (2 : Int32), rv a_AT_MOST, iv v95, iv (1 : Int32), .unset, .unset, .unset, .unset, .unset] [(.int v95), (.ref a_AT_MOST), (.int (1 : Int32))])) rfl (by rw [hml]; rfl) (Steps.refl _) (argsL := [(.int v95)]) (rest := [(.int (1 : Int32))]) (lenOf pd__I_Z_244 rfl) rfl (by show 2 * 0 + _ ≤ _; exact Nat.le_of_eq rfl) (hb hby at_82) (fun _ _ => ⟨rfl, e97, (by decide : 1 + 0 ≤ _), (by decide : 6 + 0 ≤ _)⟩)
    dsimp only [Pt.U, Pt.locs, Pt.cells, Pt.slots] at X98 l98 y98 z98 st98 hQ98
    subst l98 y98 z98
    obtain ⟨rfl, N98q, e98⟩ := hQ98
    skip
    have N98 := Fr.app N97 N98q
    refine own_tr st98 ?_
    show own_Fin p e below G (T98.setTop (mkF m 85 #[iv p1, iv p2, rv b49, iv (2 : Int32), rv a_AT_MOST, iv v95, iv (1 : Int32), .unset, .unset, .unset, .unset, .unset] [(.int (0 : Int32)), (.int (1 : Int32))]))
    refine own_st (fun _ k => XS.icmpNo X98.here hx rfl (hb hby at_85) rfl (feq (by decide : ¬ ((1 : Int32) = (0 : Int32)))).1 k) ?_
    show own_Fin p e below G (T98.setTop (mkF m 88 #[iv p1, iv p2, rv b49, iv (2 : Int32), rv a_AT_MOST, iv v95, iv (1 : Int32), .unset, .unset, .unset, .unset, .unset] []))
    refine own_st (fun _ k => XS.iconst X98.here hx rfl (hb hby at_88) k) ?_
    show own_Fin p e below G (T98.setTop (mkF m 89 #[iv p1, iv p2, rv b49, iv (2 : Int32), rv a_AT_MOST, iv v95, iv (1 : Int32), .unset, .unset, .unset, .unset, .unset] [(.int (1 : Int32))]))
    refine own_st (fun _ k => XS.goto X98.here hx rfl (pc0 := 89) (pc' := 93) rfl (hb hby at_89) (by decide) (by decide) k) ?_
    show own_Fin p e below G (T98.setTop (mkF m 93 #[iv p1, iv p2, rv b49, iv (2 : Int32), rv a_AT_MOST, iv v95, iv (1 : Int32), .unset, .unset, .unset, .unset, .unset] [(.int (1 : Int32))]))
    refine own_st (fun _ k => XS.istore X98.here hx rfl (hb hby at_93) rfl (l' := #[iv p1, iv p2, rv b49, iv (2 : Int32), rv a_AT_MOST, iv v95, iv (1 : Int32), iv (1 : Int32), .unset, .unset, .unset, .unset]) rfl k) ?_
    show own_Fin p e below G (T98.setTop (mkF m 95 #[iv p1, iv p2, rv b49, iv (2 : Int32), rv a_AT_MOST, iv v95, iv (1 : Int32), iv (1 : Int32), .unset, .unset, .unset, .unset] []))
    refine own_st (fun _ k => XS.aload X98.here hx rfl (hb hby at_95) rfl rfl k) ?_
    show own_Fin p e below G (T98.setTop (mkF m 97 #[iv p1, iv p2, rv b49, iv (2 : Int32), rv a_AT_MOST, iv v95, iv (1 : Int32), iv (1 : Int32), .unset, .unset, .unset, .unset] [(.ref a_AT_MOST)]))
    obtain ⟨cq99, kq99, q99a, q99b, q99c⟩ := isOf hZ e98 f79_4
    obtain ⟨_, _, ⟨T99, L99, k99, n99⟩, -, X99, ⟨Lc99, hQ99, l99, y99, z99⟩, st99⟩ := X98.virtualBack hx (y := own_y4) (z := own_y4) hown (mvT hZ (own_w hw 38 rfl)) (mvT hZ (own_w hw 39 rfl)) (notFace_of_selects (args := #[]) (mvT hZ (own_w hw 41 rfl))) (mvT hZ (own_w hw 41 rfl)) (mvT hZ (own_w hw 40 rfl)) (by decide) (backOf (W := 0) (rm_sym l Z a0 hw [] a_AT_MOST a_AT_MOST_symbol h78 n0 (Nat.le_trans Z0 K80.1) f79_15) hZ (own_w hw 42 rfl) (own_w hw 3 rfl) (by decide) (by decide)) q99a q99c (g := (mkF m 97 #[iv p1, iv p2, rv b49, iv (2 : Int32), rv a_AT_MOST, iv v95, iv (1 : Int32), iv (1 : Int32), .unset, .unset, .unset, .unset] [(.ref a_AT_MOST)])) rfl (by rw [hml]; rfl) (Steps.refl _) (argsL := []) (rest := []) (lenOf pd___Ljava_lang_String__780 rfl) rfl (by show 2 * 0 + _ ≤ _; exact Nat.le_of_eq rfl) (hb hby at_97) (fun _ _ => ⟨rfl, e98, (by decide : 1 + 0 ≤ _), (by decide : 6 + 0 ≤ _)⟩)
    dsimp only [Pt.U, Pt.locs, Pt.cells, Pt.slots] at X99 l99 y99 z99 st99 hQ99
    subst l99 y99 z99
    obtain ⟨rfl, N99q, e99⟩ := hQ99
    skip
    have N99 := Fr.app N98 N99q
    refine own_tr st99 ?_
    show own_Fin p e below G (T99.setTop (mkF m 100 #[iv p1, iv p2, rv b49, iv (2 : Int32), rv a_AT_MOST, iv v95, iv (1 : Int32), iv (1 : Int32), .unset, .unset, .unset, .unset] [(.ref a_AT_MOST_symbol)]))
    refine own_st (fun _ k => XS.astore X99.here hx rfl (hb hby at_100) rfl rfl (l' := #[iv p1, iv p2, rv b49, iv (2 : Int32), rv a_AT_MOST, iv v95, iv (1 : Int32), iv (1 : Int32), rv a_AT_MOST_symbol, .unset, .unset, .unset]) rfl k) ?_
    show own_Fin p e below G (T99.setTop (mkF m 102 #[iv p1, iv p2, rv b49, iv (2 : Int32), rv a_AT_MOST, iv v95, iv (1 : Int32), iv (1 : Int32), rv a_AT_MOST_symbol, .unset, .unset, .unset] []))
    refine own_st (fun _ k => XS.aload X99.here hx rfl (hb hby at_102) rfl rfl k) ?_
    show own_Fin p e below G (T99.setTop (mkF m 104 #[iv p1, iv p2, rv b49, iv (2 : Int32), rv a_AT_MOST, iv v95, iv (1 : Int32), iv (1 : Int32), rv a_AT_MOST_symbol, .unset, .unset, .unset] [(.ref a_AT_MOST_symbol)]))
    refine own_st (fun _ k => XS.iconst X99.here hx rfl (hb hby at_104) k) ?_
    show own_Fin p e below G (T99.setTop (mkF m 105 #[iv p1, iv p2, rv b49, iv (2 : Int32), rv a_AT_MOST, iv v95, iv (1 : Int32), iv (1 : Int32), rv a_AT_MOST_symbol, .unset, .unset, .unset] [(.int (0 : Int32)), (.ref a_AT_MOST_symbol)]))
    obtain ⟨cq100, kq100, q100a, q100b, q100c⟩ := isOf hZ e99 f79_14
    obtain ⟨_, _, ⟨T100, L100, k100, n100⟩, -, X100, ⟨Lc100, hQ100, l100, y100, z100⟩, st100⟩ := X99.virtualBack hx (y := own_y9) (z := own_y9) hown (mvT hZ (own_w hw 45 rfl)) (mvT hZ (own_w hw 46 rfl)) (notFace_of_selects (args := #[]) (mvT hZ (own_w hw 48 rfl))) (mvT hZ (own_w hw 48 rfl)) (mvT hZ (own_w hw 47 rfl)) (by decide) (backOf (W := 0) (rm_ca60_61 l Z a0 hw [] a_AT_MOST_symbol a_AT_MOST_symbol_value cs fm h78 n0 (Nat.le_trans Z0 K80.1) f79_14 f79_34 f79_25 f79_44 f79_48 hcs hfm f79_49) hZ (own_w hw 50 rfl) (own_w hw 49 rfl) (by decide) (by decide)) q100a q100c (g := (mkF m 105 #[iv p1, iv p2, rv b49, iv (2 : Int32), rv a_AT_MOST, iv v95, iv (1 : Int32), iv (1 : Int32), rv a_AT_MOST_symbol, .unset, .unset, .unset] [(.int (0 : Int32)), (.ref a_AT_MOST_symbol)])) rfl (by rw [hml]; rfl) (Steps.refl _) (argsL := [(.int (0 : Int32))]) (rest := []) (lenOf pd__I_C_221 rfl) rfl (by show 2 * 0 + _ ≤ _; exact Nat.le_of_eq rfl) (hb hby at_105) (fun _ _ => ⟨rfl, e99, (by decide : 1 + 0 ≤ _), (by decide : 6 + 0 ≤ _)⟩)
    dsimp only [Pt.U, Pt.locs, Pt.cells, Pt.slots] at X100 l100 y100 z100 st100 hQ100
    subst l100 y100 z100
    obtain ⟨rfl, N100q, e100⟩ := hQ100
    skip
    have N100 := Fr.app N99 N100q
    refine own_tr st100 ?_
    show own_Fin p e below G (T100.setTop (mkF m 108 #[iv p1, iv p2, rv b49, iv (2 : Int32), rv a_AT_MOST, iv v95, iv (1 : Int32), iv (1 : Int32), rv a_AT_MOST_symbol, .unset, .unset, .unset] [(.int (60 : Int32))]))
    refine own_st (fun _ k => XS.istore X100.here hx rfl (hb hby at_108) rfl (l' := #[iv p1, iv p2, rv b49, iv (2 : Int32), rv a_AT_MOST, iv v95, iv (1 : Int32), iv (1 : Int32), rv a_AT_MOST_symbol, iv (60 : Int32), .unset, .unset]) rfl k) ?_
    show own_Fin p e below G (T100.setTop (mkF m 110 #[iv p1, iv p2, rv b49, iv (2 : Int32), rv a_AT_MOST, iv v95, iv (1 : Int32), iv (1 : Int32), rv a_AT_MOST_symbol, iv (60 : Int32), .unset, .unset] []))
    refine own_st (fun _ k => XS.iload X100.here hx rfl (hb hby at_110) rfl  k) ?_
    show own_Fin p e below G (T100.setTop (mkF m 112 #[iv p1, iv p2, rv b49, iv (2 : Int32), rv a_AT_MOST, iv v95, iv (1 : Int32), iv (1 : Int32), rv a_AT_MOST_symbol, iv (60 : Int32), .unset, .unset] [(.int (60 : Int32))]))
    refine own_st (fun _ k => XS.bipush X100.here hx rfl (hb hby at_112) k) ?_
    show own_Fin p e below G (T100.setTop (mkF m 114 #[iv p1, iv p2, rv b49, iv (2 : Int32), rv a_AT_MOST, iv v95, iv (1 : Int32), iv (1 : Int32), rv a_AT_MOST_symbol, iv (60 : Int32), .unset, .unset] [(.int (60 : Int32)), (.int (60 : Int32))]))
    refine own_st (fun _ k => XS.icmpYes X100.here hx rfl (pc0 := 114) (pc' := 124) rfl (hb hby at_114) rfl (teq (by decide : ((60 : Int32) = (60 : Int32)))).1 (by decide) (by decide) k) ?_
    show own_Fin p e below G (T100.setTop (mkF m 124 #[iv p1, iv p2, rv b49, iv (2 : Int32), rv a_AT_MOST, iv v95, iv (1 : Int32), iv (1 : Int32), rv a_AT_MOST_symbol, iv (60 : Int32), .unset, .unset] []))
    refine own_st (fun _ k => XS.iconst X100.here hx rfl (hb hby at_124) k) ?_
    show own_Fin p e below G (T100.setTop (mkF m 125 #[iv p1, iv p2, rv b49, iv (2 : Int32), rv a_AT_MOST, iv v95, iv (1 : Int32), iv (1 : Int32), rv a_AT_MOST_symbol, iv (60 : Int32), .unset, .unset] [(.int (1 : Int32))]))
    refine own_st (fun _ k => XS.goto X100.here hx rfl (pc0 := 125) (pc' := 129) rfl (hb hby at_125) (by decide) (by decide) k) ?_
    show own_Fin p e below G (T100.setTop (mkF m 129 #[iv p1, iv p2, rv b49, iv (2 : Int32), rv a_AT_MOST, iv v95, iv (1 : Int32), iv (1 : Int32), rv a_AT_MOST_symbol, iv (60 : Int32), .unset, .unset] [(.int (1 : Int32))]))
    refine own_st (fun _ k => XS.istore X100.here hx rfl (hb hby at_129) rfl (l' := #[iv p1, iv p2, rv b49, iv (2 : Int32), rv a_AT_MOST, iv v95, iv (1 : Int32), iv (1 : Int32), rv a_AT_MOST_symbol, iv (60 : Int32), iv (1 : Int32), .unset]) rfl k) ?_
    show own_Fin p e below G (T100.setTop (mkF m 131 #[iv p1, iv p2, rv b49, iv (2 : Int32), rv a_AT_MOST, iv v95, iv (1 : Int32), iv (1 : Int32), rv a_AT_MOST_symbol, iv (60 : Int32), iv (1 : Int32), .unset] []))
    refine own_st (fun _ k => XS.iloadN X100.here hx rfl (hb hby at_131) rfl  k) ?_
    show own_Fin p e below G (T100.setTop (mkF m 132 #[iv p1, iv p2, rv b49, iv (2 : Int32), rv a_AT_MOST, iv v95, iv (1 : Int32), iv (1 : Int32), rv a_AT_MOST_symbol, iv (60 : Int32), iv (1 : Int32), .unset] [(.int (2 : Int32))]))
    refine own_st (fun _ k => XS.iconst X100.here hx rfl (hb hby at_132) k) ?_
    show own_Fin p e below G (T100.setTop (mkF m 133 #[iv p1, iv p2, rv b49, iv (2 : Int32), rv a_AT_MOST, iv v95, iv (1 : Int32), iv (1 : Int32), rv a_AT_MOST_symbol, iv (60 : Int32), iv (1 : Int32), .unset] [(.int (2 : Int32)), (.int (2 : Int32))]))
    refine own_st (fun _ k => XS.icmpNo X100.here hx rfl (hb hby at_133) rfl (flt (by decide : ¬ ((2 : Int32) < (2 : Int32)))).1 k) ?_
    show own_Fin p e below G (T100.setTop (mkF m 136 #[iv p1, iv p2, rv b49, iv (2 : Int32), rv a_AT_MOST, iv v95, iv (1 : Int32), iv (1 : Int32), rv a_AT_MOST_symbol, iv (60 : Int32), iv (1 : Int32), .unset] []))
    refine own_st (fun _ k => XS.iconst X100.here hx rfl (hb hby at_136) k) ?_
    show own_Fin p e below G (T100.setTop (mkF m 137 #[iv p1, iv p2, rv b49, iv (2 : Int32), rv a_AT_MOST, iv v95, iv (1 : Int32), iv (1 : Int32), rv a_AT_MOST_symbol, iv (60 : Int32), iv (1 : Int32), .unset] [(.int (1 : Int32))]))
    refine own_st (fun _ k => XS.goto X100.here hx rfl (pc0 := 137) (pc' := 141) rfl (hb hby at_137) (by decide) (by decide) k) ?_
    show own_Fin p e below G (T100.setTop (mkF m 141 #[iv p1, iv p2, rv b49, iv (2 : Int32), rv a_AT_MOST, iv v95, iv (1 : Int32), iv (1 : Int32), rv a_AT_MOST_symbol, iv (60 : Int32), iv (1 : Int32), .unset] [(.int (1 : Int32))]))
    refine own_st (fun _ k => XS.istore X100.here hx rfl (hb hby at_141) rfl (l' := #[iv p1, iv p2, rv b49, iv (2 : Int32), rv a_AT_MOST, iv v95, iv (1 : Int32), iv (1 : Int32), rv a_AT_MOST_symbol, iv (60 : Int32), iv (1 : Int32), iv (1 : Int32)]) rfl k) ?_
    show own_Fin p e below G (T100.setTop (mkF m 143 #[iv p1, iv p2, rv b49, iv (2 : Int32), rv a_AT_MOST, iv v95, iv (1 : Int32), iv (1 : Int32), rv a_AT_MOST_symbol, iv (60 : Int32), iv (1 : Int32), iv (1 : Int32)] []))
    refine own_st (fun _ k => XS.iload X100.here hx rfl (hb hby at_143) rfl  k) ?_
    show own_Fin p e below G (T100.setTop (mkF m 145 #[iv p1, iv p2, rv b49, iv (2 : Int32), rv a_AT_MOST, iv v95, iv (1 : Int32), iv (1 : Int32), rv a_AT_MOST_symbol, iv (60 : Int32), iv (1 : Int32), iv (1 : Int32)] [(.int (1 : Int32))]))
    refine own_st (fun _ k => XS.iload X100.here hx rfl (hb hby at_145) rfl  k) ?_
    show own_Fin p e below G (T100.setTop (mkF m 147 #[iv p1, iv p2, rv b49, iv (2 : Int32), rv a_AT_MOST, iv v95, iv (1 : Int32), iv (1 : Int32), rv a_AT_MOST_symbol, iv (60 : Int32), iv (1 : Int32), iv (1 : Int32)] [(.int (1 : Int32)), (.int (1 : Int32))]))
    refine own_st (fun _ k => XS.icmpNo X100.here hx rfl (hb hby at_147) rfl (teq (by decide : ((1 : Int32) = (1 : Int32)))).2 k) ?_
    show own_Fin p e below G (T100.setTop (mkF m 150 #[iv p1, iv p2, rv b49, iv (2 : Int32), rv a_AT_MOST, iv v95, iv (1 : Int32), iv (1 : Int32), rv a_AT_MOST_symbol, iv (60 : Int32), iv (1 : Int32), iv (1 : Int32)] []))
    refine own_st (fun _ k => XS.iload X100.here hx rfl (hb hby at_150) rfl  k) ?_
    show own_Fin p e below G (T100.setTop (mkF m 152 #[iv p1, iv p2, rv b49, iv (2 : Int32), rv a_AT_MOST, iv v95, iv (1 : Int32), iv (1 : Int32), rv a_AT_MOST_symbol, iv (60 : Int32), iv (1 : Int32), iv (1 : Int32)] [(.int (1 : Int32))]))
    refine own_st (fun _ k => XS.iload X100.here hx rfl (hb hby at_152) rfl  k) ?_
    show own_Fin p e below G (T100.setTop (mkF m 154 #[iv p1, iv p2, rv b49, iv (2 : Int32), rv a_AT_MOST, iv v95, iv (1 : Int32), iv (1 : Int32), rv a_AT_MOST_symbol, iv (60 : Int32), iv (1 : Int32), iv (1 : Int32)] [(.int (1 : Int32)), (.int (1 : Int32))]))
    refine own_st (fun _ k => XS.icmpNo X100.here hx rfl (hb hby at_154) rfl (teq (by decide : ((1 : Int32) = (1 : Int32)))).2 k) ?_
    show own_Fin p e below G (T100.setTop (mkF m 157 #[iv p1, iv p2, rv b49, iv (2 : Int32), rv a_AT_MOST, iv v95, iv (1 : Int32), iv (1 : Int32), rv a_AT_MOST_symbol, iv (60 : Int32), iv (1 : Int32), iv (1 : Int32)] []))
    refine own_st (fun _ k => XS.iload X100.here hx rfl (hb hby at_157) rfl  k) ?_
    show own_Fin p e below G (T100.setTop (mkF m 159 #[iv p1, iv p2, rv b49, iv (2 : Int32), rv a_AT_MOST, iv v95, iv (1 : Int32), iv (1 : Int32), rv a_AT_MOST_symbol, iv (60 : Int32), iv (1 : Int32), iv (1 : Int32)] [(.int (1 : Int32))]))
    refine own_st (fun _ k => XS.iload X100.here hx rfl (hb hby at_159) rfl  k) ?_
    show own_Fin p e below G (T100.setTop (mkF m 161 #[iv p1, iv p2, rv b49, iv (2 : Int32), rv a_AT_MOST, iv v95, iv (1 : Int32), iv (1 : Int32), rv a_AT_MOST_symbol, iv (60 : Int32), iv (1 : Int32), iv (1 : Int32)] [(.int (1 : Int32)), (.int (1 : Int32))]))
    refine own_st (fun _ k => XS.icmpNo X100.here hx rfl (hb hby at_161) rfl (teq (by decide : ((1 : Int32) = (1 : Int32)))).2 k) ?_
    show own_Fin p e below G (T100.setTop (mkF m 164 #[iv p1, iv p2, rv b49, iv (2 : Int32), rv a_AT_MOST, iv v95, iv (1 : Int32), iv (1 : Int32), rv a_AT_MOST_symbol, iv (60 : Int32), iv (1 : Int32), iv (1 : Int32)] []))
    refine own_st (fun _ k => XS.iconst X100.here hx rfl (hb hby at_164) k) ?_
    show own_Fin p e below G (T100.setTop (mkF m 165 #[iv p1, iv p2, rv b49, iv (2 : Int32), rv a_AT_MOST, iv v95, iv (1 : Int32), iv (1 : Int32), rv a_AT_MOST_symbol, iv (60 : Int32), iv (1 : Int32), iv (1 : Int32)] [(.int (1 : Int32))]))
    refine own_st (fun _ k => XS.goto X100.here hx rfl (pc0 := 165) (pc' := 169) rfl (hb hby at_165) (by decide) (by decide) k) ?_
    show own_Fin p e below G (T100.setTop (mkF m 169 #[iv p1, iv p2, rv b49, iv (2 : Int32), rv a_AT_MOST, iv v95, iv (1 : Int32), iv (1 : Int32), rv a_AT_MOST_symbol, iv (60 : Int32), iv (1 : Int32), iv (1 : Int32)] [(.int (1 : Int32))]))
    refine own_out X100 Bd.notSynchronized (v := (some (.int (1 : Int32)))) (fun h => by rw [Bd.returns] at h; cases h) hG (fun fs hr => retN X100 hx (t := .boolean) Bd.returns (by simp) (hb hby at_169) hr) (by decide) (by decide) ?_
    exact ⟨rfl, N100⟩
  · show own_Fin p e below G (T78.setTop (mkF m 50 #[iv p1, iv p2, rv b49, iv (3 : Int32), .unset, .unset, .unset, .unset, .unset, .unset, .unset, .unset] []))
    refine own_st (fun _ k => XS.aloadN X78.here hx rfl (hb hby at_50) rfl rfl k) ?_
    show own_Fin p e below G (T78.setTop (mkF m 51 #[iv p1, iv p2, rv b49, iv (3 : Int32), .unset, .unset, .unset, .unset, .unset, .unset, .unset, .unset] [(.ref b49)]))
    refine own_st (fun _ k => XS.iloadN X78.here hx rfl (hb hby at_51) rfl  k) ?_
    show own_Fin p e below G (T78.setTop (mkF m 52 #[iv p1, iv p2, rv b49, iv (3 : Int32), .unset, .unset, .unset, .unset, .unset, .unset, .unset, .unset] [(.int (3 : Int32)), (.ref b49)]))
    refine own_st (fun _ k => own_ldR X78 hx hZ e78 V78 (j := (3 : Int32)) (n := 6) rfl (by decide) rfl (v := (.ref a_AT_LEAST)) rfl (g := (mkF m 52 #[iv p1, iv p2, rv b49, iv (3 : Int32), .unset, .unset, .unset, .unset, .unset, .unset, .unset, .unset] [(.int (3 : Int32)), (.ref b49)])) rfl rfl (hb hby at_52) k) ?_
    show own_Fin p e below G (T78.setTop (mkF m 53 #[iv p1, iv p2, rv b49, iv (3 : Int32), .unset, .unset, .unset, .unset, .unset, .unset, .unset, .unset] [(.ref a_AT_LEAST)]))
    refine own_st (fun _ k => XS.astore X78.here hx rfl (hb hby at_53) rfl rfl (l' := #[iv p1, iv p2, rv b49, iv (3 : Int32), rv a_AT_LEAST, .unset, .unset, .unset, .unset, .unset, .unset, .unset]) rfl k) ?_
    show own_Fin p e below G (T78.setTop (mkF m 55 #[iv p1, iv p2, rv b49, iv (3 : Int32), rv a_AT_LEAST, .unset, .unset, .unset, .unset, .unset, .unset, .unset] []))
    refine own_st (fun _ k => XS.iloadN X78.here hx rfl (hb hby at_55) rfl  k) ?_
    show own_Fin p e below G (T78.setTop (mkF m 56 #[iv p1, iv p2, rv b49, iv (3 : Int32), rv a_AT_LEAST, .unset, .unset, .unset, .unset, .unset, .unset, .unset] [(.int p2)]))
    refine own_st (fun _ k => own_ldc X78 hx hZ hown (own_w hw 17 rfl) (g := (mkF m 56 #[iv p1, iv p2, rv b49, iv (3 : Int32), rv a_AT_LEAST, .unset, .unset, .unset, .unset, .unset, .unset, .unset] [(.int p2)])) rfl (hb hby at_56) k) ?_
    show own_Fin p e below G (T78.setTop (mkF m 58 #[iv p1, iv p2, rv b49, iv (3 : Int32), rv a_AT_LEAST, .unset, .unset, .unset, .unset, .unset, .unset, .unset] [(.int (1073741823 : Int32)), (.int p2)]))
    refine own_st (fun _ k => XS.iand X78.here hx rfl (hb hby at_58) rfl k) ?_
    show own_Fin p e below G (T78.setTop (mkF m 59 #[iv p1, iv p2, rv b49, iv (3 : Int32), rv a_AT_LEAST, .unset, .unset, .unset, .unset, .unset, .unset, .unset] [(.int (p2 &&& (1073741823 : Int32)))]))
    refine own_st (fun _ k => XS.iconst X78.here hx rfl (hb hby at_59) k) ?_
    show own_Fin p e below G (T78.setTop (mkF m 60 #[iv p1, iv p2, rv b49, iv (3 : Int32), rv a_AT_LEAST, .unset, .unset, .unset, .unset, .unset, .unset, .unset] [(.int (1 : Int32)), (.int (p2 &&& (1073741823 : Int32)))]))
    refine own_st (fun _ k => XS.iadd X78.here hx rfl (hb hby at_60) rfl k) ?_
    show own_Fin p e below G (T78.setTop (mkF m 61 #[iv p1, iv p2, rv b49, iv (3 : Int32), rv a_AT_LEAST, .unset, .unset, .unset, .unset, .unset, .unset, .unset] [(.int ((p2 &&& (1073741823 : Int32)) + (1 : Int32)))]))
    generalize e_v101 : ((p2 &&& (1073741823 : Int32)) + (1 : Int32)) = v101
    show own_Fin p e below G (T78.setTop (mkF m 61 #[iv p1, iv p2, rv b49, iv (3 : Int32), rv a_AT_LEAST, .unset, .unset, .unset, .unset, .unset, .unset, .unset] [(.int v101)]))
    have rp := own_pos p2
    rw [e_v101] at rp
    have t0 : (0 : Int32).toInt = 0 := rfl
    have z1p : ¬ v101 = (0 : Int32) := by rw [← Int32.toInt_inj]; omega
    have z2p : ¬ v101 < (0 : Int32) := by rw [Int32.lt_iff_toInt_lt]; omega
    have z3p : (0 : Int32) < v101 := by rw [Int32.lt_iff_toInt_lt]; omega
    have z1n : ¬ (-v101) = (0 : Int32) := by rw [← Int32.toInt_inj]; omega
    have z2n : (-v101) < (0 : Int32) := by rw [Int32.lt_iff_toInt_lt]; omega
    have z3n : ¬ (0 : Int32) < (-v101) := by rw [Int32.lt_iff_toInt_lt]; omega
    refine own_st (fun _ k => XS.istore X78.here hx rfl (hb hby at_61) rfl (l' := #[iv p1, iv p2, rv b49, iv (3 : Int32), rv a_AT_LEAST, iv v101, .unset, .unset, .unset, .unset, .unset, .unset]) rfl k) ?_
    show own_Fin p e below G (T78.setTop (mkF m 63 #[iv p1, iv p2, rv b49, iv (3 : Int32), rv a_AT_LEAST, iv v101, .unset, .unset, .unset, .unset, .unset, .unset] []))
    refine own_st (fun _ k => XS.aload X78.here hx rfl (hb hby at_63) rfl rfl k) ?_
    show own_Fin p e below G (T78.setTop (mkF m 65 #[iv p1, iv p2, rv b49, iv (3 : Int32), rv a_AT_LEAST, iv v101, .unset, .unset, .unset, .unset, .unset, .unset] [(.ref a_AT_LEAST)]))
    obtain ⟨cq102, kq102, q102a, q102b, q102c⟩ := isOf hZ e78 f79_6
    obtain ⟨_, _, ⟨T102, L102, k102, n102⟩, -, X102, ⟨Lc102, hQ102, l102, y102, z102⟩, st102⟩ := X78.virtualBack hx (y := own_y0) (z := own_y0) hown (mvT hZ (own_w hw 18 rfl)) (mvT hZ (own_w hw 19 rfl)) (notFace_of_selects (args := #[]) (mvT hZ (own_w hw 21 rfl))) (mvT hZ (own_w hw 21 rfl)) (mvT hZ (own_w hw 20 rfl)) (by decide) (backOf (W := 0) (rm_ors l Z a0 hw [] a_AT_LEAST a_EQUAL a_UNEQUAL h78 n0 (Nat.le_trans Z0 K80.1) f79_1 f79_3) hZ (own_w hw 22 rfl) (own_w hw 3 rfl) (by decide) (by decide)) q102a q102c (g := (mkF m 65 #[iv p1, iv p2, rv b49, iv (3 : Int32), rv a_AT_LEAST, iv v101, .unset, .unset, .unset, .unset, .unset, .unset] [(.ref a_AT_LEAST)])) rfl (by rw [hml]; rfl) (Steps.refl _) (argsL := []) (rest := []) (lenOf pd___Z_171 rfl) rfl (by show 2 * 0 + _ ≤ _; exact Nat.le_of_eq rfl) (hb hby at_65) (fun _ _ => ⟨rfl, e78, (by decide : 1 + 0 ≤ _), (by decide : 6 + 0 ≤ _)⟩)
    dsimp only [Pt.U, Pt.locs, Pt.cells, Pt.slots] at X102 l102 y102 z102 st102 hQ102
    subst l102 y102 z102
    obtain ⟨hv102, N102q, e102⟩ := hQ102
    rw [(by unfold own_ord; rw [if_neg ne_a_AT_LEAST_a_EQUAL, if_neg ne_a_AT_LEAST_a_UNEQUAL] : own_ord a_AT_LEAST a_EQUAL a_UNEQUAL = 1)] at hv102
    subst hv102
    skip
    have N102 := Fr.app N81 N102q
    refine own_tr st102 ?_
    show own_Fin p e below G (T102.setTop (mkF m 68 #[iv p1, iv p2, rv b49, iv (3 : Int32), rv a_AT_LEAST, iv v101, .unset, .unset, .unset, .unset, .unset, .unset] [(.int (1 : Int32))]))
    refine own_st (fun _ k => XS.istore X102.here hx rfl (hb hby at_68) rfl (l' := #[iv p1, iv p2, rv b49, iv (3 : Int32), rv a_AT_LEAST, iv v101, iv (1 : Int32), .unset, .unset, .unset, .unset, .unset]) rfl k) ?_
    show own_Fin p e below G (T102.setTop (mkF m 70 #[iv p1, iv p2, rv b49, iv (3 : Int32), rv a_AT_LEAST, iv v101, iv (1 : Int32), .unset, .unset, .unset, .unset, .unset] []))
    refine own_st (fun _ k => XS.aload X102.here hx rfl (hb hby at_70) rfl rfl k) ?_
    show own_Fin p e below G (T102.setTop (mkF m 72 #[iv p1, iv p2, rv b49, iv (3 : Int32), rv a_AT_LEAST, iv v101, iv (1 : Int32), .unset, .unset, .unset, .unset, .unset] [(.ref a_AT_LEAST)]))
    refine own_st (fun _ k => XS.iload X102.here hx rfl (hb hby at_72) rfl  k) ?_
    show own_Fin p e below G (T102.setTop (mkF m 74 #[iv p1, iv p2, rv b49, iv (3 : Int32), rv a_AT_LEAST, iv v101, iv (1 : Int32), .unset, .unset, .unset, .unset, .unset] [(.int v101), (.ref a_AT_LEAST)]))
    refine own_st (fun _ k => XS.ineg X102.here hx rfl (hb hby at_74) rfl k) ?_
    show own_Fin p e below G (T102.setTop (mkF m 75 #[iv p1, iv p2, rv b49, iv (3 : Int32), rv a_AT_LEAST, iv v101, iv (1 : Int32), .unset, .unset, .unset, .unset, .unset] [(.int (-v101)), (.ref a_AT_LEAST)]))
    obtain ⟨cq103, kq103, q103a, q103b, q103c⟩ := isOf hZ e102 f79_6
    obtain ⟨_, _, ⟨T103, L103, k103, n103⟩, -, X103, ⟨Lc103, hQ103, l103, y103, z103⟩, st103⟩ := X102.virtualBack hx (y := own_y3) (z := own_y3) hown (mvT hZ (own_w hw 24 rfl)) (mvT hZ (own_w hw 25 rfl)) (notFace_of_selects (args := #[]) (mvT hZ (own_w hw 27 rfl))) (mvT hZ (own_w hw 27 rfl)) (mvT hZ (own_w hw 26 rfl)) (by decide) (backOf (W := 0) (rm_h3n l Z a0 hw [] a_AT_LEAST (-v101) h78 n0 (Nat.le_trans Z0 K80.1) f79_6 f79_40 z1n z2n z3n) hZ (own_w hw 28 rfl) (own_w hw 3 rfl) (by decide) (by decide)) q103a q103c (g := (mkF m 75 #[iv p1, iv p2, rv b49, iv (3 : Int32), rv a_AT_LEAST, iv v101, iv (1 : Int32), .unset, .unset, .unset, .unset, .unset] [(.int (-v101)), (.ref a_AT_LEAST)])) rfl (by rw [hml]; rfl) (Steps.refl _) (argsL := [(.int (-v101))]) (rest := []) (lenOf pd__I_Z_244 rfl) rfl (by show 2 * 0 + _ ≤ _; exact Nat.le_of_eq rfl) (hb hby at_75) (fun _ _ => ⟨rfl, e102, (by decide : 1 + 0 ≤ _), (by decide : 6 + 0 ≤ _)⟩)
    dsimp only [Pt.U, Pt.locs, Pt.cells, Pt.slots] at X103 l103 y103 z103 st103 hQ103
    subst l103 y103 z103
    obtain ⟨rfl, N103q, e103⟩ := hQ103
    skip
    have N103 := Fr.app N102 N103q
    refine own_tr st103 ?_
    show own_Fin p e below G (T103.setTop (mkF m 78 #[iv p1, iv p2, rv b49, iv (3 : Int32), rv a_AT_LEAST, iv v101, iv (1 : Int32), .unset, .unset, .unset, .unset, .unset] [(.int (0 : Int32))]))
    refine own_st (fun _ k => XS.aload X103.here hx rfl (hb hby at_78) rfl rfl k) ?_
    show own_Fin p e below G (T103.setTop (mkF m 80 #[iv p1, iv p2, rv b49, iv (3 : Int32), rv a_AT_LEAST, iv v101, iv (1 : Int32), .unset, .unset, .unset, .unset, .unset] [(.ref a_AT_LEAST), (.int (0 : Int32))]))
    refine own_st (fun _ k => XS.iload X103.here hx rfl (hb hby at_80) rfl  k) ?_
    show own_Fin p e below G (T103.setTop (mkF m 82 #[iv p1, iv p2, rv b49, iv (3 : Int32), rv a_AT_LEAST, iv v101, iv (1 : Int32), .unset, .unset, .unset, .unset, .unset] [(.int v101), (.ref a_AT_LEAST), (.int (0 : Int32))]))
    obtain ⟨cq104, kq104, q104a, q104b, q104c⟩ := isOf hZ e103 f79_6
    obtain ⟨_, _, ⟨T104, L104, k104, n104⟩, -, X104, ⟨Lc104, hQ104, l104, y104, z104⟩, st104⟩ := X103.virtualBack hx (y := own_y3) (z := own_y3) hown (mvT hZ (own_w hw 24 rfl)) (mvT hZ (own_w hw 25 rfl)) (notFace_of_selects (args := #[]) (mvT hZ (own_w hw 27 rfl))) (mvT hZ (own_w hw 27 rfl)) (mvT hZ (own_w hw 26 rfl)) (by decide) (backOf (W := 1) (rm_h3p l Z a0 hw [] a_AT_LEAST v101 h78 n0 (Nat.le_trans Z0 K80.1) f79_6 f79_40 z1p z2p z3p) hZ (own_w hw 28 rfl) (own_w hw 3 rfl) (by decide) (by decide)) q104a q104c (g := (mkF m 82 #[iv p1, iv p2, rv b49, iv (3 : Int32), rv a_AT_LEAST, iv v101, iv (1 : Int32), .unset, .unset, .unset, .unset, .unset] [(.int v101), (.ref a_AT_LEAST), (.int (0 : Int32))])) rfl (by rw [hml]; rfl) (Steps.refl _) (argsL := [(.int v101)]) (rest := [(.int (0 : Int32))]) (lenOf pd__I_Z_244 rfl) rfl (by show 2 * 0 + _ ≤ _; exact Nat.le_of_eq rfl) (hb hby at_82) (fun _ _ => ⟨rfl, e103, (by decide : 1 + 0 ≤ _), (by decide : 6 + 0 ≤ _)⟩)
    dsimp only [Pt.U, Pt.locs, Pt.cells, Pt.slots] at X104 l104 y104 z104 st104 hQ104
    subst l104 y104 z104
    obtain ⟨rfl, N104q, e104⟩ := hQ104
    skip
    have N104 := Fr.app N103 N104q
    refine own_tr st104 ?_
    show own_Fin p e below G (T104.setTop (mkF m 85 #[iv p1, iv p2, rv b49, iv (3 : Int32), rv a_AT_LEAST, iv v101, iv (1 : Int32), .unset, .unset, .unset, .unset, .unset] [(.int (1 : Int32)), (.int (0 : Int32))]))
    refine own_st (fun _ k => XS.icmpNo X104.here hx rfl (hb hby at_85) rfl (feq (by decide : ¬ ((0 : Int32) = (1 : Int32)))).1 k) ?_
    show own_Fin p e below G (T104.setTop (mkF m 88 #[iv p1, iv p2, rv b49, iv (3 : Int32), rv a_AT_LEAST, iv v101, iv (1 : Int32), .unset, .unset, .unset, .unset, .unset] []))
    refine own_st (fun _ k => XS.iconst X104.here hx rfl (hb hby at_88) k) ?_
    show own_Fin p e below G (T104.setTop (mkF m 89 #[iv p1, iv p2, rv b49, iv (3 : Int32), rv a_AT_LEAST, iv v101, iv (1 : Int32), .unset, .unset, .unset, .unset, .unset] [(.int (1 : Int32))]))
    refine own_st (fun _ k => XS.goto X104.here hx rfl (pc0 := 89) (pc' := 93) rfl (hb hby at_89) (by decide) (by decide) k) ?_
    show own_Fin p e below G (T104.setTop (mkF m 93 #[iv p1, iv p2, rv b49, iv (3 : Int32), rv a_AT_LEAST, iv v101, iv (1 : Int32), .unset, .unset, .unset, .unset, .unset] [(.int (1 : Int32))]))
    refine own_st (fun _ k => XS.istore X104.here hx rfl (hb hby at_93) rfl (l' := #[iv p1, iv p2, rv b49, iv (3 : Int32), rv a_AT_LEAST, iv v101, iv (1 : Int32), iv (1 : Int32), .unset, .unset, .unset, .unset]) rfl k) ?_
    show own_Fin p e below G (T104.setTop (mkF m 95 #[iv p1, iv p2, rv b49, iv (3 : Int32), rv a_AT_LEAST, iv v101, iv (1 : Int32), iv (1 : Int32), .unset, .unset, .unset, .unset] []))
    refine own_st (fun _ k => XS.aload X104.here hx rfl (hb hby at_95) rfl rfl k) ?_
    show own_Fin p e below G (T104.setTop (mkF m 97 #[iv p1, iv p2, rv b49, iv (3 : Int32), rv a_AT_LEAST, iv v101, iv (1 : Int32), iv (1 : Int32), .unset, .unset, .unset, .unset] [(.ref a_AT_LEAST)]))
    obtain ⟨cq105, kq105, q105a, q105b, q105c⟩ := isOf hZ e104 f79_6
    obtain ⟨_, _, ⟨T105, L105, k105, n105⟩, -, X105, ⟨Lc105, hQ105, l105, y105, z105⟩, st105⟩ := X104.virtualBack hx (y := own_y4) (z := own_y4) hown (mvT hZ (own_w hw 38 rfl)) (mvT hZ (own_w hw 39 rfl)) (notFace_of_selects (args := #[]) (mvT hZ (own_w hw 41 rfl))) (mvT hZ (own_w hw 41 rfl)) (mvT hZ (own_w hw 40 rfl)) (by decide) (backOf (W := 0) (rm_sym l Z a0 hw [] a_AT_LEAST a_AT_LEAST_symbol h78 n0 (Nat.le_trans Z0 K80.1) f79_23) hZ (own_w hw 42 rfl) (own_w hw 3 rfl) (by decide) (by decide)) q105a q105c (g := (mkF m 97 #[iv p1, iv p2, rv b49, iv (3 : Int32), rv a_AT_LEAST, iv v101, iv (1 : Int32), iv (1 : Int32), .unset, .unset, .unset, .unset] [(.ref a_AT_LEAST)])) rfl (by rw [hml]; rfl) (Steps.refl _) (argsL := []) (rest := []) (lenOf pd___Ljava_lang_String__780 rfl) rfl (by show 2 * 0 + _ ≤ _; exact Nat.le_of_eq rfl) (hb hby at_97) (fun _ _ => ⟨rfl, e104, (by decide : 1 + 0 ≤ _), (by decide : 6 + 0 ≤ _)⟩)
    dsimp only [Pt.U, Pt.locs, Pt.cells, Pt.slots] at X105 l105 y105 z105 st105 hQ105
    subst l105 y105 z105
    obtain ⟨rfl, N105q, e105⟩ := hQ105
    skip
    have N105 := Fr.app N104 N105q
    refine own_tr st105 ?_
    show own_Fin p e below G (T105.setTop (mkF m 100 #[iv p1, iv p2, rv b49, iv (3 : Int32), rv a_AT_LEAST, iv v101, iv (1 : Int32), iv (1 : Int32), .unset, .unset, .unset, .unset] [(.ref a_AT_LEAST_symbol)]))
    refine own_st (fun _ k => XS.astore X105.here hx rfl (hb hby at_100) rfl rfl (l' := #[iv p1, iv p2, rv b49, iv (3 : Int32), rv a_AT_LEAST, iv v101, iv (1 : Int32), iv (1 : Int32), rv a_AT_LEAST_symbol, .unset, .unset, .unset]) rfl k) ?_
    show own_Fin p e below G (T105.setTop (mkF m 102 #[iv p1, iv p2, rv b49, iv (3 : Int32), rv a_AT_LEAST, iv v101, iv (1 : Int32), iv (1 : Int32), rv a_AT_LEAST_symbol, .unset, .unset, .unset] []))
    refine own_st (fun _ k => XS.aload X105.here hx rfl (hb hby at_102) rfl rfl k) ?_
    show own_Fin p e below G (T105.setTop (mkF m 104 #[iv p1, iv p2, rv b49, iv (3 : Int32), rv a_AT_LEAST, iv v101, iv (1 : Int32), iv (1 : Int32), rv a_AT_LEAST_symbol, .unset, .unset, .unset] [(.ref a_AT_LEAST_symbol)]))
    refine own_st (fun _ k => XS.iconst X105.here hx rfl (hb hby at_104) k) ?_
    show own_Fin p e below G (T105.setTop (mkF m 105 #[iv p1, iv p2, rv b49, iv (3 : Int32), rv a_AT_LEAST, iv v101, iv (1 : Int32), iv (1 : Int32), rv a_AT_LEAST_symbol, .unset, .unset, .unset] [(.int (0 : Int32)), (.ref a_AT_LEAST_symbol)]))
    obtain ⟨cq106, kq106, q106a, q106b, q106c⟩ := isOf hZ e105 f79_22
    obtain ⟨_, _, ⟨T106, L106, k106, n106⟩, -, X106, ⟨Lc106, hQ106, l106, y106, z106⟩, st106⟩ := X105.virtualBack hx (y := own_y9) (z := own_y9) hown (mvT hZ (own_w hw 45 rfl)) (mvT hZ (own_w hw 46 rfl)) (notFace_of_selects (args := #[]) (mvT hZ (own_w hw 48 rfl))) (mvT hZ (own_w hw 48 rfl)) (mvT hZ (own_w hw 47 rfl)) (by decide) (backOf (W := 0) (rm_ca62_61 l Z a0 hw [] a_AT_LEAST_symbol a_AT_LEAST_symbol_value cs fm h78 n0 (Nat.le_trans Z0 K80.1) f79_22 f79_41 f79_29 f79_45 f79_48 hcs hfm f79_49) hZ (own_w hw 50 rfl) (own_w hw 49 rfl) (by decide) (by decide)) q106a q106c (g := (mkF m 105 #[iv p1, iv p2, rv b49, iv (3 : Int32), rv a_AT_LEAST, iv v101, iv (1 : Int32), iv (1 : Int32), rv a_AT_LEAST_symbol, .unset, .unset, .unset] [(.int (0 : Int32)), (.ref a_AT_LEAST_symbol)])) rfl (by rw [hml]; rfl) (Steps.refl _) (argsL := [(.int (0 : Int32))]) (rest := []) (lenOf pd__I_C_221 rfl) rfl (by show 2 * 0 + _ ≤ _; exact Nat.le_of_eq rfl) (hb hby at_105) (fun _ _ => ⟨rfl, e105, (by decide : 1 + 0 ≤ _), (by decide : 6 + 0 ≤ _)⟩)
    dsimp only [Pt.U, Pt.locs, Pt.cells, Pt.slots] at X106 l106 y106 z106 st106 hQ106
    subst l106 y106 z106
    obtain ⟨rfl, N106q, e106⟩ := hQ106
    skip
    have N106 := Fr.app N105 N106q
    refine own_tr st106 ?_
    show own_Fin p e below G (T106.setTop (mkF m 108 #[iv p1, iv p2, rv b49, iv (3 : Int32), rv a_AT_LEAST, iv v101, iv (1 : Int32), iv (1 : Int32), rv a_AT_LEAST_symbol, .unset, .unset, .unset] [(.int (62 : Int32))]))
    refine own_st (fun _ k => XS.istore X106.here hx rfl (hb hby at_108) rfl (l' := #[iv p1, iv p2, rv b49, iv (3 : Int32), rv a_AT_LEAST, iv v101, iv (1 : Int32), iv (1 : Int32), rv a_AT_LEAST_symbol, iv (62 : Int32), .unset, .unset]) rfl k) ?_
    show own_Fin p e below G (T106.setTop (mkF m 110 #[iv p1, iv p2, rv b49, iv (3 : Int32), rv a_AT_LEAST, iv v101, iv (1 : Int32), iv (1 : Int32), rv a_AT_LEAST_symbol, iv (62 : Int32), .unset, .unset] []))
    refine own_st (fun _ k => XS.iload X106.here hx rfl (hb hby at_110) rfl  k) ?_
    show own_Fin p e below G (T106.setTop (mkF m 112 #[iv p1, iv p2, rv b49, iv (3 : Int32), rv a_AT_LEAST, iv v101, iv (1 : Int32), iv (1 : Int32), rv a_AT_LEAST_symbol, iv (62 : Int32), .unset, .unset] [(.int (62 : Int32))]))
    refine own_st (fun _ k => XS.bipush X106.here hx rfl (hb hby at_112) k) ?_
    show own_Fin p e below G (T106.setTop (mkF m 114 #[iv p1, iv p2, rv b49, iv (3 : Int32), rv a_AT_LEAST, iv v101, iv (1 : Int32), iv (1 : Int32), rv a_AT_LEAST_symbol, iv (62 : Int32), .unset, .unset] [(.int (60 : Int32)), (.int (62 : Int32))]))
    refine own_st (fun _ k => XS.icmpNo X106.here hx rfl (hb hby at_114) rfl (feq (by decide : ¬ ((62 : Int32) = (60 : Int32)))).1 k) ?_
    show own_Fin p e below G (T106.setTop (mkF m 117 #[iv p1, iv p2, rv b49, iv (3 : Int32), rv a_AT_LEAST, iv v101, iv (1 : Int32), iv (1 : Int32), rv a_AT_LEAST_symbol, iv (62 : Int32), .unset, .unset] []))
    refine own_st (fun _ k => XS.iload X106.here hx rfl (hb hby at_117) rfl  k) ?_
    show own_Fin p e below G (T106.setTop (mkF m 119 #[iv p1, iv p2, rv b49, iv (3 : Int32), rv a_AT_LEAST, iv v101, iv (1 : Int32), iv (1 : Int32), rv a_AT_LEAST_symbol, iv (62 : Int32), .unset, .unset] [(.int (62 : Int32))]))
    refine own_st (fun _ k => XS.bipush X106.here hx rfl (hb hby at_119) k) ?_
    show own_Fin p e below G (T106.setTop (mkF m 121 #[iv p1, iv p2, rv b49, iv (3 : Int32), rv a_AT_LEAST, iv v101, iv (1 : Int32), iv (1 : Int32), rv a_AT_LEAST_symbol, iv (62 : Int32), .unset, .unset] [(.int (62 : Int32)), (.int (62 : Int32))]))
    refine own_st (fun _ k => XS.icmpNo X106.here hx rfl (hb hby at_121) rfl (teq (by decide : ((62 : Int32) = (62 : Int32)))).2 k) ?_
    show own_Fin p e below G (T106.setTop (mkF m 124 #[iv p1, iv p2, rv b49, iv (3 : Int32), rv a_AT_LEAST, iv v101, iv (1 : Int32), iv (1 : Int32), rv a_AT_LEAST_symbol, iv (62 : Int32), .unset, .unset] []))
    refine own_st (fun _ k => XS.iconst X106.here hx rfl (hb hby at_124) k) ?_
    show own_Fin p e below G (T106.setTop (mkF m 125 #[iv p1, iv p2, rv b49, iv (3 : Int32), rv a_AT_LEAST, iv v101, iv (1 : Int32), iv (1 : Int32), rv a_AT_LEAST_symbol, iv (62 : Int32), .unset, .unset] [(.int (1 : Int32))]))
    refine own_st (fun _ k => XS.goto X106.here hx rfl (pc0 := 125) (pc' := 129) rfl (hb hby at_125) (by decide) (by decide) k) ?_
    show own_Fin p e below G (T106.setTop (mkF m 129 #[iv p1, iv p2, rv b49, iv (3 : Int32), rv a_AT_LEAST, iv v101, iv (1 : Int32), iv (1 : Int32), rv a_AT_LEAST_symbol, iv (62 : Int32), .unset, .unset] [(.int (1 : Int32))]))
    refine own_st (fun _ k => XS.istore X106.here hx rfl (hb hby at_129) rfl (l' := #[iv p1, iv p2, rv b49, iv (3 : Int32), rv a_AT_LEAST, iv v101, iv (1 : Int32), iv (1 : Int32), rv a_AT_LEAST_symbol, iv (62 : Int32), iv (1 : Int32), .unset]) rfl k) ?_
    show own_Fin p e below G (T106.setTop (mkF m 131 #[iv p1, iv p2, rv b49, iv (3 : Int32), rv a_AT_LEAST, iv v101, iv (1 : Int32), iv (1 : Int32), rv a_AT_LEAST_symbol, iv (62 : Int32), iv (1 : Int32), .unset] []))
    refine own_st (fun _ k => XS.iloadN X106.here hx rfl (hb hby at_131) rfl  k) ?_
    show own_Fin p e below G (T106.setTop (mkF m 132 #[iv p1, iv p2, rv b49, iv (3 : Int32), rv a_AT_LEAST, iv v101, iv (1 : Int32), iv (1 : Int32), rv a_AT_LEAST_symbol, iv (62 : Int32), iv (1 : Int32), .unset] [(.int (3 : Int32))]))
    refine own_st (fun _ k => XS.iconst X106.here hx rfl (hb hby at_132) k) ?_
    show own_Fin p e below G (T106.setTop (mkF m 133 #[iv p1, iv p2, rv b49, iv (3 : Int32), rv a_AT_LEAST, iv v101, iv (1 : Int32), iv (1 : Int32), rv a_AT_LEAST_symbol, iv (62 : Int32), iv (1 : Int32), .unset] [(.int (2 : Int32)), (.int (3 : Int32))]))
    refine own_st (fun _ k => XS.icmpNo X106.here hx rfl (hb hby at_133) rfl (flt (by decide : ¬ ((3 : Int32) < (2 : Int32)))).1 k) ?_
    show own_Fin p e below G (T106.setTop (mkF m 136 #[iv p1, iv p2, rv b49, iv (3 : Int32), rv a_AT_LEAST, iv v101, iv (1 : Int32), iv (1 : Int32), rv a_AT_LEAST_symbol, iv (62 : Int32), iv (1 : Int32), .unset] []))
    refine own_st (fun _ k => XS.iconst X106.here hx rfl (hb hby at_136) k) ?_
    show own_Fin p e below G (T106.setTop (mkF m 137 #[iv p1, iv p2, rv b49, iv (3 : Int32), rv a_AT_LEAST, iv v101, iv (1 : Int32), iv (1 : Int32), rv a_AT_LEAST_symbol, iv (62 : Int32), iv (1 : Int32), .unset] [(.int (1 : Int32))]))
    refine own_st (fun _ k => XS.goto X106.here hx rfl (pc0 := 137) (pc' := 141) rfl (hb hby at_137) (by decide) (by decide) k) ?_
    show own_Fin p e below G (T106.setTop (mkF m 141 #[iv p1, iv p2, rv b49, iv (3 : Int32), rv a_AT_LEAST, iv v101, iv (1 : Int32), iv (1 : Int32), rv a_AT_LEAST_symbol, iv (62 : Int32), iv (1 : Int32), .unset] [(.int (1 : Int32))]))
    refine own_st (fun _ k => XS.istore X106.here hx rfl (hb hby at_141) rfl (l' := #[iv p1, iv p2, rv b49, iv (3 : Int32), rv a_AT_LEAST, iv v101, iv (1 : Int32), iv (1 : Int32), rv a_AT_LEAST_symbol, iv (62 : Int32), iv (1 : Int32), iv (1 : Int32)]) rfl k) ?_
    show own_Fin p e below G (T106.setTop (mkF m 143 #[iv p1, iv p2, rv b49, iv (3 : Int32), rv a_AT_LEAST, iv v101, iv (1 : Int32), iv (1 : Int32), rv a_AT_LEAST_symbol, iv (62 : Int32), iv (1 : Int32), iv (1 : Int32)] []))
    refine own_st (fun _ k => XS.iload X106.here hx rfl (hb hby at_143) rfl  k) ?_
    show own_Fin p e below G (T106.setTop (mkF m 145 #[iv p1, iv p2, rv b49, iv (3 : Int32), rv a_AT_LEAST, iv v101, iv (1 : Int32), iv (1 : Int32), rv a_AT_LEAST_symbol, iv (62 : Int32), iv (1 : Int32), iv (1 : Int32)] [(.int (1 : Int32))]))
    refine own_st (fun _ k => XS.iload X106.here hx rfl (hb hby at_145) rfl  k) ?_
    show own_Fin p e below G (T106.setTop (mkF m 147 #[iv p1, iv p2, rv b49, iv (3 : Int32), rv a_AT_LEAST, iv v101, iv (1 : Int32), iv (1 : Int32), rv a_AT_LEAST_symbol, iv (62 : Int32), iv (1 : Int32), iv (1 : Int32)] [(.int (1 : Int32)), (.int (1 : Int32))]))
    refine own_st (fun _ k => XS.icmpNo X106.here hx rfl (hb hby at_147) rfl (teq (by decide : ((1 : Int32) = (1 : Int32)))).2 k) ?_
    show own_Fin p e below G (T106.setTop (mkF m 150 #[iv p1, iv p2, rv b49, iv (3 : Int32), rv a_AT_LEAST, iv v101, iv (1 : Int32), iv (1 : Int32), rv a_AT_LEAST_symbol, iv (62 : Int32), iv (1 : Int32), iv (1 : Int32)] []))
    refine own_st (fun _ k => XS.iload X106.here hx rfl (hb hby at_150) rfl  k) ?_
    show own_Fin p e below G (T106.setTop (mkF m 152 #[iv p1, iv p2, rv b49, iv (3 : Int32), rv a_AT_LEAST, iv v101, iv (1 : Int32), iv (1 : Int32), rv a_AT_LEAST_symbol, iv (62 : Int32), iv (1 : Int32), iv (1 : Int32)] [(.int (1 : Int32))]))
    refine own_st (fun _ k => XS.iload X106.here hx rfl (hb hby at_152) rfl  k) ?_
    show own_Fin p e below G (T106.setTop (mkF m 154 #[iv p1, iv p2, rv b49, iv (3 : Int32), rv a_AT_LEAST, iv v101, iv (1 : Int32), iv (1 : Int32), rv a_AT_LEAST_symbol, iv (62 : Int32), iv (1 : Int32), iv (1 : Int32)] [(.int (1 : Int32)), (.int (1 : Int32))]))
    refine own_st (fun _ k => XS.icmpNo X106.here hx rfl (hb hby at_154) rfl (teq (by decide : ((1 : Int32) = (1 : Int32)))).2 k) ?_
    show own_Fin p e below G (T106.setTop (mkF m 157 #[iv p1, iv p2, rv b49, iv (3 : Int32), rv a_AT_LEAST, iv v101, iv (1 : Int32), iv (1 : Int32), rv a_AT_LEAST_symbol, iv (62 : Int32), iv (1 : Int32), iv (1 : Int32)] []))
    refine own_st (fun _ k => XS.iload X106.here hx rfl (hb hby at_157) rfl  k) ?_
    show own_Fin p e below G (T106.setTop (mkF m 159 #[iv p1, iv p2, rv b49, iv (3 : Int32), rv a_AT_LEAST, iv v101, iv (1 : Int32), iv (1 : Int32), rv a_AT_LEAST_symbol, iv (62 : Int32), iv (1 : Int32), iv (1 : Int32)] [(.int (1 : Int32))]))
    refine own_st (fun _ k => XS.iload X106.here hx rfl (hb hby at_159) rfl  k) ?_
    show own_Fin p e below G (T106.setTop (mkF m 161 #[iv p1, iv p2, rv b49, iv (3 : Int32), rv a_AT_LEAST, iv v101, iv (1 : Int32), iv (1 : Int32), rv a_AT_LEAST_symbol, iv (62 : Int32), iv (1 : Int32), iv (1 : Int32)] [(.int (1 : Int32)), (.int (1 : Int32))]))
    refine own_st (fun _ k => XS.icmpNo X106.here hx rfl (hb hby at_161) rfl (teq (by decide : ((1 : Int32) = (1 : Int32)))).2 k) ?_
    show own_Fin p e below G (T106.setTop (mkF m 164 #[iv p1, iv p2, rv b49, iv (3 : Int32), rv a_AT_LEAST, iv v101, iv (1 : Int32), iv (1 : Int32), rv a_AT_LEAST_symbol, iv (62 : Int32), iv (1 : Int32), iv (1 : Int32)] []))
    refine own_st (fun _ k => XS.iconst X106.here hx rfl (hb hby at_164) k) ?_
    show own_Fin p e below G (T106.setTop (mkF m 165 #[iv p1, iv p2, rv b49, iv (3 : Int32), rv a_AT_LEAST, iv v101, iv (1 : Int32), iv (1 : Int32), rv a_AT_LEAST_symbol, iv (62 : Int32), iv (1 : Int32), iv (1 : Int32)] [(.int (1 : Int32))]))
    refine own_st (fun _ k => XS.goto X106.here hx rfl (pc0 := 165) (pc' := 169) rfl (hb hby at_165) (by decide) (by decide) k) ?_
    show own_Fin p e below G (T106.setTop (mkF m 169 #[iv p1, iv p2, rv b49, iv (3 : Int32), rv a_AT_LEAST, iv v101, iv (1 : Int32), iv (1 : Int32), rv a_AT_LEAST_symbol, iv (62 : Int32), iv (1 : Int32), iv (1 : Int32)] [(.int (1 : Int32))]))
    refine own_out X106 Bd.notSynchronized (v := (some (.int (1 : Int32)))) (fun h => by rw [Bd.returns] at h; cases h) hG (fun fs hr => retN X106 hx (t := .boolean) Bd.returns (by simp) (hb hby at_169) hr) (by decide) (by decide) ?_
    exact ⟨rfl, N106⟩
  · show own_Fin p e below G (T78.setTop (mkF m 50 #[iv p1, iv p2, rv b49, iv (4 : Int32), .unset, .unset, .unset, .unset, .unset, .unset, .unset, .unset] []))
    refine own_st (fun _ k => XS.aloadN X78.here hx rfl (hb hby at_50) rfl rfl k) ?_
    show own_Fin p e below G (T78.setTop (mkF m 51 #[iv p1, iv p2, rv b49, iv (4 : Int32), .unset, .unset, .unset, .unset, .unset, .unset, .unset, .unset] [(.ref b49)]))
    refine own_st (fun _ k => XS.iloadN X78.here hx rfl (hb hby at_51) rfl  k) ?_
    show own_Fin p e below G (T78.setTop (mkF m 52 #[iv p1, iv p2, rv b49, iv (4 : Int32), .unset, .unset, .unset, .unset, .unset, .unset, .unset, .unset] [(.int (4 : Int32)), (.ref b49)]))
    refine own_st (fun _ k => own_ldR X78 hx hZ e78 V78 (j := (4 : Int32)) (n := 6) rfl (by decide) rfl (v := (.ref a_LESS)) rfl (g := (mkF m 52 #[iv p1, iv p2, rv b49, iv (4 : Int32), .unset, .unset, .unset, .unset, .unset, .unset, .unset, .unset] [(.int (4 : Int32)), (.ref b49)])) rfl rfl (hb hby at_52) k) ?_
    show own_Fin p e below G (T78.setTop (mkF m 53 #[iv p1, iv p2, rv b49, iv (4 : Int32), .unset, .unset, .unset, .unset, .unset, .unset, .unset, .unset] [(.ref a_LESS)]))
    refine own_st (fun _ k => XS.astore X78.here hx rfl (hb hby at_53) rfl rfl (l' := #[iv p1, iv p2, rv b49, iv (4 : Int32), rv a_LESS, .unset, .unset, .unset, .unset, .unset, .unset, .unset]) rfl k) ?_
    show own_Fin p e below G (T78.setTop (mkF m 55 #[iv p1, iv p2, rv b49, iv (4 : Int32), rv a_LESS, .unset, .unset, .unset, .unset, .unset, .unset, .unset] []))
    refine own_st (fun _ k => XS.iloadN X78.here hx rfl (hb hby at_55) rfl  k) ?_
    show own_Fin p e below G (T78.setTop (mkF m 56 #[iv p1, iv p2, rv b49, iv (4 : Int32), rv a_LESS, .unset, .unset, .unset, .unset, .unset, .unset, .unset] [(.int p2)]))
    refine own_st (fun _ k => own_ldc X78 hx hZ hown (own_w hw 17 rfl) (g := (mkF m 56 #[iv p1, iv p2, rv b49, iv (4 : Int32), rv a_LESS, .unset, .unset, .unset, .unset, .unset, .unset, .unset] [(.int p2)])) rfl (hb hby at_56) k) ?_
    show own_Fin p e below G (T78.setTop (mkF m 58 #[iv p1, iv p2, rv b49, iv (4 : Int32), rv a_LESS, .unset, .unset, .unset, .unset, .unset, .unset, .unset] [(.int (1073741823 : Int32)), (.int p2)]))
    refine own_st (fun _ k => XS.iand X78.here hx rfl (hb hby at_58) rfl k) ?_
    show own_Fin p e below G (T78.setTop (mkF m 59 #[iv p1, iv p2, rv b49, iv (4 : Int32), rv a_LESS, .unset, .unset, .unset, .unset, .unset, .unset, .unset] [(.int (p2 &&& (1073741823 : Int32)))]))
    refine own_st (fun _ k => XS.iconst X78.here hx rfl (hb hby at_59) k) ?_
    show own_Fin p e below G (T78.setTop (mkF m 60 #[iv p1, iv p2, rv b49, iv (4 : Int32), rv a_LESS, .unset, .unset, .unset, .unset, .unset, .unset, .unset] [(.int (1 : Int32)), (.int (p2 &&& (1073741823 : Int32)))]))
    refine own_st (fun _ k => XS.iadd X78.here hx rfl (hb hby at_60) rfl k) ?_
    show own_Fin p e below G (T78.setTop (mkF m 61 #[iv p1, iv p2, rv b49, iv (4 : Int32), rv a_LESS, .unset, .unset, .unset, .unset, .unset, .unset, .unset] [(.int ((p2 &&& (1073741823 : Int32)) + (1 : Int32)))]))
    generalize e_v107 : ((p2 &&& (1073741823 : Int32)) + (1 : Int32)) = v107
    show own_Fin p e below G (T78.setTop (mkF m 61 #[iv p1, iv p2, rv b49, iv (4 : Int32), rv a_LESS, .unset, .unset, .unset, .unset, .unset, .unset, .unset] [(.int v107)]))
    have rp := own_pos p2
    rw [e_v107] at rp
    have t0 : (0 : Int32).toInt = 0 := rfl
    have z1p : ¬ v107 = (0 : Int32) := by rw [← Int32.toInt_inj]; omega
    have z2p : ¬ v107 < (0 : Int32) := by rw [Int32.lt_iff_toInt_lt]; omega
    have z3p : (0 : Int32) < v107 := by rw [Int32.lt_iff_toInt_lt]; omega
    have z1n : ¬ (-v107) = (0 : Int32) := by rw [← Int32.toInt_inj]; omega
    have z2n : (-v107) < (0 : Int32) := by rw [Int32.lt_iff_toInt_lt]; omega
    have z3n : ¬ (0 : Int32) < (-v107) := by rw [Int32.lt_iff_toInt_lt]; omega
    refine own_st (fun _ k => XS.istore X78.here hx rfl (hb hby at_61) rfl (l' := #[iv p1, iv p2, rv b49, iv (4 : Int32), rv a_LESS, iv v107, .unset, .unset, .unset, .unset, .unset, .unset]) rfl k) ?_
    show own_Fin p e below G (T78.setTop (mkF m 63 #[iv p1, iv p2, rv b49, iv (4 : Int32), rv a_LESS, iv v107, .unset, .unset, .unset, .unset, .unset, .unset] []))
    refine own_st (fun _ k => XS.aload X78.here hx rfl (hb hby at_63) rfl rfl k) ?_
    show own_Fin p e below G (T78.setTop (mkF m 65 #[iv p1, iv p2, rv b49, iv (4 : Int32), rv a_LESS, iv v107, .unset, .unset, .unset, .unset, .unset, .unset] [(.ref a_LESS)]))
    obtain ⟨cq108, kq108, q108a, q108b, q108c⟩ := isOf hZ e78 f79_8
    obtain ⟨_, _, ⟨T108, L108, k108, n108⟩, -, X108, ⟨Lc108, hQ108, l108, y108, z108⟩, st108⟩ := X78.virtualBack hx (y := own_y0) (z := own_y0) hown (mvT hZ (own_w hw 18 rfl)) (mvT hZ (own_w hw 19 rfl)) (notFace_of_selects (args := #[]) (mvT hZ (own_w hw 21 rfl))) (mvT hZ (own_w hw 21 rfl)) (mvT hZ (own_w hw 20 rfl)) (by decide) (backOf (W := 0) (rm_ors l Z a0 hw [] a_LESS a_EQUAL a_UNEQUAL h78 n0 (Nat.le_trans Z0 K80.1) f79_1 f79_3) hZ (own_w hw 22 rfl) (own_w hw 3 rfl) (by decide) (by decide)) q108a q108c (g := (mkF m 65 #[iv p1, iv p2, rv b49, iv (4 : Int32), rv a_LESS, iv v107, .unset, .unset, .unset, .unset, .unset, .unset] [(.ref a_LESS)])) rfl (by rw [hml]; rfl) (Steps.refl _) (argsL := []) (rest := []) (lenOf pd___Z_171 rfl) rfl (by show 2 * 0 + _ ≤ _; exact Nat.le_of_eq rfl) (hb hby at_65) (fun _ _ => ⟨rfl, e78, (by decide : 1 + 0 ≤ _), (by decide : 6 + 0 ≤ _)⟩)
    dsimp only [Pt.U, Pt.locs, Pt.cells, Pt.slots] at X108 l108 y108 z108 st108 hQ108
    subst l108 y108 z108
    obtain ⟨hv108, N108q, e108⟩ := hQ108
    rw [(by unfold own_ord; rw [if_neg ne_a_LESS_a_EQUAL, if_neg ne_a_LESS_a_UNEQUAL] : own_ord a_LESS a_EQUAL a_UNEQUAL = 1)] at hv108
    subst hv108
    skip
    have N108 := Fr.app N81 N108q
    refine own_tr st108 ?_
    show own_Fin p e below G (T108.setTop (mkF m 68 #[iv p1, iv p2, rv b49, iv (4 : Int32), rv a_LESS, iv v107, .unset, .unset, .unset, .unset, .unset, .unset] [(.int (1 : Int32))]))
    refine own_st (fun _ k => XS.istore X108.here hx rfl (hb hby at_68) rfl (l' := #[iv p1, iv p2, rv b49, iv (4 : Int32), rv a_LESS, iv v107, iv (1 : Int32), .unset, .unset, .unset, .unset, .unset]) rfl k) ?_
    show own_Fin p e below G (T108.setTop (mkF m 70 #[iv p1, iv p2, rv b49, iv (4 : Int32), rv a_LESS, iv v107, iv (1 : Int32), .unset, .unset, .unset, .unset, .unset] []))
    refine own_st (fun _ k => XS.aload X108.here hx rfl (hb hby at_70) rfl rfl k) ?_
    show own_Fin p e below G (T108.setTop (mkF m 72 #[iv p1, iv p2, rv b49, iv (4 : Int32), rv a_LESS, iv v107, iv (1 : Int32), .unset, .unset, .unset, .unset, .unset] [(.ref a_LESS)]))
    refine own_st (fun _ k => XS.iload X108.here hx rfl (hb hby at_72) rfl  k) ?_
    show own_Fin p e below G (T108.setTop (mkF m 74 #[iv p1, iv p2, rv b49, iv (4 : Int32), rv a_LESS, iv v107, iv (1 : Int32), .unset, .unset, .unset, .unset, .unset] [(.int v107), (.ref a_LESS)]))
    refine own_st (fun _ k => XS.ineg X108.here hx rfl (hb hby at_74) rfl k) ?_
    show own_Fin p e below G (T108.setTop (mkF m 75 #[iv p1, iv p2, rv b49, iv (4 : Int32), rv a_LESS, iv v107, iv (1 : Int32), .unset, .unset, .unset, .unset, .unset] [(.int (-v107)), (.ref a_LESS)]))
    obtain ⟨cq109, kq109, q109a, q109b, q109c⟩ := isOf hZ e108 f79_8
    obtain ⟨_, _, ⟨T109, L109, k109, n109⟩, -, X109, ⟨Lc109, hQ109, l109, y109, z109⟩, st109⟩ := X108.virtualBack hx (y := own_y3) (z := own_y3) hown (mvT hZ (own_w hw 24 rfl)) (mvT hZ (own_w hw 25 rfl)) (notFace_of_selects (args := #[]) (mvT hZ (own_w hw 27 rfl))) (mvT hZ (own_w hw 27 rfl)) (mvT hZ (own_w hw 26 rfl)) (by decide) (backOf (W := 0) (rm_h4n l Z a0 hw [] a_LESS (-v107) h78 n0 (Nat.le_trans Z0 K80.1) f79_8 f79_35 z1n z2n z3n) hZ (own_w hw 28 rfl) (own_w hw 3 rfl) (by decide) (by decide)) q109a q109c (g := (mkF m 75 #[iv p1, iv p2, rv b49, iv (4 : Int32), rv a_LESS, iv v107, iv (1 : Int32), .unset, .unset, .unset, .unset, .unset] [(.int (-v107)), (.ref a_LESS)])) rfl (by rw [hml]; rfl) (Steps.refl _) (argsL := [(.int (-v107))]) (rest := []) (lenOf pd__I_Z_244 rfl) rfl (by show 2 * 0 + _ ≤ _; exact Nat.le_of_eq rfl) (hb hby at_75) (fun _ _ => ⟨rfl, e108, (by decide : 1 + 0 ≤ _), (by decide : 6 + 0 ≤ _)⟩)
    dsimp only [Pt.U, Pt.locs, Pt.cells, Pt.slots] at X109 l109 y109 z109 st109 hQ109
    subst l109 y109 z109
    obtain ⟨rfl, N109q, e109⟩ := hQ109
    skip
    have N109 := Fr.app N108 N109q
    refine own_tr st109 ?_
    show own_Fin p e below G (T109.setTop (mkF m 78 #[iv p1, iv p2, rv b49, iv (4 : Int32), rv a_LESS, iv v107, iv (1 : Int32), .unset, .unset, .unset, .unset, .unset] [(.int (1 : Int32))]))
    refine own_st (fun _ k => XS.aload X109.here hx rfl (hb hby at_78) rfl rfl k) ?_
    show own_Fin p e below G (T109.setTop (mkF m 80 #[iv p1, iv p2, rv b49, iv (4 : Int32), rv a_LESS, iv v107, iv (1 : Int32), .unset, .unset, .unset, .unset, .unset] [(.ref a_LESS), (.int (1 : Int32))]))
    refine own_st (fun _ k => XS.iload X109.here hx rfl (hb hby at_80) rfl  k) ?_
    show own_Fin p e below G (T109.setTop (mkF m 82 #[iv p1, iv p2, rv b49, iv (4 : Int32), rv a_LESS, iv v107, iv (1 : Int32), .unset, .unset, .unset, .unset, .unset] [(.int v107), (.ref a_LESS), (.int (1 : Int32))]))
    obtain ⟨cq110, kq110, q110a, q110b, q110c⟩ := isOf hZ e109 f79_8
    obtain ⟨_, _, ⟨T110, L110, k110, n110⟩, -, X110, ⟨Lc110, hQ110, l110, y110, z110⟩, st110⟩ := X109.virtualBack hx (y := own_y3) (z := own_y3) hown (mvT hZ (own_w hw 24 rfl)) (mvT hZ (own_w hw 25 rfl)) (notFace_of_selects (args := #[]) (mvT hZ (own_w hw 27 rfl))) (mvT hZ (own_w hw 27 rfl)) (mvT hZ (own_w hw 26 rfl)) (by decide) (backOf (W := 1) (rm_h4p l Z a0 hw [] a_LESS v107 h78 n0 (Nat.le_trans Z0 K80.1) f79_8 f79_35 z1p z2p z3p) hZ (own_w hw 28 rfl) (own_w hw 3 rfl) (by decide) (by decide)) q110a q110c (g := (mkF m 82 #[iv p1, iv p2, rv b49, iv (4 : Int32), rv a_LESS, iv v107, iv (1 : Int32), .unset, .unset, .unset, .unset, .unset] [(.int v107), (.ref a_LESS), (.int (1 : Int32))])) rfl (by rw [hml]; rfl) (Steps.refl _) (argsL := [(.int v107)]) (rest := [(.int (1 : Int32))]) (lenOf pd__I_Z_244 rfl) rfl (by show 2 * 0 + _ ≤ _; exact Nat.le_of_eq rfl) (hb hby at_82) (fun _ _ => ⟨rfl, e109, (by decide : 1 + 0 ≤ _), (by decide : 6 + 0 ≤ _)⟩)
    dsimp only [Pt.U, Pt.locs, Pt.cells, Pt.slots] at X110 l110 y110 z110 st110 hQ110
    subst l110 y110 z110
    obtain ⟨rfl, N110q, e110⟩ := hQ110
    skip
    have N110 := Fr.app N109 N110q
    refine own_tr st110 ?_
    show own_Fin p e below G (T110.setTop (mkF m 85 #[iv p1, iv p2, rv b49, iv (4 : Int32), rv a_LESS, iv v107, iv (1 : Int32), .unset, .unset, .unset, .unset, .unset] [(.int (0 : Int32)), (.int (1 : Int32))]))
    refine own_st (fun _ k => XS.icmpNo X110.here hx rfl (hb hby at_85) rfl (feq (by decide : ¬ ((1 : Int32) = (0 : Int32)))).1 k) ?_
    show own_Fin p e below G (T110.setTop (mkF m 88 #[iv p1, iv p2, rv b49, iv (4 : Int32), rv a_LESS, iv v107, iv (1 : Int32), .unset, .unset, .unset, .unset, .unset] []))
    refine own_st (fun _ k => XS.iconst X110.here hx rfl (hb hby at_88) k) ?_
    show own_Fin p e below G (T110.setTop (mkF m 89 #[iv p1, iv p2, rv b49, iv (4 : Int32), rv a_LESS, iv v107, iv (1 : Int32), .unset, .unset, .unset, .unset, .unset] [(.int (1 : Int32))]))
    refine own_st (fun _ k => XS.goto X110.here hx rfl (pc0 := 89) (pc' := 93) rfl (hb hby at_89) (by decide) (by decide) k) ?_
    show own_Fin p e below G (T110.setTop (mkF m 93 #[iv p1, iv p2, rv b49, iv (4 : Int32), rv a_LESS, iv v107, iv (1 : Int32), .unset, .unset, .unset, .unset, .unset] [(.int (1 : Int32))]))
    refine own_st (fun _ k => XS.istore X110.here hx rfl (hb hby at_93) rfl (l' := #[iv p1, iv p2, rv b49, iv (4 : Int32), rv a_LESS, iv v107, iv (1 : Int32), iv (1 : Int32), .unset, .unset, .unset, .unset]) rfl k) ?_
    show own_Fin p e below G (T110.setTop (mkF m 95 #[iv p1, iv p2, rv b49, iv (4 : Int32), rv a_LESS, iv v107, iv (1 : Int32), iv (1 : Int32), .unset, .unset, .unset, .unset] []))
    refine own_st (fun _ k => XS.aload X110.here hx rfl (hb hby at_95) rfl rfl k) ?_
    show own_Fin p e below G (T110.setTop (mkF m 97 #[iv p1, iv p2, rv b49, iv (4 : Int32), rv a_LESS, iv v107, iv (1 : Int32), iv (1 : Int32), .unset, .unset, .unset, .unset] [(.ref a_LESS)]))
    obtain ⟨cq111, kq111, q111a, q111b, q111c⟩ := isOf hZ e110 f79_8
    obtain ⟨_, _, ⟨T111, L111, k111, n111⟩, -, X111, ⟨Lc111, hQ111, l111, y111, z111⟩, st111⟩ := X110.virtualBack hx (y := own_y4) (z := own_y4) hown (mvT hZ (own_w hw 38 rfl)) (mvT hZ (own_w hw 39 rfl)) (notFace_of_selects (args := #[]) (mvT hZ (own_w hw 41 rfl))) (mvT hZ (own_w hw 41 rfl)) (mvT hZ (own_w hw 40 rfl)) (by decide) (backOf (W := 0) (rm_sym l Z a0 hw [] a_LESS a_LESS_symbol h78 n0 (Nat.le_trans Z0 K80.1) f79_17) hZ (own_w hw 42 rfl) (own_w hw 3 rfl) (by decide) (by decide)) q111a q111c (g := (mkF m 97 #[iv p1, iv p2, rv b49, iv (4 : Int32), rv a_LESS, iv v107, iv (1 : Int32), iv (1 : Int32), .unset, .unset, .unset, .unset] [(.ref a_LESS)])) rfl (by rw [hml]; rfl) (Steps.refl _) (argsL := []) (rest := []) (lenOf pd___Ljava_lang_String__780 rfl) rfl (by show 2 * 0 + _ ≤ _; exact Nat.le_of_eq rfl) (hb hby at_97) (fun _ _ => ⟨rfl, e110, (by decide : 1 + 0 ≤ _), (by decide : 6 + 0 ≤ _)⟩)
    dsimp only [Pt.U, Pt.locs, Pt.cells, Pt.slots] at X111 l111 y111 z111 st111 hQ111
    subst l111 y111 z111
    obtain ⟨rfl, N111q, e111⟩ := hQ111
    skip
    have N111 := Fr.app N110 N111q
    refine own_tr st111 ?_
    show own_Fin p e below G (T111.setTop (mkF m 100 #[iv p1, iv p2, rv b49, iv (4 : Int32), rv a_LESS, iv v107, iv (1 : Int32), iv (1 : Int32), .unset, .unset, .unset, .unset] [(.ref a_LESS_symbol)]))
    refine own_st (fun _ k => XS.astore X111.here hx rfl (hb hby at_100) rfl rfl (l' := #[iv p1, iv p2, rv b49, iv (4 : Int32), rv a_LESS, iv v107, iv (1 : Int32), iv (1 : Int32), rv a_LESS_symbol, .unset, .unset, .unset]) rfl k) ?_
    show own_Fin p e below G (T111.setTop (mkF m 102 #[iv p1, iv p2, rv b49, iv (4 : Int32), rv a_LESS, iv v107, iv (1 : Int32), iv (1 : Int32), rv a_LESS_symbol, .unset, .unset, .unset] []))
    refine own_st (fun _ k => XS.aload X111.here hx rfl (hb hby at_102) rfl rfl k) ?_
    show own_Fin p e below G (T111.setTop (mkF m 104 #[iv p1, iv p2, rv b49, iv (4 : Int32), rv a_LESS, iv v107, iv (1 : Int32), iv (1 : Int32), rv a_LESS_symbol, .unset, .unset, .unset] [(.ref a_LESS_symbol)]))
    refine own_st (fun _ k => XS.iconst X111.here hx rfl (hb hby at_104) k) ?_
    show own_Fin p e below G (T111.setTop (mkF m 105 #[iv p1, iv p2, rv b49, iv (4 : Int32), rv a_LESS, iv v107, iv (1 : Int32), iv (1 : Int32), rv a_LESS_symbol, .unset, .unset, .unset] [(.int (0 : Int32)), (.ref a_LESS_symbol)]))
    obtain ⟨cq112, kq112, q112a, q112b, q112c⟩ := isOf hZ e111 f79_16
    obtain ⟨_, _, ⟨T112, L112, k112, n112⟩, -, X112, ⟨Lc112, hQ112, l112, y112, z112⟩, st112⟩ := X111.virtualBack hx (y := own_y9) (z := own_y9) hown (mvT hZ (own_w hw 45 rfl)) (mvT hZ (own_w hw 46 rfl)) (notFace_of_selects (args := #[]) (mvT hZ (own_w hw 48 rfl))) (mvT hZ (own_w hw 48 rfl)) (mvT hZ (own_w hw 47 rfl)) (by decide) (backOf (W := 0) (rm_ca60 l Z a0 hw [] a_LESS_symbol a_LESS_symbol_value cs fm h78 n0 (Nat.le_trans Z0 K80.1) f79_16 f79_36 f79_26 f79_46 f79_48 hcs hfm f79_49) hZ (own_w hw 50 rfl) (own_w hw 49 rfl) (by decide) (by decide)) q112a q112c (g := (mkF m 105 #[iv p1, iv p2, rv b49, iv (4 : Int32), rv a_LESS, iv v107, iv (1 : Int32), iv (1 : Int32), rv a_LESS_symbol, .unset, .unset, .unset] [(.int (0 : Int32)), (.ref a_LESS_symbol)])) rfl (by rw [hml]; rfl) (Steps.refl _) (argsL := [(.int (0 : Int32))]) (rest := []) (lenOf pd__I_C_221 rfl) rfl (by show 2 * 0 + _ ≤ _; exact Nat.le_of_eq rfl) (hb hby at_105) (fun _ _ => ⟨rfl, e111, (by decide : 1 + 0 ≤ _), (by decide : 6 + 0 ≤ _)⟩)
    dsimp only [Pt.U, Pt.locs, Pt.cells, Pt.slots] at X112 l112 y112 z112 st112 hQ112
    subst l112 y112 z112
    obtain ⟨rfl, N112q, e112⟩ := hQ112
    skip
    have N112 := Fr.app N111 N112q
    refine own_tr st112 ?_
    show own_Fin p e below G (T112.setTop (mkF m 108 #[iv p1, iv p2, rv b49, iv (4 : Int32), rv a_LESS, iv v107, iv (1 : Int32), iv (1 : Int32), rv a_LESS_symbol, .unset, .unset, .unset] [(.int (60 : Int32))]))
    refine own_st (fun _ k => XS.istore X112.here hx rfl (hb hby at_108) rfl (l' := #[iv p1, iv p2, rv b49, iv (4 : Int32), rv a_LESS, iv v107, iv (1 : Int32), iv (1 : Int32), rv a_LESS_symbol, iv (60 : Int32), .unset, .unset]) rfl k) ?_
    show own_Fin p e below G (T112.setTop (mkF m 110 #[iv p1, iv p2, rv b49, iv (4 : Int32), rv a_LESS, iv v107, iv (1 : Int32), iv (1 : Int32), rv a_LESS_symbol, iv (60 : Int32), .unset, .unset] []))
    refine own_st (fun _ k => XS.iload X112.here hx rfl (hb hby at_110) rfl  k) ?_
    show own_Fin p e below G (T112.setTop (mkF m 112 #[iv p1, iv p2, rv b49, iv (4 : Int32), rv a_LESS, iv v107, iv (1 : Int32), iv (1 : Int32), rv a_LESS_symbol, iv (60 : Int32), .unset, .unset] [(.int (60 : Int32))]))
    refine own_st (fun _ k => XS.bipush X112.here hx rfl (hb hby at_112) k) ?_
    show own_Fin p e below G (T112.setTop (mkF m 114 #[iv p1, iv p2, rv b49, iv (4 : Int32), rv a_LESS, iv v107, iv (1 : Int32), iv (1 : Int32), rv a_LESS_symbol, iv (60 : Int32), .unset, .unset] [(.int (60 : Int32)), (.int (60 : Int32))]))
    refine own_st (fun _ k => XS.icmpYes X112.here hx rfl (pc0 := 114) (pc' := 124) rfl (hb hby at_114) rfl (teq (by decide : ((60 : Int32) = (60 : Int32)))).1 (by decide) (by decide) k) ?_
    show own_Fin p e below G (T112.setTop (mkF m 124 #[iv p1, iv p2, rv b49, iv (4 : Int32), rv a_LESS, iv v107, iv (1 : Int32), iv (1 : Int32), rv a_LESS_symbol, iv (60 : Int32), .unset, .unset] []))
    refine own_st (fun _ k => XS.iconst X112.here hx rfl (hb hby at_124) k) ?_
    show own_Fin p e below G (T112.setTop (mkF m 125 #[iv p1, iv p2, rv b49, iv (4 : Int32), rv a_LESS, iv v107, iv (1 : Int32), iv (1 : Int32), rv a_LESS_symbol, iv (60 : Int32), .unset, .unset] [(.int (1 : Int32))]))
    refine own_st (fun _ k => XS.goto X112.here hx rfl (pc0 := 125) (pc' := 129) rfl (hb hby at_125) (by decide) (by decide) k) ?_
    show own_Fin p e below G (T112.setTop (mkF m 129 #[iv p1, iv p2, rv b49, iv (4 : Int32), rv a_LESS, iv v107, iv (1 : Int32), iv (1 : Int32), rv a_LESS_symbol, iv (60 : Int32), .unset, .unset] [(.int (1 : Int32))]))
    refine own_st (fun _ k => XS.istore X112.here hx rfl (hb hby at_129) rfl (l' := #[iv p1, iv p2, rv b49, iv (4 : Int32), rv a_LESS, iv v107, iv (1 : Int32), iv (1 : Int32), rv a_LESS_symbol, iv (60 : Int32), iv (1 : Int32), .unset]) rfl k) ?_
    show own_Fin p e below G (T112.setTop (mkF m 131 #[iv p1, iv p2, rv b49, iv (4 : Int32), rv a_LESS, iv v107, iv (1 : Int32), iv (1 : Int32), rv a_LESS_symbol, iv (60 : Int32), iv (1 : Int32), .unset] []))
    refine own_st (fun _ k => XS.iloadN X112.here hx rfl (hb hby at_131) rfl  k) ?_
    show own_Fin p e below G (T112.setTop (mkF m 132 #[iv p1, iv p2, rv b49, iv (4 : Int32), rv a_LESS, iv v107, iv (1 : Int32), iv (1 : Int32), rv a_LESS_symbol, iv (60 : Int32), iv (1 : Int32), .unset] [(.int (4 : Int32))]))
    refine own_st (fun _ k => XS.iconst X112.here hx rfl (hb hby at_132) k) ?_
    show own_Fin p e below G (T112.setTop (mkF m 133 #[iv p1, iv p2, rv b49, iv (4 : Int32), rv a_LESS, iv v107, iv (1 : Int32), iv (1 : Int32), rv a_LESS_symbol, iv (60 : Int32), iv (1 : Int32), .unset] [(.int (2 : Int32)), (.int (4 : Int32))]))
    refine own_st (fun _ k => XS.icmpNo X112.here hx rfl (hb hby at_133) rfl (flt (by decide : ¬ ((4 : Int32) < (2 : Int32)))).1 k) ?_
    show own_Fin p e below G (T112.setTop (mkF m 136 #[iv p1, iv p2, rv b49, iv (4 : Int32), rv a_LESS, iv v107, iv (1 : Int32), iv (1 : Int32), rv a_LESS_symbol, iv (60 : Int32), iv (1 : Int32), .unset] []))
    refine own_st (fun _ k => XS.iconst X112.here hx rfl (hb hby at_136) k) ?_
    show own_Fin p e below G (T112.setTop (mkF m 137 #[iv p1, iv p2, rv b49, iv (4 : Int32), rv a_LESS, iv v107, iv (1 : Int32), iv (1 : Int32), rv a_LESS_symbol, iv (60 : Int32), iv (1 : Int32), .unset] [(.int (1 : Int32))]))
    refine own_st (fun _ k => XS.goto X112.here hx rfl (pc0 := 137) (pc' := 141) rfl (hb hby at_137) (by decide) (by decide) k) ?_
    show own_Fin p e below G (T112.setTop (mkF m 141 #[iv p1, iv p2, rv b49, iv (4 : Int32), rv a_LESS, iv v107, iv (1 : Int32), iv (1 : Int32), rv a_LESS_symbol, iv (60 : Int32), iv (1 : Int32), .unset] [(.int (1 : Int32))]))
    refine own_st (fun _ k => XS.istore X112.here hx rfl (hb hby at_141) rfl (l' := #[iv p1, iv p2, rv b49, iv (4 : Int32), rv a_LESS, iv v107, iv (1 : Int32), iv (1 : Int32), rv a_LESS_symbol, iv (60 : Int32), iv (1 : Int32), iv (1 : Int32)]) rfl k) ?_
    show own_Fin p e below G (T112.setTop (mkF m 143 #[iv p1, iv p2, rv b49, iv (4 : Int32), rv a_LESS, iv v107, iv (1 : Int32), iv (1 : Int32), rv a_LESS_symbol, iv (60 : Int32), iv (1 : Int32), iv (1 : Int32)] []))
    refine own_st (fun _ k => XS.iload X112.here hx rfl (hb hby at_143) rfl  k) ?_
    show own_Fin p e below G (T112.setTop (mkF m 145 #[iv p1, iv p2, rv b49, iv (4 : Int32), rv a_LESS, iv v107, iv (1 : Int32), iv (1 : Int32), rv a_LESS_symbol, iv (60 : Int32), iv (1 : Int32), iv (1 : Int32)] [(.int (1 : Int32))]))
    refine own_st (fun _ k => XS.iload X112.here hx rfl (hb hby at_145) rfl  k) ?_
    show own_Fin p e below G (T112.setTop (mkF m 147 #[iv p1, iv p2, rv b49, iv (4 : Int32), rv a_LESS, iv v107, iv (1 : Int32), iv (1 : Int32), rv a_LESS_symbol, iv (60 : Int32), iv (1 : Int32), iv (1 : Int32)] [(.int (1 : Int32)), (.int (1 : Int32))]))
    refine own_st (fun _ k => XS.icmpNo X112.here hx rfl (hb hby at_147) rfl (teq (by decide : ((1 : Int32) = (1 : Int32)))).2 k) ?_
    show own_Fin p e below G (T112.setTop (mkF m 150 #[iv p1, iv p2, rv b49, iv (4 : Int32), rv a_LESS, iv v107, iv (1 : Int32), iv (1 : Int32), rv a_LESS_symbol, iv (60 : Int32), iv (1 : Int32), iv (1 : Int32)] []))
    refine own_st (fun _ k => XS.iload X112.here hx rfl (hb hby at_150) rfl  k) ?_
    show own_Fin p e below G (T112.setTop (mkF m 152 #[iv p1, iv p2, rv b49, iv (4 : Int32), rv a_LESS, iv v107, iv (1 : Int32), iv (1 : Int32), rv a_LESS_symbol, iv (60 : Int32), iv (1 : Int32), iv (1 : Int32)] [(.int (1 : Int32))]))
    refine own_st (fun _ k => XS.iload X112.here hx rfl (hb hby at_152) rfl  k) ?_
    show own_Fin p e below G (T112.setTop (mkF m 154 #[iv p1, iv p2, rv b49, iv (4 : Int32), rv a_LESS, iv v107, iv (1 : Int32), iv (1 : Int32), rv a_LESS_symbol, iv (60 : Int32), iv (1 : Int32), iv (1 : Int32)] [(.int (1 : Int32)), (.int (1 : Int32))]))
    refine own_st (fun _ k => XS.icmpNo X112.here hx rfl (hb hby at_154) rfl (teq (by decide : ((1 : Int32) = (1 : Int32)))).2 k) ?_
    show own_Fin p e below G (T112.setTop (mkF m 157 #[iv p1, iv p2, rv b49, iv (4 : Int32), rv a_LESS, iv v107, iv (1 : Int32), iv (1 : Int32), rv a_LESS_symbol, iv (60 : Int32), iv (1 : Int32), iv (1 : Int32)] []))
    refine own_st (fun _ k => XS.iload X112.here hx rfl (hb hby at_157) rfl  k) ?_
    show own_Fin p e below G (T112.setTop (mkF m 159 #[iv p1, iv p2, rv b49, iv (4 : Int32), rv a_LESS, iv v107, iv (1 : Int32), iv (1 : Int32), rv a_LESS_symbol, iv (60 : Int32), iv (1 : Int32), iv (1 : Int32)] [(.int (1 : Int32))]))
    refine own_st (fun _ k => XS.iload X112.here hx rfl (hb hby at_159) rfl  k) ?_
    show own_Fin p e below G (T112.setTop (mkF m 161 #[iv p1, iv p2, rv b49, iv (4 : Int32), rv a_LESS, iv v107, iv (1 : Int32), iv (1 : Int32), rv a_LESS_symbol, iv (60 : Int32), iv (1 : Int32), iv (1 : Int32)] [(.int (1 : Int32)), (.int (1 : Int32))]))
    refine own_st (fun _ k => XS.icmpNo X112.here hx rfl (hb hby at_161) rfl (teq (by decide : ((1 : Int32) = (1 : Int32)))).2 k) ?_
    show own_Fin p e below G (T112.setTop (mkF m 164 #[iv p1, iv p2, rv b49, iv (4 : Int32), rv a_LESS, iv v107, iv (1 : Int32), iv (1 : Int32), rv a_LESS_symbol, iv (60 : Int32), iv (1 : Int32), iv (1 : Int32)] []))
    refine own_st (fun _ k => XS.iconst X112.here hx rfl (hb hby at_164) k) ?_
    show own_Fin p e below G (T112.setTop (mkF m 165 #[iv p1, iv p2, rv b49, iv (4 : Int32), rv a_LESS, iv v107, iv (1 : Int32), iv (1 : Int32), rv a_LESS_symbol, iv (60 : Int32), iv (1 : Int32), iv (1 : Int32)] [(.int (1 : Int32))]))
    refine own_st (fun _ k => XS.goto X112.here hx rfl (pc0 := 165) (pc' := 169) rfl (hb hby at_165) (by decide) (by decide) k) ?_
    show own_Fin p e below G (T112.setTop (mkF m 169 #[iv p1, iv p2, rv b49, iv (4 : Int32), rv a_LESS, iv v107, iv (1 : Int32), iv (1 : Int32), rv a_LESS_symbol, iv (60 : Int32), iv (1 : Int32), iv (1 : Int32)] [(.int (1 : Int32))]))
    refine own_out X112 Bd.notSynchronized (v := (some (.int (1 : Int32)))) (fun h => by rw [Bd.returns] at h; cases h) hG (fun fs hr => retN X112 hx (t := .boolean) Bd.returns (by simp) (hb hby at_169) hr) (by decide) (by decide) ?_
    exact ⟨rfl, N112⟩
  · show own_Fin p e below G (T78.setTop (mkF m 50 #[iv p1, iv p2, rv b49, iv (5 : Int32), .unset, .unset, .unset, .unset, .unset, .unset, .unset, .unset] []))
    refine own_st (fun _ k => XS.aloadN X78.here hx rfl (hb hby at_50) rfl rfl k) ?_
    show own_Fin p e below G (T78.setTop (mkF m 51 #[iv p1, iv p2, rv b49, iv (5 : Int32), .unset, .unset, .unset, .unset, .unset, .unset, .unset, .unset] [(.ref b49)]))
    refine own_st (fun _ k => XS.iloadN X78.here hx rfl (hb hby at_51) rfl  k) ?_
    show own_Fin p e below G (T78.setTop (mkF m 52 #[iv p1, iv p2, rv b49, iv (5 : Int32), .unset, .unset, .unset, .unset, .unset, .unset, .unset, .unset] [(.int (5 : Int32)), (.ref b49)]))
    refine own_st (fun _ k => own_ldR X78 hx hZ e78 V78 (j := (5 : Int32)) (n := 6) rfl (by decide) rfl (v := (.ref a_GREATER)) rfl (g := (mkF m 52 #[iv p1, iv p2, rv b49, iv (5 : Int32), .unset, .unset, .unset, .unset, .unset, .unset, .unset, .unset] [(.int (5 : Int32)), (.ref b49)])) rfl rfl (hb hby at_52) k) ?_
    show own_Fin p e below G (T78.setTop (mkF m 53 #[iv p1, iv p2, rv b49, iv (5 : Int32), .unset, .unset, .unset, .unset, .unset, .unset, .unset, .unset] [(.ref a_GREATER)]))
    refine own_st (fun _ k => XS.astore X78.here hx rfl (hb hby at_53) rfl rfl (l' := #[iv p1, iv p2, rv b49, iv (5 : Int32), rv a_GREATER, .unset, .unset, .unset, .unset, .unset, .unset, .unset]) rfl k) ?_
    show own_Fin p e below G (T78.setTop (mkF m 55 #[iv p1, iv p2, rv b49, iv (5 : Int32), rv a_GREATER, .unset, .unset, .unset, .unset, .unset, .unset, .unset] []))
    refine own_st (fun _ k => XS.iloadN X78.here hx rfl (hb hby at_55) rfl  k) ?_
    show own_Fin p e below G (T78.setTop (mkF m 56 #[iv p1, iv p2, rv b49, iv (5 : Int32), rv a_GREATER, .unset, .unset, .unset, .unset, .unset, .unset, .unset] [(.int p2)]))
    refine own_st (fun _ k => own_ldc X78 hx hZ hown (own_w hw 17 rfl) (g := (mkF m 56 #[iv p1, iv p2, rv b49, iv (5 : Int32), rv a_GREATER, .unset, .unset, .unset, .unset, .unset, .unset, .unset] [(.int p2)])) rfl (hb hby at_56) k) ?_
    show own_Fin p e below G (T78.setTop (mkF m 58 #[iv p1, iv p2, rv b49, iv (5 : Int32), rv a_GREATER, .unset, .unset, .unset, .unset, .unset, .unset, .unset] [(.int (1073741823 : Int32)), (.int p2)]))
    refine own_st (fun _ k => XS.iand X78.here hx rfl (hb hby at_58) rfl k) ?_
    show own_Fin p e below G (T78.setTop (mkF m 59 #[iv p1, iv p2, rv b49, iv (5 : Int32), rv a_GREATER, .unset, .unset, .unset, .unset, .unset, .unset, .unset] [(.int (p2 &&& (1073741823 : Int32)))]))
    refine own_st (fun _ k => XS.iconst X78.here hx rfl (hb hby at_59) k) ?_
    show own_Fin p e below G (T78.setTop (mkF m 60 #[iv p1, iv p2, rv b49, iv (5 : Int32), rv a_GREATER, .unset, .unset, .unset, .unset, .unset, .unset, .unset] [(.int (1 : Int32)), (.int (p2 &&& (1073741823 : Int32)))]))
    refine own_st (fun _ k => XS.iadd X78.here hx rfl (hb hby at_60) rfl k) ?_
    show own_Fin p e below G (T78.setTop (mkF m 61 #[iv p1, iv p2, rv b49, iv (5 : Int32), rv a_GREATER, .unset, .unset, .unset, .unset, .unset, .unset, .unset] [(.int ((p2 &&& (1073741823 : Int32)) + (1 : Int32)))]))
    generalize e_v113 : ((p2 &&& (1073741823 : Int32)) + (1 : Int32)) = v113
    show own_Fin p e below G (T78.setTop (mkF m 61 #[iv p1, iv p2, rv b49, iv (5 : Int32), rv a_GREATER, .unset, .unset, .unset, .unset, .unset, .unset, .unset] [(.int v113)]))
    have rp := own_pos p2
    rw [e_v113] at rp
    have t0 : (0 : Int32).toInt = 0 := rfl
    have z1p : ¬ v113 = (0 : Int32) := by rw [← Int32.toInt_inj]; omega
    have z2p : ¬ v113 < (0 : Int32) := by rw [Int32.lt_iff_toInt_lt]; omega
    have z3p : (0 : Int32) < v113 := by rw [Int32.lt_iff_toInt_lt]; omega
    have z1n : ¬ (-v113) = (0 : Int32) := by rw [← Int32.toInt_inj]; omega
    have z2n : (-v113) < (0 : Int32) := by rw [Int32.lt_iff_toInt_lt]; omega
    have z3n : ¬ (0 : Int32) < (-v113) := by rw [Int32.lt_iff_toInt_lt]; omega
    refine own_st (fun _ k => XS.istore X78.here hx rfl (hb hby at_61) rfl (l' := #[iv p1, iv p2, rv b49, iv (5 : Int32), rv a_GREATER, iv v113, .unset, .unset, .unset, .unset, .unset, .unset]) rfl k) ?_
    show own_Fin p e below G (T78.setTop (mkF m 63 #[iv p1, iv p2, rv b49, iv (5 : Int32), rv a_GREATER, iv v113, .unset, .unset, .unset, .unset, .unset, .unset] []))
    refine own_st (fun _ k => XS.aload X78.here hx rfl (hb hby at_63) rfl rfl k) ?_
    show own_Fin p e below G (T78.setTop (mkF m 65 #[iv p1, iv p2, rv b49, iv (5 : Int32), rv a_GREATER, iv v113, .unset, .unset, .unset, .unset, .unset, .unset] [(.ref a_GREATER)]))
    obtain ⟨cq114, kq114, q114a, q114b, q114c⟩ := isOf hZ e78 f79_10
    obtain ⟨_, _, ⟨T114, L114, k114, n114⟩, -, X114, ⟨Lc114, hQ114, l114, y114, z114⟩, st114⟩ := X78.virtualBack hx (y := own_y0) (z := own_y0) hown (mvT hZ (own_w hw 18 rfl)) (mvT hZ (own_w hw 19 rfl)) (notFace_of_selects (args := #[]) (mvT hZ (own_w hw 21 rfl))) (mvT hZ (own_w hw 21 rfl)) (mvT hZ (own_w hw 20 rfl)) (by decide) (backOf (W := 0) (rm_ors l Z a0 hw [] a_GREATER a_EQUAL a_UNEQUAL h78 n0 (Nat.le_trans Z0 K80.1) f79_1 f79_3) hZ (own_w hw 22 rfl) (own_w hw 3 rfl) (by decide) (by decide)) q114a q114c (g := (mkF m 65 #[iv p1, iv p2, rv b49, iv (5 : Int32), rv a_GREATER, iv v113, .unset, .unset, .unset, .unset, .unset, .unset] [(.ref a_GREATER)])) rfl (by rw [hml]; rfl) (Steps.refl _) (argsL := []) (rest := []) (lenOf pd___Z_171 rfl) rfl (by show 2 * 0 + _ ≤ _; exact Nat.le_of_eq rfl) (hb hby at_65) (fun _ _ => ⟨rfl, e78, (by decide : 1 + 0 ≤ _), (by decide : 6 + 0 ≤ _)⟩)
    dsimp only [Pt.U, Pt.locs, Pt.cells, Pt.slots] at X114 l114 y114 z114 st114 hQ114
    subst l114 y114 z114
    obtain ⟨hv114, N114q, e114⟩ := hQ114
    rw [(by unfold own_ord; rw [if_neg ne_a_GREATER_a_EQUAL, if_neg ne_a_GREATER_a_UNEQUAL] : own_ord a_GREATER a_EQUAL a_UNEQUAL = 1)] at hv114
    subst hv114
    skip
    have N114 := Fr.app N81 N114q
    refine own_tr st114 ?_
    show own_Fin p e below G (T114.setTop (mkF m 68 #[iv p1, iv p2, rv b49, iv (5 : Int32), rv a_GREATER, iv v113, .unset, .unset, .unset, .unset, .unset, .unset] [(.int (1 : Int32))]))
    refine own_st (fun _ k => XS.istore X114.here hx rfl (hb hby at_68) rfl (l' := #[iv p1, iv p2, rv b49, iv (5 : Int32), rv a_GREATER, iv v113, iv (1 : Int32), .unset, .unset, .unset, .unset, .unset]) rfl k) ?_
    show own_Fin p e below G (T114.setTop (mkF m 70 #[iv p1, iv p2, rv b49, iv (5 : Int32), rv a_GREATER, iv v113, iv (1 : Int32), .unset, .unset, .unset, .unset, .unset] []))
    refine own_st (fun _ k => XS.aload X114.here hx rfl (hb hby at_70) rfl rfl k) ?_
    show own_Fin p e below G (T114.setTop (mkF m 72 #[iv p1, iv p2, rv b49, iv (5 : Int32), rv a_GREATER, iv v113, iv (1 : Int32), .unset, .unset, .unset, .unset, .unset] [(.ref a_GREATER)]))
    refine own_st (fun _ k => XS.iload X114.here hx rfl (hb hby at_72) rfl  k) ?_
    show own_Fin p e below G (T114.setTop (mkF m 74 #[iv p1, iv p2, rv b49, iv (5 : Int32), rv a_GREATER, iv v113, iv (1 : Int32), .unset, .unset, .unset, .unset, .unset] [(.int v113), (.ref a_GREATER)]))
    refine own_st (fun _ k => XS.ineg X114.here hx rfl (hb hby at_74) rfl k) ?_
    show own_Fin p e below G (T114.setTop (mkF m 75 #[iv p1, iv p2, rv b49, iv (5 : Int32), rv a_GREATER, iv v113, iv (1 : Int32), .unset, .unset, .unset, .unset, .unset] [(.int (-v113)), (.ref a_GREATER)]))
    obtain ⟨cq115, kq115, q115a, q115b, q115c⟩ := isOf hZ e114 f79_10
    obtain ⟨_, _, ⟨T115, L115, k115, n115⟩, -, X115, ⟨Lc115, hQ115, l115, y115, z115⟩, st115⟩ := X114.virtualBack hx (y := own_y3) (z := own_y3) hown (mvT hZ (own_w hw 24 rfl)) (mvT hZ (own_w hw 25 rfl)) (notFace_of_selects (args := #[]) (mvT hZ (own_w hw 27 rfl))) (mvT hZ (own_w hw 27 rfl)) (mvT hZ (own_w hw 26 rfl)) (by decide) (backOf (W := 0) (rm_h5n l Z a0 hw [] a_GREATER (-v113) h78 n0 (Nat.le_trans Z0 K80.1) f79_10 f79_38 z1n z2n z3n) hZ (own_w hw 28 rfl) (own_w hw 3 rfl) (by decide) (by decide)) q115a q115c (g := (mkF m 75 #[iv p1, iv p2, rv b49, iv (5 : Int32), rv a_GREATER, iv v113, iv (1 : Int32), .unset, .unset, .unset, .unset, .unset] [(.int (-v113)), (.ref a_GREATER)])) rfl (by rw [hml]; rfl) (Steps.refl _) (argsL := [(.int (-v113))]) (rest := []) (lenOf pd__I_Z_244 rfl) rfl (by show 2 * 0 + _ ≤ _; exact Nat.le_of_eq rfl) (hb hby at_75) (fun _ _ => ⟨rfl, e114, (by decide : 1 + 0 ≤ _), (by decide : 6 + 0 ≤ _)⟩)
    dsimp only [Pt.U, Pt.locs, Pt.cells, Pt.slots] at X115 l115 y115 z115 st115 hQ115
    subst l115 y115 z115
    obtain ⟨rfl, N115q, e115⟩ := hQ115
    skip
    have N115 := Fr.app N114 N115q
    refine own_tr st115 ?_
    show own_Fin p e below G (T115.setTop (mkF m 78 #[iv p1, iv p2, rv b49, iv (5 : Int32), rv a_GREATER, iv v113, iv (1 : Int32), .unset, .unset, .unset, .unset, .unset] [(.int (0 : Int32))]))
    refine own_st (fun _ k => XS.aload X115.here hx rfl (hb hby at_78) rfl rfl k) ?_
    show own_Fin p e below G (T115.setTop (mkF m 80 #[iv p1, iv p2, rv b49, iv (5 : Int32), rv a_GREATER, iv v113, iv (1 : Int32), .unset, .unset, .unset, .unset, .unset] [(.ref a_GREATER), (.int (0 : Int32))]))
    refine own_st (fun _ k => XS.iload X115.here hx rfl (hb hby at_80) rfl  k) ?_
    show own_Fin p e below G (T115.setTop (mkF m 82 #[iv p1, iv p2, rv b49, iv (5 : Int32), rv a_GREATER, iv v113, iv (1 : Int32), .unset, .unset, .unset, .unset, .unset] [(.int v113), (.ref a_GREATER), (.int (0 : Int32))]))
    obtain ⟨cq116, kq116, q116a, q116b, q116c⟩ := isOf hZ e115 f79_10
    obtain ⟨_, _, ⟨T116, L116, k116, n116⟩, -, X116, ⟨Lc116, hQ116, l116, y116, z116⟩, st116⟩ := X115.virtualBack hx (y := own_y3) (z := own_y3) hown (mvT hZ (own_w hw 24 rfl)) (mvT hZ (own_w hw 25 rfl)) (notFace_of_selects (args := #[]) (mvT hZ (own_w hw 27 rfl))) (mvT hZ (own_w hw 27 rfl)) (mvT hZ (own_w hw 26 rfl)) (by decide) (backOf (W := 1) (rm_h5p l Z a0 hw [] a_GREATER v113 h78 n0 (Nat.le_trans Z0 K80.1) f79_10 f79_38 z1p z2p z3p) hZ (own_w hw 28 rfl) (own_w hw 3 rfl) (by decide) (by decide)) q116a q116c (g := (mkF m 82 #[iv p1, iv p2, rv b49, iv (5 : Int32), rv a_GREATER, iv v113, iv (1 : Int32), .unset, .unset, .unset, .unset, .unset] [(.int v113), (.ref a_GREATER), (.int (0 : Int32))])) rfl (by rw [hml]; rfl) (Steps.refl _) (argsL := [(.int v113)]) (rest := [(.int (0 : Int32))]) (lenOf pd__I_Z_244 rfl) rfl (by show 2 * 0 + _ ≤ _; exact Nat.le_of_eq rfl) (hb hby at_82) (fun _ _ => ⟨rfl, e115, (by decide : 1 + 0 ≤ _), (by decide : 6 + 0 ≤ _)⟩)
    dsimp only [Pt.U, Pt.locs, Pt.cells, Pt.slots] at X116 l116 y116 z116 st116 hQ116
    subst l116 y116 z116
    obtain ⟨rfl, N116q, e116⟩ := hQ116
    skip
    have N116 := Fr.app N115 N116q
    refine own_tr st116 ?_
    show own_Fin p e below G (T116.setTop (mkF m 85 #[iv p1, iv p2, rv b49, iv (5 : Int32), rv a_GREATER, iv v113, iv (1 : Int32), .unset, .unset, .unset, .unset, .unset] [(.int (1 : Int32)), (.int (0 : Int32))]))
    refine own_st (fun _ k => XS.icmpNo X116.here hx rfl (hb hby at_85) rfl (feq (by decide : ¬ ((0 : Int32) = (1 : Int32)))).1 k) ?_
    show own_Fin p e below G (T116.setTop (mkF m 88 #[iv p1, iv p2, rv b49, iv (5 : Int32), rv a_GREATER, iv v113, iv (1 : Int32), .unset, .unset, .unset, .unset, .unset] []))
    refine own_st (fun _ k => XS.iconst X116.here hx rfl (hb hby at_88) k) ?_
    show own_Fin p e below G (T116.setTop (mkF m 89 #[iv p1, iv p2, rv b49, iv (5 : Int32), rv a_GREATER, iv v113, iv (1 : Int32), .unset, .unset, .unset, .unset, .unset] [(.int (1 : Int32))]))
    refine own_st (fun _ k => XS.goto X116.here hx rfl (pc0 := 89) (pc' := 93) rfl (hb hby at_89) (by decide) (by decide) k) ?_
    show own_Fin p e below G (T116.setTop (mkF m 93 #[iv p1, iv p2, rv b49, iv (5 : Int32), rv a_GREATER, iv v113, iv (1 : Int32), .unset, .unset, .unset, .unset, .unset] [(.int (1 : Int32))]))
    refine own_st (fun _ k => XS.istore X116.here hx rfl (hb hby at_93) rfl (l' := #[iv p1, iv p2, rv b49, iv (5 : Int32), rv a_GREATER, iv v113, iv (1 : Int32), iv (1 : Int32), .unset, .unset, .unset, .unset]) rfl k) ?_
    show own_Fin p e below G (T116.setTop (mkF m 95 #[iv p1, iv p2, rv b49, iv (5 : Int32), rv a_GREATER, iv v113, iv (1 : Int32), iv (1 : Int32), .unset, .unset, .unset, .unset] []))
    refine own_st (fun _ k => XS.aload X116.here hx rfl (hb hby at_95) rfl rfl k) ?_
    show own_Fin p e below G (T116.setTop (mkF m 97 #[iv p1, iv p2, rv b49, iv (5 : Int32), rv a_GREATER, iv v113, iv (1 : Int32), iv (1 : Int32), .unset, .unset, .unset, .unset] [(.ref a_GREATER)]))
    obtain ⟨cq117, kq117, q117a, q117b, q117c⟩ := isOf hZ e116 f79_10
    obtain ⟨_, _, ⟨T117, L117, k117, n117⟩, -, X117, ⟨Lc117, hQ117, l117, y117, z117⟩, st117⟩ := X116.virtualBack hx (y := own_y4) (z := own_y4) hown (mvT hZ (own_w hw 38 rfl)) (mvT hZ (own_w hw 39 rfl)) (notFace_of_selects (args := #[]) (mvT hZ (own_w hw 41 rfl))) (mvT hZ (own_w hw 41 rfl)) (mvT hZ (own_w hw 40 rfl)) (by decide) (backOf (W := 0) (rm_sym l Z a0 hw [] a_GREATER a_GREATER_symbol h78 n0 (Nat.le_trans Z0 K80.1) f79_21) hZ (own_w hw 42 rfl) (own_w hw 3 rfl) (by decide) (by decide)) q117a q117c (g := (mkF m 97 #[iv p1, iv p2, rv b49, iv (5 : Int32), rv a_GREATER, iv v113, iv (1 : Int32), iv (1 : Int32), .unset, .unset, .unset, .unset] [(.ref a_GREATER)])) rfl (by rw [hml]; rfl) (Steps.refl _) (argsL := []) (rest := []) (lenOf pd___Ljava_lang_String__780 rfl) rfl (by show 2 * 0 + _ ≤ _; exact Nat.le_of_eq rfl) (hb hby at_97) (fun _ _ => ⟨rfl, e116, (by decide : 1 + 0 ≤ _), (by decide : 6 + 0 ≤ _)⟩)
    dsimp only [Pt.U, Pt.locs, Pt.cells, Pt.slots] at X117 l117 y117 z117 st117 hQ117
    subst l117 y117 z117
    obtain ⟨rfl, N117q, e117⟩ := hQ117
    skip
    have N117 := Fr.app N116 N117q
    refine own_tr st117 ?_
    show own_Fin p e below G (T117.setTop (mkF m 100 #[iv p1, iv p2, rv b49, iv (5 : Int32), rv a_GREATER, iv v113, iv (1 : Int32), iv (1 : Int32), .unset, .unset, .unset, .unset] [(.ref a_GREATER_symbol)]))
    refine own_st (fun _ k => XS.astore X117.here hx rfl (hb hby at_100) rfl rfl (l' := #[iv p1, iv p2, rv b49, iv (5 : Int32), rv a_GREATER, iv v113, iv (1 : Int32), iv (1 : Int32), rv a_GREATER_symbol, .unset, .unset, .unset]) rfl k) ?_
    show own_Fin p e below G (T117.setTop (mkF m 102 #[iv p1, iv p2, rv b49, iv (5 : Int32), rv a_GREATER, iv v113, iv (1 : Int32), iv (1 : Int32), rv a_GREATER_symbol, .unset, .unset, .unset] []))
    refine own_st (fun _ k => XS.aload X117.here hx rfl (hb hby at_102) rfl rfl k) ?_
    show own_Fin p e below G (T117.setTop (mkF m 104 #[iv p1, iv p2, rv b49, iv (5 : Int32), rv a_GREATER, iv v113, iv (1 : Int32), iv (1 : Int32), rv a_GREATER_symbol, .unset, .unset, .unset] [(.ref a_GREATER_symbol)]))
    refine own_st (fun _ k => XS.iconst X117.here hx rfl (hb hby at_104) k) ?_
    show own_Fin p e below G (T117.setTop (mkF m 105 #[iv p1, iv p2, rv b49, iv (5 : Int32), rv a_GREATER, iv v113, iv (1 : Int32), iv (1 : Int32), rv a_GREATER_symbol, .unset, .unset, .unset] [(.int (0 : Int32)), (.ref a_GREATER_symbol)]))
    obtain ⟨cq118, kq118, q118a, q118b, q118c⟩ := isOf hZ e117 f79_20
    obtain ⟨_, _, ⟨T118, L118, k118, n118⟩, -, X118, ⟨Lc118, hQ118, l118, y118, z118⟩, st118⟩ := X117.virtualBack hx (y := own_y9) (z := own_y9) hown (mvT hZ (own_w hw 45 rfl)) (mvT hZ (own_w hw 46 rfl)) (notFace_of_selects (args := #[]) (mvT hZ (own_w hw 48 rfl))) (mvT hZ (own_w hw 48 rfl)) (mvT hZ (own_w hw 47 rfl)) (by decide) (backOf (W := 0) (rm_ca62 l Z a0 hw [] a_GREATER_symbol a_GREATER_symbol_value cs fm h78 n0 (Nat.le_trans Z0 K80.1) f79_20 f79_39 f79_28 f79_47 f79_48 hcs hfm f79_49) hZ (own_w hw 50 rfl) (own_w hw 49 rfl) (by decide) (by decide)) q118a q118c (g := (mkF m 105 #[iv p1, iv p2, rv b49, iv (5 : Int32), rv a_GREATER, iv v113, iv (1 : Int32), iv (1 : Int32), rv a_GREATER_symbol, .unset, .unset, .unset] [(.int (0 : Int32)), (.ref a_GREATER_symbol)])) rfl (by rw [hml]; rfl) (Steps.refl _) (argsL := [(.int (0 : Int32))]) (rest := []) (lenOf pd__I_C_221 rfl) rfl (by show 2 * 0 + _ ≤ _; exact Nat.le_of_eq rfl) (hb hby at_105) (fun _ _ => ⟨rfl, e117, (by decide : 1 + 0 ≤ _), (by decide : 6 + 0 ≤ _)⟩)
    dsimp only [Pt.U, Pt.locs, Pt.cells, Pt.slots] at X118 l118 y118 z118 st118 hQ118
    subst l118 y118 z118
    obtain ⟨rfl, N118q, e118⟩ := hQ118
    skip
    have N118 := Fr.app N117 N118q
    refine own_tr st118 ?_
    show own_Fin p e below G (T118.setTop (mkF m 108 #[iv p1, iv p2, rv b49, iv (5 : Int32), rv a_GREATER, iv v113, iv (1 : Int32), iv (1 : Int32), rv a_GREATER_symbol, .unset, .unset, .unset] [(.int (62 : Int32))]))
    refine own_st (fun _ k => XS.istore X118.here hx rfl (hb hby at_108) rfl (l' := #[iv p1, iv p2, rv b49, iv (5 : Int32), rv a_GREATER, iv v113, iv (1 : Int32), iv (1 : Int32), rv a_GREATER_symbol, iv (62 : Int32), .unset, .unset]) rfl k) ?_
    show own_Fin p e below G (T118.setTop (mkF m 110 #[iv p1, iv p2, rv b49, iv (5 : Int32), rv a_GREATER, iv v113, iv (1 : Int32), iv (1 : Int32), rv a_GREATER_symbol, iv (62 : Int32), .unset, .unset] []))
    refine own_st (fun _ k => XS.iload X118.here hx rfl (hb hby at_110) rfl  k) ?_
    show own_Fin p e below G (T118.setTop (mkF m 112 #[iv p1, iv p2, rv b49, iv (5 : Int32), rv a_GREATER, iv v113, iv (1 : Int32), iv (1 : Int32), rv a_GREATER_symbol, iv (62 : Int32), .unset, .unset] [(.int (62 : Int32))]))
    refine own_st (fun _ k => XS.bipush X118.here hx rfl (hb hby at_112) k) ?_
    show own_Fin p e below G (T118.setTop (mkF m 114 #[iv p1, iv p2, rv b49, iv (5 : Int32), rv a_GREATER, iv v113, iv (1 : Int32), iv (1 : Int32), rv a_GREATER_symbol, iv (62 : Int32), .unset, .unset] [(.int (60 : Int32)), (.int (62 : Int32))]))
    refine own_st (fun _ k => XS.icmpNo X118.here hx rfl (hb hby at_114) rfl (feq (by decide : ¬ ((62 : Int32) = (60 : Int32)))).1 k) ?_
    show own_Fin p e below G (T118.setTop (mkF m 117 #[iv p1, iv p2, rv b49, iv (5 : Int32), rv a_GREATER, iv v113, iv (1 : Int32), iv (1 : Int32), rv a_GREATER_symbol, iv (62 : Int32), .unset, .unset] []))
    refine own_st (fun _ k => XS.iload X118.here hx rfl (hb hby at_117) rfl  k) ?_
    show own_Fin p e below G (T118.setTop (mkF m 119 #[iv p1, iv p2, rv b49, iv (5 : Int32), rv a_GREATER, iv v113, iv (1 : Int32), iv (1 : Int32), rv a_GREATER_symbol, iv (62 : Int32), .unset, .unset] [(.int (62 : Int32))]))
    refine own_st (fun _ k => XS.bipush X118.here hx rfl (hb hby at_119) k) ?_
    show own_Fin p e below G (T118.setTop (mkF m 121 #[iv p1, iv p2, rv b49, iv (5 : Int32), rv a_GREATER, iv v113, iv (1 : Int32), iv (1 : Int32), rv a_GREATER_symbol, iv (62 : Int32), .unset, .unset] [(.int (62 : Int32)), (.int (62 : Int32))]))
    refine own_st (fun _ k => XS.icmpNo X118.here hx rfl (hb hby at_121) rfl (teq (by decide : ((62 : Int32) = (62 : Int32)))).2 k) ?_
    show own_Fin p e below G (T118.setTop (mkF m 124 #[iv p1, iv p2, rv b49, iv (5 : Int32), rv a_GREATER, iv v113, iv (1 : Int32), iv (1 : Int32), rv a_GREATER_symbol, iv (62 : Int32), .unset, .unset] []))
    refine own_st (fun _ k => XS.iconst X118.here hx rfl (hb hby at_124) k) ?_
    show own_Fin p e below G (T118.setTop (mkF m 125 #[iv p1, iv p2, rv b49, iv (5 : Int32), rv a_GREATER, iv v113, iv (1 : Int32), iv (1 : Int32), rv a_GREATER_symbol, iv (62 : Int32), .unset, .unset] [(.int (1 : Int32))]))
    refine own_st (fun _ k => XS.goto X118.here hx rfl (pc0 := 125) (pc' := 129) rfl (hb hby at_125) (by decide) (by decide) k) ?_
    show own_Fin p e below G (T118.setTop (mkF m 129 #[iv p1, iv p2, rv b49, iv (5 : Int32), rv a_GREATER, iv v113, iv (1 : Int32), iv (1 : Int32), rv a_GREATER_symbol, iv (62 : Int32), .unset, .unset] [(.int (1 : Int32))]))
    refine own_st (fun _ k => XS.istore X118.here hx rfl (hb hby at_129) rfl (l' := #[iv p1, iv p2, rv b49, iv (5 : Int32), rv a_GREATER, iv v113, iv (1 : Int32), iv (1 : Int32), rv a_GREATER_symbol, iv (62 : Int32), iv (1 : Int32), .unset]) rfl k) ?_
    show own_Fin p e below G (T118.setTop (mkF m 131 #[iv p1, iv p2, rv b49, iv (5 : Int32), rv a_GREATER, iv v113, iv (1 : Int32), iv (1 : Int32), rv a_GREATER_symbol, iv (62 : Int32), iv (1 : Int32), .unset] []))
    refine own_st (fun _ k => XS.iloadN X118.here hx rfl (hb hby at_131) rfl  k) ?_
    show own_Fin p e below G (T118.setTop (mkF m 132 #[iv p1, iv p2, rv b49, iv (5 : Int32), rv a_GREATER, iv v113, iv (1 : Int32), iv (1 : Int32), rv a_GREATER_symbol, iv (62 : Int32), iv (1 : Int32), .unset] [(.int (5 : Int32))]))
    refine own_st (fun _ k => XS.iconst X118.here hx rfl (hb hby at_132) k) ?_
    show own_Fin p e below G (T118.setTop (mkF m 133 #[iv p1, iv p2, rv b49, iv (5 : Int32), rv a_GREATER, iv v113, iv (1 : Int32), iv (1 : Int32), rv a_GREATER_symbol, iv (62 : Int32), iv (1 : Int32), .unset] [(.int (2 : Int32)), (.int (5 : Int32))]))
    refine own_st (fun _ k => XS.icmpNo X118.here hx rfl (hb hby at_133) rfl (flt (by decide : ¬ ((5 : Int32) < (2 : Int32)))).1 k) ?_
    show own_Fin p e below G (T118.setTop (mkF m 136 #[iv p1, iv p2, rv b49, iv (5 : Int32), rv a_GREATER, iv v113, iv (1 : Int32), iv (1 : Int32), rv a_GREATER_symbol, iv (62 : Int32), iv (1 : Int32), .unset] []))
    refine own_st (fun _ k => XS.iconst X118.here hx rfl (hb hby at_136) k) ?_
    show own_Fin p e below G (T118.setTop (mkF m 137 #[iv p1, iv p2, rv b49, iv (5 : Int32), rv a_GREATER, iv v113, iv (1 : Int32), iv (1 : Int32), rv a_GREATER_symbol, iv (62 : Int32), iv (1 : Int32), .unset] [(.int (1 : Int32))]))
    refine own_st (fun _ k => XS.goto X118.here hx rfl (pc0 := 137) (pc' := 141) rfl (hb hby at_137) (by decide) (by decide) k) ?_
    show own_Fin p e below G (T118.setTop (mkF m 141 #[iv p1, iv p2, rv b49, iv (5 : Int32), rv a_GREATER, iv v113, iv (1 : Int32), iv (1 : Int32), rv a_GREATER_symbol, iv (62 : Int32), iv (1 : Int32), .unset] [(.int (1 : Int32))]))
    refine own_st (fun _ k => XS.istore X118.here hx rfl (hb hby at_141) rfl (l' := #[iv p1, iv p2, rv b49, iv (5 : Int32), rv a_GREATER, iv v113, iv (1 : Int32), iv (1 : Int32), rv a_GREATER_symbol, iv (62 : Int32), iv (1 : Int32), iv (1 : Int32)]) rfl k) ?_
    show own_Fin p e below G (T118.setTop (mkF m 143 #[iv p1, iv p2, rv b49, iv (5 : Int32), rv a_GREATER, iv v113, iv (1 : Int32), iv (1 : Int32), rv a_GREATER_symbol, iv (62 : Int32), iv (1 : Int32), iv (1 : Int32)] []))
    refine own_st (fun _ k => XS.iload X118.here hx rfl (hb hby at_143) rfl  k) ?_
    show own_Fin p e below G (T118.setTop (mkF m 145 #[iv p1, iv p2, rv b49, iv (5 : Int32), rv a_GREATER, iv v113, iv (1 : Int32), iv (1 : Int32), rv a_GREATER_symbol, iv (62 : Int32), iv (1 : Int32), iv (1 : Int32)] [(.int (1 : Int32))]))
    refine own_st (fun _ k => XS.iload X118.here hx rfl (hb hby at_145) rfl  k) ?_
    show own_Fin p e below G (T118.setTop (mkF m 147 #[iv p1, iv p2, rv b49, iv (5 : Int32), rv a_GREATER, iv v113, iv (1 : Int32), iv (1 : Int32), rv a_GREATER_symbol, iv (62 : Int32), iv (1 : Int32), iv (1 : Int32)] [(.int (1 : Int32)), (.int (1 : Int32))]))
    refine own_st (fun _ k => XS.icmpNo X118.here hx rfl (hb hby at_147) rfl (teq (by decide : ((1 : Int32) = (1 : Int32)))).2 k) ?_
    show own_Fin p e below G (T118.setTop (mkF m 150 #[iv p1, iv p2, rv b49, iv (5 : Int32), rv a_GREATER, iv v113, iv (1 : Int32), iv (1 : Int32), rv a_GREATER_symbol, iv (62 : Int32), iv (1 : Int32), iv (1 : Int32)] []))
    refine own_st (fun _ k => XS.iload X118.here hx rfl (hb hby at_150) rfl  k) ?_
    show own_Fin p e below G (T118.setTop (mkF m 152 #[iv p1, iv p2, rv b49, iv (5 : Int32), rv a_GREATER, iv v113, iv (1 : Int32), iv (1 : Int32), rv a_GREATER_symbol, iv (62 : Int32), iv (1 : Int32), iv (1 : Int32)] [(.int (1 : Int32))]))
    refine own_st (fun _ k => XS.iload X118.here hx rfl (hb hby at_152) rfl  k) ?_
    show own_Fin p e below G (T118.setTop (mkF m 154 #[iv p1, iv p2, rv b49, iv (5 : Int32), rv a_GREATER, iv v113, iv (1 : Int32), iv (1 : Int32), rv a_GREATER_symbol, iv (62 : Int32), iv (1 : Int32), iv (1 : Int32)] [(.int (1 : Int32)), (.int (1 : Int32))]))
    refine own_st (fun _ k => XS.icmpNo X118.here hx rfl (hb hby at_154) rfl (teq (by decide : ((1 : Int32) = (1 : Int32)))).2 k) ?_
    show own_Fin p e below G (T118.setTop (mkF m 157 #[iv p1, iv p2, rv b49, iv (5 : Int32), rv a_GREATER, iv v113, iv (1 : Int32), iv (1 : Int32), rv a_GREATER_symbol, iv (62 : Int32), iv (1 : Int32), iv (1 : Int32)] []))
    refine own_st (fun _ k => XS.iload X118.here hx rfl (hb hby at_157) rfl  k) ?_
    show own_Fin p e below G (T118.setTop (mkF m 159 #[iv p1, iv p2, rv b49, iv (5 : Int32), rv a_GREATER, iv v113, iv (1 : Int32), iv (1 : Int32), rv a_GREATER_symbol, iv (62 : Int32), iv (1 : Int32), iv (1 : Int32)] [(.int (1 : Int32))]))
    refine own_st (fun _ k => XS.iload X118.here hx rfl (hb hby at_159) rfl  k) ?_
    show own_Fin p e below G (T118.setTop (mkF m 161 #[iv p1, iv p2, rv b49, iv (5 : Int32), rv a_GREATER, iv v113, iv (1 : Int32), iv (1 : Int32), rv a_GREATER_symbol, iv (62 : Int32), iv (1 : Int32), iv (1 : Int32)] [(.int (1 : Int32)), (.int (1 : Int32))]))
    refine own_st (fun _ k => XS.icmpNo X118.here hx rfl (hb hby at_161) rfl (teq (by decide : ((1 : Int32) = (1 : Int32)))).2 k) ?_
    show own_Fin p e below G (T118.setTop (mkF m 164 #[iv p1, iv p2, rv b49, iv (5 : Int32), rv a_GREATER, iv v113, iv (1 : Int32), iv (1 : Int32), rv a_GREATER_symbol, iv (62 : Int32), iv (1 : Int32), iv (1 : Int32)] []))
    refine own_st (fun _ k => XS.iconst X118.here hx rfl (hb hby at_164) k) ?_
    show own_Fin p e below G (T118.setTop (mkF m 165 #[iv p1, iv p2, rv b49, iv (5 : Int32), rv a_GREATER, iv v113, iv (1 : Int32), iv (1 : Int32), rv a_GREATER_symbol, iv (62 : Int32), iv (1 : Int32), iv (1 : Int32)] [(.int (1 : Int32))]))
    refine own_st (fun _ k => XS.goto X118.here hx rfl (pc0 := 165) (pc' := 169) rfl (hb hby at_165) (by decide) (by decide) k) ?_
    show own_Fin p e below G (T118.setTop (mkF m 169 #[iv p1, iv p2, rv b49, iv (5 : Int32), rv a_GREATER, iv v113, iv (1 : Int32), iv (1 : Int32), rv a_GREATER_symbol, iv (62 : Int32), iv (1 : Int32), iv (1 : Int32)] [(.int (1 : Int32))]))
    refine own_out X118 Bd.notSynchronized (v := (some (.int (1 : Int32)))) (fun h => by rw [Bd.returns] at h; cases h) hG (fun fs hr => retN X118 hx (t := .boolean) Bd.returns (by simp) (hb hby at_169) hr) (by decide) (by decide) ?_
    exact ⟨rfl, N118⟩

set_option maxRecDepth 65536 in
set_option maxHeartbeats 40000000 in
theorem comes_1 {Post : Tables → Env → Array Value → State → Outcome → State → Prop} (hpost : ∀ tb e args s v u, (limb_1_1.after args s (.returned v) u = true ∧ limb_1_2.after args s (.returned v) u = true ∧ True) → FrameEnd s (.returned v) u (Jvm.fieldLocs frame_1_writes args s ++ Jvm.arrayLocs frame_1_arrays args s ++ Jvm.staticLocs frame_1_statics s) 16 128 → Post tb e args s (.returned v) u) :
    ArmFor flags0 classFile x code maxLocals ret World_1 tables_1 room_1 Calls_1 rest_1 Pre_1 Post := by
  intro l hfl _ _ p e ha hc hk s m args below hf hA hF happ hP
  obtain ⟨hcalls, hrest, hpre⟩ := hP
  obtain ⟨-, -, -, hnamed, -, -, -, hat⟩ := (Spec.applies_iff hf).mp happ
  obtain ⟨hg, hn⟩ := and_e (Cond.before_iff.mp (show (Jvm.Cond.and given_1 narrow_1).before args s = true from hpre))
  obtain ⟨hg0, hh0⟩ := and_e hg
  obtain ⟨hg1, hh1⟩ := and_e hh0
  obtain ⟨w0, w1, rfl⟩ : ∃ w0 w1 : Value, args = #[w0, w1] := by
    have hs : args.size = 2 := by simpa [Cond.value, given_1] using hg0
    obtain ⟨L⟩ := args
    match L, hs with
    | [w0, w1], _ => exact ⟨w0, w1, rfl⟩
  have hw := fun d (hd : d ∈ tables_1) => atoms_spec (ws := Jvm.Cond.code x code maxLocals ret :: tables_1) hat d (List.mem_cons_of_mem _ hd)
  have hfit : Fit s := fun {y c} hc i hi => by
    obtain ⟨ha, rfl⟩ := Array.getElem?_eq_some_iff.mp hc
    have q := List.all_eq_true.mp ((Array.all_eq_true_iff_forall_mem.mp hF) _ (Array.getElem_mem ha)) i (List.mem_range.mpr hi)
    simpa [Array.getElem?_eq_getElem hi] using q
  obtain ⟨i0, ei0⟩ := is_v hg1
  obtain rfl : w0 = (.int i0) := Option.some.inj ei0
  obtain ⟨i1, ei1⟩ := is_v hh1
  obtain rfl : w1 = (.int i1) := Option.some.inj ei1
  obtain ⟨hn0, hm0⟩ := and_e hn
  obtain ⟨hn1, hm1⟩ := and_e hm0
  obtain ⟨hn2, hm2⟩ := and_e hm1
  obtain ⟨hn3, hm3⟩ := and_e hm2
  obtain ⟨hn4, hm4⟩ := and_e hm3
  obtain ⟨hn5, hm5⟩ := and_e hm4
  obtain ⟨hn6, hm6⟩ := and_e hm5
  obtain ⟨hn7, hm7⟩ := and_e hm6
  obtain ⟨hn8, hm8⟩ := and_e hm7
  obtain ⟨hn9, hm9⟩ := and_e hm8
  obtain ⟨hn10, hm10⟩ := and_e hm9
  obtain ⟨hn11, hm11⟩ := and_e hm10
  obtain ⟨hn12, hm12⟩ := and_e hm11
  obtain ⟨hn13, hm13⟩ := and_e hm12
  obtain ⟨hn14, hm14⟩ := and_e hm13
  obtain ⟨hn15, hm15⟩ := and_e hm14
  obtain ⟨hn16, hm16⟩ := and_e hm15
  obtain ⟨hn17, hm17⟩ := and_e hm16
  obtain ⟨hn18, hm18⟩ := and_e hm17
  obtain ⟨hn19, hm19⟩ := and_e hm18
  obtain ⟨hn20, hm20⟩ := and_e hm19
  obtain ⟨hn21, hm21⟩ := and_e hm20
  obtain ⟨hn22, hm22⟩ := and_e hm21
  obtain ⟨hn23, hm23⟩ := and_e hm22
  obtain ⟨hn24, hm24⟩ := and_e hm23
  obtain ⟨hn25, hm25⟩ := and_e hm24
  obtain ⟨hn26, hm26⟩ := and_e hm25
  obtain ⟨hn27, hm27⟩ := and_e hm26
  obtain ⟨hn28, hm28⟩ := and_e hm27
  obtain ⟨hn29, hm29⟩ := and_e hm28
  obtain ⟨hn30, hm30⟩ := and_e hm29
  obtain ⟨hn31, hm31⟩ := and_e hm30
  obtain ⟨hn32, hm32⟩ := and_e hm31
  obtain ⟨hn33, hm33⟩ := and_e hm32
  obtain ⟨hn34, hm34⟩ := and_e hm33
  obtain ⟨hn35, hm35⟩ := and_e hm34
  obtain ⟨hn36, hm36⟩ := and_e hm35
  obtain ⟨hn37, hm37⟩ := and_e hm36
  obtain ⟨hn38, hm38⟩ := and_e hm37
  obtain ⟨hn39, hm39⟩ := and_e hm38
  obtain ⟨hn40, hm40⟩ := and_e hm39
  obtain ⟨hn41, hm41⟩ := and_e hm40
  obtain ⟨hn42, hm42⟩ := and_e hm41
  obtain ⟨hn43, hm43⟩ := and_e hm42
  obtain ⟨hn44, hm44⟩ := and_e hm43
  obtain ⟨a_EQUAL, ea_EQUAL⟩ := exa_v hn0
  have Ea_EQUAL := Exa.start ea_EQUAL hn0
  have Sa_EQUAL := Sta.start ea_EQUAL (Or.inr ⟨(own_w hw 3 rfl), (own_w hw 4 rfl)⟩)
  obtain ⟨a_UNEQUAL, ea_UNEQUAL⟩ := exa_v hn1
  have Ea_UNEQUAL := Exa.start ea_UNEQUAL hn1
  have Sa_UNEQUAL := Sta.start ea_UNEQUAL (Or.inr ⟨(own_w hw 3 rfl), (own_w hw 7 rfl)⟩)
  obtain ⟨a_AT_MOST, ea_AT_MOST⟩ := exa_v hn2
  have Ea_AT_MOST := Exa.start ea_AT_MOST hn2
  have Sa_AT_MOST := Sta.start ea_AT_MOST (Or.inr ⟨(own_w hw 3 rfl), (own_w hw 9 rfl)⟩)
  obtain ⟨a_AT_LEAST, ea_AT_LEAST⟩ := exa_v hn3
  have Ea_AT_LEAST := Exa.start ea_AT_LEAST hn3
  have Sa_AT_LEAST := Sta.start ea_AT_LEAST (Or.inr ⟨(own_w hw 3 rfl), (own_w hw 11 rfl)⟩)
  obtain ⟨a_LESS, ea_LESS⟩ := exa_v hn4
  have Ea_LESS := Exa.start ea_LESS hn4
  have Sa_LESS := Sta.start ea_LESS (Or.inr ⟨(own_w hw 3 rfl), (own_w hw 13 rfl)⟩)
  obtain ⟨a_GREATER, ea_GREATER⟩ := exa_v hn5
  have Ea_GREATER := Exa.start ea_GREATER hn5
  have Sa_GREATER := Sta.start ea_GREATER (Or.inr ⟨(own_w hw 3 rfl), (own_w hw 15 rfl)⟩)
  obtain ⟨a_EQUAL_symbol, ea_EQUAL_symbol⟩ := exa_v hn7
  have Ea_EQUAL_symbol := Exa.start ea_EQUAL_symbol hn7
  have Fa_EQUAL_symbol := Fld.start ((fld_at ea_EQUAL).symm.trans ea_EQUAL_symbol)
  obtain ⟨a_AT_MOST_symbol, ea_AT_MOST_symbol⟩ := exa_v hn14
  have Ea_AT_MOST_symbol := Exa.start ea_AT_MOST_symbol hn14
  have Fa_AT_MOST_symbol := Fld.start ((fld_at ea_AT_MOST).symm.trans ea_AT_MOST_symbol)
  obtain ⟨a_LESS_symbol, ea_LESS_symbol⟩ := exa_v hn20
  have Ea_LESS_symbol := Exa.start ea_LESS_symbol hn20
  have Fa_LESS_symbol := Fld.start ((fld_at ea_LESS).symm.trans ea_LESS_symbol)
  obtain ⟨a_UNEQUAL_symbol, ea_UNEQUAL_symbol⟩ := exa_v hn25
  have Ea_UNEQUAL_symbol := Exa.start ea_UNEQUAL_symbol hn25
  have Fa_UNEQUAL_symbol := Fld.start ((fld_at ea_UNEQUAL).symm.trans ea_UNEQUAL_symbol)
  obtain ⟨a_GREATER_symbol, ea_GREATER_symbol⟩ := exa_v hn31
  have Ea_GREATER_symbol := Exa.start ea_GREATER_symbol hn31
  have Fa_GREATER_symbol := Fld.start ((fld_at ea_GREATER).symm.trans ea_GREATER_symbol)
  obtain ⟨a_AT_LEAST_symbol, ea_AT_LEAST_symbol⟩ := exa_v hn37
  have Ea_AT_LEAST_symbol := Exa.start ea_AT_LEAST_symbol hn37
  have Fa_AT_LEAST_symbol := Fld.start ((fld_at ea_AT_LEAST).symm.trans ea_AT_LEAST_symbol)
  obtain ⟨a_EQUAL_symbol_value, ea_EQUAL_symbol_value⟩ := arr_v hn9
  obtain ⟨ca_EQUAL_symbol_value, Aa_EQUAL_symbol_value⟩ := Arr.start ea_EQUAL_symbol_value hn9
  have Fa_EQUAL_symbol_value := Fld.start ((fld_at ea_EQUAL_symbol).symm.trans ea_EQUAL_symbol_value)
  obtain ⟨a_AT_MOST_symbol_value, ea_AT_MOST_symbol_value⟩ := arr_v hn16
  obtain ⟨ca_AT_MOST_symbol_value, Aa_AT_MOST_symbol_value⟩ := Arr.start ea_AT_MOST_symbol_value hn16
  have Fa_AT_MOST_symbol_value := Fld.start ((fld_at ea_AT_MOST_symbol).symm.trans ea_AT_MOST_symbol_value)
  obtain ⟨a_LESS_symbol_value, ea_LESS_symbol_value⟩ := arr_v hn22
  obtain ⟨ca_LESS_symbol_value, Aa_LESS_symbol_value⟩ := Arr.start ea_LESS_symbol_value hn22
  have Fa_LESS_symbol_value := Fld.start ((fld_at ea_LESS_symbol).symm.trans ea_LESS_symbol_value)
  obtain ⟨a_UNEQUAL_symbol_value, ea_UNEQUAL_symbol_value⟩ := arr_v hn27
  obtain ⟨ca_UNEQUAL_symbol_value, Aa_UNEQUAL_symbol_value⟩ := Arr.start ea_UNEQUAL_symbol_value hn27
  have Fa_UNEQUAL_symbol_value := Fld.start ((fld_at ea_UNEQUAL_symbol).symm.trans ea_UNEQUAL_symbol_value)
  obtain ⟨a_GREATER_symbol_value, ea_GREATER_symbol_value⟩ := arr_v hn33
  obtain ⟨ca_GREATER_symbol_value, Aa_GREATER_symbol_value⟩ := Arr.start ea_GREATER_symbol_value hn33
  have Fa_GREATER_symbol_value := Fld.start ((fld_at ea_GREATER_symbol).symm.trans ea_GREATER_symbol_value)
  obtain ⟨a_AT_LEAST_symbol_value, ea_AT_LEAST_symbol_value⟩ := arr_v hn39
  obtain ⟨ca_AT_LEAST_symbol_value, Aa_AT_LEAST_symbol_value⟩ := Arr.start ea_AT_LEAST_symbol_value hn39
  have Fa_AT_LEAST_symbol_value := Fld.start ((fld_at ea_AT_LEAST_symbol).symm.trans ea_AT_LEAST_symbol_value)
  have Fa_EQUAL_ordinal := Fld.start ((fld_at ea_EQUAL).symm.trans (own_eqI hn6))
  have Fa_EQUAL_symbol_coder := Fld.start ((fld_at ea_EQUAL_symbol).symm.trans (own_eqI hn8))
  have Fa_AT_MOST_ordinal := Fld.start ((fld_at ea_AT_MOST).symm.trans (own_eqI hn12))
  have Fa_UNEQUAL_ordinal := Fld.start ((fld_at ea_UNEQUAL).symm.trans (own_eqI hn13))
  have Fa_AT_MOST_symbol_coder := Fld.start ((fld_at ea_AT_MOST_symbol).symm.trans (own_eqI hn15))
  have Fa_LESS_ordinal := Fld.start ((fld_at ea_LESS).symm.trans (own_eqI hn19))
  have Fa_LESS_symbol_coder := Fld.start ((fld_at ea_LESS_symbol).symm.trans (own_eqI hn21))
  have Fa_UNEQUAL_symbol_coder := Fld.start ((fld_at ea_UNEQUAL_symbol).symm.trans (own_eqI hn26))
  have Fa_GREATER_ordinal := Fld.start ((fld_at ea_GREATER).symm.trans (own_eqI hn30))
  have Fa_GREATER_symbol_coder := Fld.start ((fld_at ea_GREATER_symbol).symm.trans (own_eqI hn32))
  have Fa_AT_LEAST_ordinal := Fld.start ((fld_at ea_AT_LEAST).symm.trans (own_eqI hn36))
  have Fa_AT_LEAST_symbol_coder := Fld.start ((fld_at ea_AT_LEAST_symbol).symm.trans (own_eqI hn38))
  have Va_EQUAL_symbol_value : own_AV s s.heap a_EQUAL_symbol_value .byte (own_is [(61 : Int32), (61 : Int32)]) := ⟨_, Aa_EQUAL_symbol_value, own_list2 (by rw [Array.length_toList]; exact own_len_of ea_EQUAL_symbol_value Aa_EQUAL_symbol_value hn10 (by decide)) (own_at_of ea_EQUAL_symbol_value Aa_EQUAL_symbol_value hn11) (own_at_of ea_EQUAL_symbol_value Aa_EQUAL_symbol_value hn42)⟩
  have Va_UNEQUAL_symbol_value : own_AV s s.heap a_UNEQUAL_symbol_value .byte (own_is [(33 : Int32), (61 : Int32)]) := ⟨_, Aa_UNEQUAL_symbol_value, own_list2 (by rw [Array.length_toList]; exact own_len_of ea_UNEQUAL_symbol_value Aa_UNEQUAL_symbol_value hn28 (by decide)) (own_at_of ea_UNEQUAL_symbol_value Aa_UNEQUAL_symbol_value hn29) (own_at_of ea_UNEQUAL_symbol_value Aa_UNEQUAL_symbol_value hn44)⟩
  have Va_AT_MOST_symbol_value : own_AV s s.heap a_AT_MOST_symbol_value .byte (own_is [(60 : Int32), (61 : Int32)]) := ⟨_, Aa_AT_MOST_symbol_value, own_list2 (by rw [Array.length_toList]; exact own_len_of ea_AT_MOST_symbol_value Aa_AT_MOST_symbol_value hn17 (by decide)) (own_at_of ea_AT_MOST_symbol_value Aa_AT_MOST_symbol_value hn18) (own_at_of ea_AT_MOST_symbol_value Aa_AT_MOST_symbol_value hn43)⟩
  have Va_AT_LEAST_symbol_value : own_AV s s.heap a_AT_LEAST_symbol_value .byte (own_is [(62 : Int32), (61 : Int32)]) := ⟨_, Aa_AT_LEAST_symbol_value, own_list2 (by rw [Array.length_toList]; exact own_len_of ea_AT_LEAST_symbol_value Aa_AT_LEAST_symbol_value hn40 (by decide)) (own_at_of ea_AT_LEAST_symbol_value Aa_AT_LEAST_symbol_value hn41) (own_at_of ea_AT_LEAST_symbol_value Aa_AT_LEAST_symbol_value hm44)⟩
  have Va_LESS_symbol_value : own_AV s s.heap a_LESS_symbol_value .byte (own_is [(60 : Int32)]) := ⟨_, Aa_LESS_symbol_value, own_list1 (by rw [Array.length_toList]; exact own_len_of ea_LESS_symbol_value Aa_LESS_symbol_value hn23 (by decide)) (own_at_of ea_LESS_symbol_value Aa_LESS_symbol_value hn24)⟩
  have Va_GREATER_symbol_value : own_AV s s.heap a_GREATER_symbol_value .byte (own_is [(62 : Int32)]) := ⟨_, Aa_GREATER_symbol_value, own_list1 (by rw [Array.length_toList]; exact own_len_of ea_GREATER_symbol_value Aa_GREATER_symbol_value hn34 (by decide)) (own_at_of ea_GREATER_symbol_value Aa_GREATER_symbol_value hn35)⟩
  obtain ⟨hsets, hown0⟩ := atoms_of _ (rest_1_c_eq ▸ (show rest_1_c.before _ s = true from hrest))
  obtain ⟨cs, ecs⟩ := is_v (Cond.before_iff.mp (hsets _ (List.mem_of_getElem? (i := 1) rfl)))
  have Scs := Sta.start ecs (Or.inl (hsets _ (List.mem_of_getElem? (i := 0) rfl)))
  have hcs : ¬ cs = (0 : Int32) := by
    have q := not_v (Cond.before_iff.mp (hsets _ (List.mem_of_getElem? (i := 2) rfl)))
    intro h0
    subst h0
    rw [eq_i ecs (Term.int_eval 0) rfl] at q
    cases q
  obtain ⟨fm, efm, hfm⟩ := isR_v (Cond.before_iff.mp (hsets _ (List.mem_of_getElem? (i := 8) rfl)))
  have Sfm := Sta.start efm (Or.inl (hsets _ (List.mem_of_getElem? (i := 7) rfl)))
  obtain ⟨n, o, h1, h2, h3, _, L, rfl, ⟨rfl, N⟩, hq⟩ := rm0 l s _ hw tables_1 i0 i1 a_EQUAL a_UNEQUAL a_AT_MOST a_AT_LEAST a_LESS a_GREATER a_EQUAL_symbol a_AT_MOST_symbol a_LESS_symbol a_UNEQUAL_symbol a_GREATER_symbol a_AT_LEAST_symbol a_EQUAL_symbol_value a_AT_MOST_symbol_value a_LESS_symbol_value a_UNEQUAL_symbol_value a_GREATER_symbol_value a_AT_LEAST_symbol_value cs fm s.heap s.heap.size (Nat.le_refl _) Ea_EQUAL Sa_EQUAL Ea_UNEQUAL Sa_UNEQUAL Ea_AT_MOST Sa_AT_MOST Ea_AT_LEAST Sa_AT_LEAST Ea_LESS Sa_LESS Ea_GREATER Sa_GREATER Ea_EQUAL_symbol Fa_EQUAL_symbol Ea_AT_MOST_symbol Fa_AT_MOST_symbol Ea_LESS_symbol Fa_LESS_symbol Ea_UNEQUAL_symbol Fa_UNEQUAL_symbol Ea_GREATER_symbol Fa_GREATER_symbol Ea_AT_LEAST_symbol Fa_AT_LEAST_symbol Fa_EQUAL_symbol_value Fa_AT_MOST_symbol_value Fa_LESS_symbol_value Fa_UNEQUAL_symbol_value Fa_GREATER_symbol_value Fa_AT_LEAST_symbol_value Fa_EQUAL_ordinal Fa_EQUAL_symbol_coder Fa_AT_MOST_ordinal Fa_UNEQUAL_ordinal Fa_AT_MOST_symbol_coder Fa_LESS_ordinal Fa_LESS_symbol_coder Fa_UNEQUAL_symbol_coder Fa_GREATER_ordinal Fa_GREATER_symbol_coder Fa_AT_LEAST_ordinal Fa_AT_LEAST_symbol_coder Va_EQUAL_symbol_value Va_UNEQUAL_symbol_value Va_AT_MOST_symbol_value Va_AT_LEAST_symbol_value Va_LESS_symbol_value Va_GREATER_symbol_value Scs hcs hfm Sfm p e ha hc hk s m _ below hf ((Spec.applies_iff_loose hf).mp happ).1 ⟨rfl, State.Warmed39.refl s, rfl⟩ trivial
  refine ⟨n, _, h1, h2, h3, hpost _ _ _ _ _ _ ⟨Cond.after_iff.mpr rfl, Cond.after_iff.mpr (eq_i res_at (Term.int_eval (1)) rfl), trivial⟩ ⟨hq.1, hq.2.1, (hq.2.2.sift fun y hy => Or.inr (N y hy)).mono (by decide) (by decide)⟩⟩
theorem main_1_1 : Claimed_1_1 := comes_1 fun _ _ _ _ _ _ h hF => ⟨h.1, hF⟩
theorem main_1_2 : Claimed_1_2 := comes_1 fun _ _ _ _ _ _ h hF => ⟨h.2.1, hF⟩
end Jvm.Pilot.@@N@@
namespace Jvm.Pilot.@@N@@
open Jvm Jvm.ClassFile Sem Op Lib Jvm.Free Jvm.Stand Jvm.Pilot.@@N@@.Jvm.D
/-! MADE BY PROGRAM (witnessworld.py) out of the Statement's table words and the real class files: 19 classes; the members and pool entries that the words name. The judged class is class 1, her method 1. -/
namespace start1
open Jvm.ClassFile
def u (s : String) : CpInfo := .utf8 (stringToUtf16 s)
/-- a pool by its gaps: so many unusable entries, then the entry; so many at the end -/
def gap : Nat → List CpInfo → List CpInfo
  | 0, r => r
  | n + 1, r => .unusable :: gap n r
def poolList (es : List (Nat × CpInfo)) (last : Nat) : List CpInfo := es.foldr (fun e r => gap e.1 (e.2 :: r)) (gap last [])
def pool (es : List (Nat × CpInfo)) (last : Nat) : Array CpInfo := ⟨poolList es last⟩
def fileOf (pool : Array CpInfo) (this : Nat) (attrs : Array Attribute := #[]) (ms : Array MethodInfo := #[]) (fl : Nat := 33) (sup : Nat := 0) (ifs : Array Nat := #[]) (fds : Array FieldInfo := #[]) : ClassFile where
  minorVersion := 0
  majorVersion := 65
  constantPool := pool
  accessFlags := fl
  thisClass := this
  superClass := sup
  interfaces := ifs
  fields := fds
  methods := ms
  attributes := attrs
def plain (name : String) (sup : Option ClassId) : Class where
  name := name
  kind := .ordinary
  loader := none
  accessFlags := 33
  super := sup
  interfaces := #[]
  cf := none
  fields := #[]
  methods := #[]
  instanceTypes := #[]
  staticTypes := #[]
  resolved := #[]
  callSites := []
  init := .initialized
  statics := none
  mirror := none

def pool0 : Array CpInfo := pool [(5, u "<init>"), (0, u "()V"), (1, .class_ 10), (1, u "java/lang/Object")] 113

def k0m0 : Method := { name := "<init>", desc := "()V", sig := { parameters := [], returnType := none }, accessFlags := 1, code := none }
/-- java/lang/Object -/
def k0 : Class := { plain "java/lang/Object" none with
  accessFlags := 33
  interfaces := #[]
  cf := some (fileOf pool0 8 #[] #[{ accessFlags := 1, nameIndex := 5, descriptorIndex := 6, attributes := #[] }] 33 0 #[] #[])
  fields := #[]
  methods := #[k0m0]
  instanceTypes := #[]
  staticTypes := #[]
  resolved := Array.replicate 124 none
  statics := none }

def pool1 : Array CpInfo := pool [(2, .class_ 4), (1, u "java/lang/Object"), (0, u "<init>"), (0, u "()V"), (0, .class_ 8), (0, u "com/example/attributes_to_entitlements/attributestoentitlements/Operator"), (0, .fieldref 7 10), (0, .nameAndType 11 12), (0, u "EQUAL"), (0, u "Lcom/example/attributes_to_entitlements/attributestoentitlements/Operator;"), (0, .fieldref 7 14), (0, .nameAndType 15 12), (0, u "UNEQUAL"), (0, .fieldref 7 17), (0, .nameAndType 18 12), (0, u "AT_MOST"), (0, .fieldref 7 20), (0, .nameAndType 21 12), (0, u "AT_LEAST"), (0, .fieldref 7 23), (0, .nameAndType 24 12), (0, u "LESS"), (0, .fieldref 7 26), (0, .nameAndType 27 12), (0, u "GREATER"), (0, .integer 2147483647), (0, .integer 1073741823), (0, .methodref 7 31), (0, .nameAndType 32 33), (0, u "orders"), (0, u "()Z"), (0, .methodref 7 35), (0, .nameAndType 36 37), (0, u "holds"), (0, u "(I)Z"), (0, .methodref 7 39), (0, .nameAndType 40 41), (0, u "symbol"), (0, u "()Ljava/lang/String;"), (0, .methodref 43 44), (0, .class_ 45), (0, .nameAndType 46 47), (0, u "java/lang/String"), (0, u "charAt"), (0, u "(I)C"), (0, .class_ 49), (0, u "com/example/attributes_to_entitlements/attributestoentitlements/OperatorOrdersPinLaw"), (2, u "law"), (0, u "(II)Z")] 5

def k1m0 : Method := { name := "<init>", desc := "()V", sig := { parameters := [], returnType := none }, accessFlags := 1, code := none }
def k1c1 : Code := { maxStack := 4, maxLocals := 12, code := code, exceptionTable := #[], attributes := #[] }
def k1m1 : Method := { name := "law", desc := "(II)Z", sig := { parameters := [.int, .int], returnType := some .boolean }, accessFlags := 9, code := some k1c1 }
/-- com/example/attributes_to_entitlements/attributestoentitlements/OperatorOrdersPinLaw -/
def k1 : Class := { plain "com/example/attributes_to_entitlements/attributestoentitlements/OperatorOrdersPinLaw" (some 0) with
  accessFlags := 49
  interfaces := #[]
  cf := some (fileOf pool1 48 #[] #[{ accessFlags := 1, nameIndex := 5, descriptorIndex := 6, attributes := #[] }, { accessFlags := 9, nameIndex := 52, descriptorIndex := 53, attributes := #[] }] 49 2 #[] #[])
  fields := #[]
  methods := #[k1m0, k1m1]
  instanceTypes := #[]
  staticTypes := #[]
  resolved := Array.replicate 59 none
  statics := none }

def pool2 : Array CpInfo := pool [(1, .class_ 2), (0, u "java/lang/constant/Constable"), (0, .class_ 4), (0, u "java/lang/Object")] 6

/-- java/lang/constant/Constable -/
def k2 : Class := { plain "java/lang/constant/Constable" (some 0) with
  accessFlags := 1537
  interfaces := #[]
  cf := some (fileOf pool2 1 #[] #[] 1537 3 #[] #[])
  fields := #[]
  methods := #[]
  instanceTypes := #[]
  staticTypes := #[]
  resolved := Array.replicate 11 none
  statics := none }

def pool3 : Array CpInfo := pool [(1, .class_ 2), (0, u "java/lang/Comparable"), (0, .class_ 4), (0, u "java/lang/Object")] 7

/-- java/lang/Comparable -/
def k3 : Class := { plain "java/lang/Comparable" (some 0) with
  accessFlags := 1537
  interfaces := #[]
  cf := some (fileOf pool3 1 #[] #[] 1537 3 #[] #[])
  fields := #[]
  methods := #[]
  instanceTypes := #[]
  staticTypes := #[]
  resolved := Array.replicate 12 none
  statics := none }

def pool4 : Array CpInfo := pool [(1, .class_ 2), (0, u "java/io/Serializable"), (0, .class_ 4), (0, u "java/lang/Object")] 2

/-- java/io/Serializable -/
def k4 : Class := { plain "java/io/Serializable" (some 0) with
  accessFlags := 1537
  interfaces := #[]
  cf := some (fileOf pool4 1 #[] #[] 1537 3 #[] #[])
  fields := #[]
  methods := #[]
  instanceTypes := #[]
  staticTypes := #[]
  resolved := Array.replicate 7 none
  statics := none }

def pool5 : Array CpInfo := pool [(2, .class_ 4), (1, u "java/lang/Enum"), (0, u "name"), (0, u "Ljava/lang/String;"), (0, .fieldref 2 8), (0, .nameAndType 9 10), (0, u "ordinal"), (0, u "I"), (1, .class_ 14), (1, u "java/lang/Object"), (4, u "hash"), (86, .class_ 108), (1, u "java/lang/Enum$EnumDesc"), (2, .class_ 112), (0, u "java/lang/constant/Constable"), (0, .class_ 114), (0, u "java/lang/Comparable"), (0, .class_ 116), (0, u "java/io/Serializable"), (9, u "()I")] 77

def k5c0 : Code := { maxStack := 1, maxLocals := 1, code := jdk_37_method_2_code, exceptionTable := #[], attributes := #[] }
def k5m0 : Method := { name := "ordinal", desc := "()I", sig := { parameters := [], returnType := some .int }, accessFlags := 17, code := some k5c0 }
/-- java/lang/Enum -/
def k5 : Class := { plain "java/lang/Enum" (some 0) with
  accessFlags := 1057
  interfaces := #[2, 3, 4]
  cf := some (fileOf pool5 2 #[.nestMembers #[106]] #[{ accessFlags := 17, nameIndex := 9, descriptorIndex := 126, attributes := #[] }] 1057 12 #[111, 113, 115] #[{ accessFlags := 18, nameIndex := 5, descriptorIndex := 6, attributes := #[] }, { accessFlags := 18, nameIndex := 9, descriptorIndex := 10, attributes := #[] }, { accessFlags := 2, nameIndex := 19, descriptorIndex := 10, attributes := #[] }])
  fields := #[{ name := "name", type := (.object "java/lang/String"), accessFlags := 18, slot := 0, constantValue := 0 }, { name := "ordinal", type := .int, accessFlags := 18, slot := 1, constantValue := 0 }, { name := "hash", type := .int, accessFlags := 2, slot := 2, constantValue := 0 }]
  methods := #[k5m0]
  instanceTypes := #[(.object "java/lang/String"), .int, .int]
  staticTypes := #[]
  resolved := Array.replicate 204 none
  statics := none }

def pool6 : Array CpInfo := pool [(1, .class_ 2), (0, u "com/example/attributes_to_entitlements/attributestoentitlements/Operator"), (0, .fieldref 1 4), (0, .nameAndType 5 6), (0, u "EQUAL"), (0, u "Lcom/example/attributes_to_entitlements/attributestoentitlements/Operator;"), (0, .fieldref 1 8), (0, .nameAndType 9 6), (0, u "UNEQUAL"), (2, u "AT_MOST"), (2, u "AT_LEAST"), (2, u "LESS"), (2, u "GREATER"), (2, u "$VALUES"), (0, u "[Lcom/example/attributes_to_entitlements/attributestoentitlements/Operator;"), (6, .class_ 34), (1, u "java/lang/Enum"), (6, .fieldref 1 42), (0, .nameAndType 43 44), (0, u "symbol"), (0, u "Ljava/lang/String;"), (0, .methodref 1 46), (0, .nameAndType 47 48), (0, u "ordinal"), (0, u "()I"), (37, u "()Ljava/lang/String;"), (0, u "orders"), (0, u "()Z"), (1, u "holds"), (0, u "(I)Z")] 5

def k6c0 : Code := { maxStack := 1, maxLocals := 1, code := prog_14_method_4_code, exceptionTable := #[], attributes := #[] }
def k6m0 : Method := { name := "symbol", desc := "()Ljava/lang/String;", sig := { parameters := [], returnType := some (.object "java/lang/String") }, accessFlags := 0, code := some k6c0 }
def k6c1 : Code := { maxStack := 2, maxLocals := 1, code := prog_14_method_5_code, exceptionTable := #[], attributes := #[] }
def k6m1 : Method := { name := "orders", desc := "()Z", sig := { parameters := [], returnType := some .boolean }, accessFlags := 0, code := some k6c1 }
def k6c2 : Code := { maxStack := 4, maxLocals := 2, code := prog_14_method_6_code, exceptionTable := #[], attributes := #[] }
def k6m2 : Method := { name := "holds", desc := "(I)Z", sig := { parameters := [.int], returnType := some .boolean }, accessFlags := 0, code := some k6c2 }
/-- com/example/attributes_to_entitlements/attributestoentitlements/Operator -/
def k6 : Class := { plain "com/example/attributes_to_entitlements/attributestoentitlements/Operator" (some 5) with
  accessFlags := 16432
  interfaces := #[]
  cf := some (fileOf pool6 1 #[] #[{ accessFlags := 0, nameIndex := 43, descriptorIndex := 86, attributes := #[] }, { accessFlags := 0, nameIndex := 87, descriptorIndex := 88, attributes := #[] }, { accessFlags := 0, nameIndex := 90, descriptorIndex := 91, attributes := #[] }] 16432 32 #[] #[{ accessFlags := 16409, nameIndex := 5, descriptorIndex := 6, attributes := #[] }, { accessFlags := 16409, nameIndex := 9, descriptorIndex := 6, attributes := #[] }, { accessFlags := 16409, nameIndex := 12, descriptorIndex := 6, attributes := #[] }, { accessFlags := 16409, nameIndex := 15, descriptorIndex := 6, attributes := #[] }, { accessFlags := 16409, nameIndex := 18, descriptorIndex := 6, attributes := #[] }, { accessFlags := 16409, nameIndex := 21, descriptorIndex := 6, attributes := #[] }, { accessFlags := 18, nameIndex := 43, descriptorIndex := 44, attributes := #[] }, { accessFlags := 4122, nameIndex := 24, descriptorIndex := 25, attributes := #[] }])
  fields := #[{ name := "EQUAL", type := (.object "com/example/attributes_to_entitlements/attributestoentitlements/Operator"), accessFlags := 16409, slot := 0, constantValue := 0 }, { name := "UNEQUAL", type := (.object "com/example/attributes_to_entitlements/attributestoentitlements/Operator"), accessFlags := 16409, slot := 1, constantValue := 0 }, { name := "AT_MOST", type := (.object "com/example/attributes_to_entitlements/attributestoentitlements/Operator"), accessFlags := 16409, slot := 2, constantValue := 0 }, { name := "AT_LEAST", type := (.object "com/example/attributes_to_entitlements/attributestoentitlements/Operator"), accessFlags := 16409, slot := 3, constantValue := 0 }, { name := "LESS", type := (.object "com/example/attributes_to_entitlements/attributestoentitlements/Operator"), accessFlags := 16409, slot := 4, constantValue := 0 }, { name := "GREATER", type := (.object "com/example/attributes_to_entitlements/attributestoentitlements/Operator"), accessFlags := 16409, slot := 5, constantValue := 0 }, { name := "symbol", type := (.object "java/lang/String"), accessFlags := 18, slot := 3, constantValue := 0 }, { name := "$VALUES", type := (.array (.object "com/example/attributes_to_entitlements/attributestoentitlements/Operator")), accessFlags := 4122, slot := 6, constantValue := 0 }]
  methods := #[k6m0, k6m1, k6m2]
  instanceTypes := #[(.object "java/lang/String"), .int, .int, (.object "java/lang/String")]
  staticTypes := #[(.object "com/example/attributes_to_entitlements/attributestoentitlements/Operator"), (.object "com/example/attributes_to_entitlements/attributestoentitlements/Operator"), (.object "com/example/attributes_to_entitlements/attributestoentitlements/Operator"), (.object "com/example/attributes_to_entitlements/attributestoentitlements/Operator"), (.object "com/example/attributes_to_entitlements/attributestoentitlements/Operator"), (.object "com/example/attributes_to_entitlements/attributestoentitlements/Operator"), (.array (.object "com/example/attributes_to_entitlements/attributestoentitlements/Operator"))]
  resolved := Array.replicate 97 none
  statics := some 0 }

def pool7 : Array CpInfo := pool [(2, .class_ 4), (1, u "java/lang/CharSequence"), (42, .class_ 48), (0, u "java/lang/CharSequence$1CodePointIterator"), (10, .class_ 60), (0, u "java/lang/CharSequence$1CharIterator"), (5, .class_ 67), (0, u "java/lang/Object")] 63

/-- java/lang/CharSequence -/
def k7 : Class := { plain "java/lang/CharSequence" (some 0) with
  accessFlags := 1537
  interfaces := #[]
  cf := some (fileOf pool7 2 #[.nestMembers #[47, 59]] #[] 1537 66 #[] #[])
  fields := #[]
  methods := #[]
  instanceTypes := #[]
  staticTypes := #[]
  resolved := Array.replicate 131 none
  statics := none }

def pool8 : Array CpInfo := pool [(1, .class_ 2), (0, u "java/lang/constant/ConstantDesc"), (0, .class_ 4), (0, u "java/lang/Object")] 32

/-- java/lang/constant/ConstantDesc -/
def k8 : Class := { plain "java/lang/constant/ConstantDesc" (some 0) with
  accessFlags := 1537
  interfaces := #[]
  cf := some (fileOf pool8 1 #[] #[] 1537 3 #[] #[])
  fields := #[]
  methods := #[]
  instanceTypes := #[]
  staticTypes := #[]
  resolved := Array.replicate 37 none
  statics := none }

def pool9 : Array CpInfo := pool [(2, .class_ 4), (1, u "java/lang/Object"), (0, u "<init>"), (0, u "()V"), (2, .fieldref 10 11), (0, .class_ 12), (0, .nameAndType 13 14), (0, u "java/lang/String"), (0, u "value"), (0, u "[B"), (0, .fieldref 10 16), (0, .nameAndType 17 18), (0, u "coder"), (0, u "B"), (2, u "hash"), (0, u "I"), (2, u "hashIsZero"), (0, u "Z"), (11, .fieldref 10 39), (0, .nameAndType 40 26), (0, u "COMPACT_STRINGS"), (66, .class_ 109), (1, u "java/lang/StringLatin1"), (32, u "()Z"), (220, u "([BI)C"), (27, u "(II)V"), (35, u "(I)C"), (64, .methodref 10 493), (0, .nameAndType 494 142), (0, u "isLatin1"), (0, .methodref 107 496), (0, .nameAndType 497 363), (0, u "charAt"), (3, u "checkIndex"), (73, .class_ 576), (0, u "java/lang/CharSequence"), (22, u "CASE_INSENSITIVE_ORDER"), (0, u "Ljava/util/Comparator;"), (452, .fieldref 1054 1055), (0, .class_ 1056), (0, .nameAndType 1057 1058), (0, u "jdk/internal/util/Preconditions"), (0, u "SIOOBE_FORMATTER"), (0, u "Ljava/util/function/BiFunction;"), (0, .methodref 1054 1060), (0, .nameAndType 501 1061), (0, u "(IILjava/util/function/BiFunction;)I"), (39, u "serialPersistentFields"), (0, u "[Ljava/io/ObjectStreamField;"), (0, .class_ 1104), (0, u "java/lang/String$CaseInsensitiveComparator"), (1, .class_ 1107), (0, u "java/io/Serializable"), (0, .class_ 1109), (0, u "java/lang/Comparable"), (0, .class_ 1111), (0, u "java/lang/constant/Constable"), (0, .class_ 1113), (0, u "java/lang/constant/ConstantDesc"), (2, u "serialVersionUID"), (0, u "J"), (3, u "REPL"), (0, u "C"), (2, u "LATIN1"), (1, u "UTF16")] 323

def k9m0 : Method := { name := "<init>", desc := "()V", sig := { parameters := [], returnType := none }, accessFlags := 1, code := none }
def k9c1 : Code := { maxStack := 2, maxLocals := 2, code := jdk_42_method_56_code, exceptionTable := #[], attributes := #[] }
def k9m1 : Method := { name := "charAt", desc := "(I)C", sig := { parameters := [.int], returnType := some .char }, accessFlags := 1, code := some k9c1 }
def k9c2 : Code := { maxStack := 1, maxLocals := 1, code := jdk_42_method_154_code, exceptionTable := #[], attributes := #[] }
def k9m2 : Method := { name := "isLatin1", desc := "()Z", sig := { parameters := [], returnType := some .boolean }, accessFlags := 0, code := some k9c2 }
def k9c3 : Code := { maxStack := 3, maxLocals := 2, code := jdk_42_method_155_code, exceptionTable := #[], attributes := #[] }
def k9m3 : Method := { name := "checkIndex", desc := "(II)V", sig := { parameters := [.int, .int], returnType := none }, accessFlags := 8, code := some k9c3 }
/-- java/lang/String -/
def k9 : Class := { plain "java/lang/String" (some 0) with
  accessFlags := 49
  interfaces := #[4, 3, 7, 2, 8]
  cf := some (fileOf pool9 10 #[.nestMembers #[1103]] #[{ accessFlags := 1, nameIndex := 5, descriptorIndex := 6, attributes := #[] }, { accessFlags := 1, nameIndex := 497, descriptorIndex := 427, attributes := #[] }, { accessFlags := 0, nameIndex := 494, descriptorIndex := 142, attributes := #[] }, { accessFlags := 8, nameIndex := 501, descriptorIndex := 391, attributes := #[] }] 49 2 #[1106, 1108, 575, 1110, 1112] #[{ accessFlags := 18, nameIndex := 13, descriptorIndex := 14, attributes := #[] }, { accessFlags := 18, nameIndex := 17, descriptorIndex := 18, attributes := #[] }, { accessFlags := 2, nameIndex := 21, descriptorIndex := 22, attributes := #[] }, { accessFlags := 2, nameIndex := 25, descriptorIndex := 26, attributes := #[] }, { accessFlags := 26, nameIndex := 1116, descriptorIndex := 1117, attributes := #[] }, { accessFlags := 24, nameIndex := 40, descriptorIndex := 26, attributes := #[] }, { accessFlags := 26, nameIndex := 1101, descriptorIndex := 1102, attributes := #[] }, { accessFlags := 26, nameIndex := 1121, descriptorIndex := 1122, attributes := #[] }, { accessFlags := 25, nameIndex := 599, descriptorIndex := 600, attributes := #[] }, { accessFlags := 24, nameIndex := 1125, descriptorIndex := 18, attributes := #[] }, { accessFlags := 24, nameIndex := 1127, descriptorIndex := 18, attributes := #[] }])
  fields := #[{ name := "value", type := (.array .byte), accessFlags := 18, slot := 0, constantValue := 0 }, { name := "coder", type := .byte, accessFlags := 18, slot := 1, constantValue := 0 }, { name := "hash", type := .int, accessFlags := 2, slot := 2, constantValue := 0 }, { name := "hashIsZero", type := .boolean, accessFlags := 2, slot := 3, constantValue := 0 }, { name := "serialVersionUID", type := .long, accessFlags := 26, slot := 0, constantValue := 0 }, { name := "COMPACT_STRINGS", type := .boolean, accessFlags := 24, slot := 1, constantValue := 0 }, { name := "serialPersistentFields", type := (.array (.object "java/io/ObjectStreamField")), accessFlags := 26, slot := 2, constantValue := 0 }, { name := "REPL", type := .char, accessFlags := 26, slot := 3, constantValue := 0 }, { name := "CASE_INSENSITIVE_ORDER", type := (.object "java/util/Comparator"), accessFlags := 25, slot := 4, constantValue := 0 }, { name := "LATIN1", type := .byte, accessFlags := 24, slot := 5, constantValue := 0 }, { name := "UTF16", type := .byte, accessFlags := 24, slot := 6, constantValue := 0 }]
  methods := #[k9m0, k9m1, k9m2, k9m3]
  instanceTypes := #[(.array .byte), .byte, .int, .boolean]
  staticTypes := #[.long, .boolean, (.array (.object "java/io/ObjectStreamField")), .char, (.object "java/util/Comparator"), .byte, .byte]
  resolved := Array.replicate 1451 none
  statics := some 1 }

def pool10 : Array CpInfo := pool [(1, .class_ 2), (0, u "java/lang/String"), (1, .class_ 6), (1, u "java/lang/Object"), (0, u "<init>"), (0, u "()V"), (0, .methodref 1 10), (0, .nameAndType 11 12), (0, u "checkIndex"), (0, u "(II)V"), (1, .class_ 16), (1, u "java/lang/StringLatin1"), (36, u "([BI)C"), (67, u "$assertionsDisabled"), (0, u "Z"), (98, .class_ 223), (1, u "java/lang/StringLatin1$LinesSpliterator"), (28, u "charAt"), (137, .class_ 391), (0, u "java/lang/StringLatin1$CharsSpliterator")] 3

def k10m0 : Method := { name := "<init>", desc := "()V", sig := { parameters := [], returnType := none }, accessFlags := 0, code := none }
def k10c1 : Code := { maxStack := 2, maxLocals := 2, code := jdk_43_method_2_code, exceptionTable := #[], attributes := #[] }
def k10m1 : Method := { name := "charAt", desc := "([BI)C", sig := { parameters := [(.array .byte), .int], returnType := some .char }, accessFlags := 9, code := some k10c1 }
/-- java/lang/StringLatin1 -/
def k10 : Class := { plain "java/lang/StringLatin1" (some 0) with
  accessFlags := 48
  interfaces := #[]
  cf := some (fileOf pool10 14 #[.nestMembers #[390, 221]] #[{ accessFlags := 0, nameIndex := 7, descriptorIndex := 8, attributes := #[] }, { accessFlags := 9, nameIndex := 252, descriptorIndex := 53, attributes := #[] }] 48 4 #[] #[{ accessFlags := 4120, nameIndex := 121, descriptorIndex := 122, attributes := #[] }])
  fields := #[{ name := "$assertionsDisabled", type := .boolean, accessFlags := 4120, slot := 0, constantValue := 0 }]
  methods := #[k10m0, k10m1]
  instanceTypes := #[]
  staticTypes := #[.boolean]
  resolved := Array.replicate 395 none
  statics := none }

def pool11 : Array CpInfo := pool [(2, .class_ 4), (1, u "java/lang/Object"), (0, u "<init>"), (0, u "()V"), (17, .class_ 26), (1, u "jdk/internal/util/Preconditions"), (6, u "checkIndex"), (21, .class_ 56), (0, u "jdk/internal/util/Preconditions$4"), (57, .class_ 115), (0, u "jdk/internal/util/Preconditions$1"), (7, u "SIOOBE_FORMATTER"), (0, u "Ljava/util/function/BiFunction;"), (0, .class_ 126), (0, u "jdk/internal/util/Preconditions$2"), (3, u "AIOOBE_FORMATTER"), (0, .class_ 132), (0, u "jdk/internal/util/Preconditions$3"), (3, u "IOOBE_FORMATTER"), (41, u "(IILjava/util/function/BiFunction;)I")] 15

def k11m0 : Method := { name := "<init>", desc := "()V", sig := { parameters := [], returnType := none }, accessFlags := 1, code := none }
def k11c1 : Code := { maxStack := 3, maxLocals := 3, code := jdk_41_method_11_code, exceptionTable := #[], attributes := #[] }
def k11m1 : Method := { name := "checkIndex", desc := "(IILjava/util/function/BiFunction;)I", sig := { parameters := [.int, .int, (.object "java/util/function/BiFunction")], returnType := some .int }, accessFlags := 9, code := some k11c1 }
/-- jdk/internal/util/Preconditions -/
def k11 : Class := { plain "jdk/internal/util/Preconditions" (some 0) with
  accessFlags := 33
  interfaces := #[]
  cf := some (fileOf pool11 24 #[.nestMembers #[55, 131, 125, 114]] #[{ accessFlags := 1, nameIndex := 5, descriptorIndex := 6, attributes := #[] }, { accessFlags := 9, nameIndex := 33, descriptorIndex := 178, attributes := #[] }] 33 2 #[] #[{ accessFlags := 25, nameIndex := 123, descriptorIndex := 124, attributes := #[] }, { accessFlags := 25, nameIndex := 130, descriptorIndex := 124, attributes := #[] }, { accessFlags := 25, nameIndex := 136, descriptorIndex := 124, attributes := #[] }])
  fields := #[{ name := "SIOOBE_FORMATTER", type := (.object "java/util/function/BiFunction"), accessFlags := 25, slot := 0, constantValue := 0 }, { name := "AIOOBE_FORMATTER", type := (.object "java/util/function/BiFunction"), accessFlags := 25, slot := 1, constantValue := 0 }, { name := "IOOBE_FORMATTER", type := (.object "java/util/function/BiFunction"), accessFlags := 25, slot := 2, constantValue := 0 }]
  methods := #[k11m0, k11m1]
  instanceTypes := #[]
  staticTypes := #[(.object "java/util/function/BiFunction"), (.object "java/util/function/BiFunction"), (.object "java/util/function/BiFunction")]
  resolved := Array.replicate 194 none
  statics := some 2 }

def pool12 : Array CpInfo := pool [(9, u "<init>"), (6, .class_ 18), (1, u "java/lang/Object"), (0, u "()V"), (1, .class_ 23), (1, u "jdk/internal/util/ArraysSupport"), (0, u "LOG2_ARRAY_LONG_INDEX_SCALE"), (0, u "I"), (2, u "U"), (0, u "Ljdk/internal/misc/Unsafe;"), (8, u "BIG_ENDIAN"), (0, u "Z"), (8, u "LOG2_BYTE_BIT_SIZE"), (4, u "LOG2_ARRAY_INT_INDEX_SCALE"), (54, u "JLA"), (0, u "Ljdk/internal/access/JavaLangAccess;"), (11, u "LOG2_ARRAY_BOOLEAN_INDEX_SCALE"), (9, u "LOG2_ARRAY_BYTE_INDEX_SCALE"), (5, u "LOG2_ARRAY_CHAR_INDEX_SCALE"), (5, u "LOG2_ARRAY_SHORT_INDEX_SCALE"), (18, u "LOG2_ARRAY_FLOAT_INDEX_SCALE"), (24, u "LOG2_ARRAY_DOUBLE_INDEX_SCALE"), (89, u "T_BOOLEAN"), (2, u "T_CHAR"), (1, u "T_FLOAT"), (1, u "T_DOUBLE"), (1, u "T_BYTE"), (1, u "T_SHORT"), (1, u "T_INT"), (1, u "T_LONG"), (1, u "SOFT_MAX_ARRAY_LENGTH")] 83

def k12m0 : Method := { name := "<init>", desc := "()V", sig := { parameters := [], returnType := none }, accessFlags := 2, code := none }
/-- jdk/internal/util/ArraysSupport -/
def k12 : Class := { plain "jdk/internal/util/ArraysSupport" (some 0) with
  accessFlags := 33
  interfaces := #[]
  cf := some (fileOf pool12 21 #[] #[{ accessFlags := 2, nameIndex := 9, descriptorIndex := 19, attributes := #[] }] 33 16 #[] #[{ accessFlags := 24, nameIndex := 28, descriptorIndex := 29, attributes := #[] }, { accessFlags := 26, nameIndex := 38, descriptorIndex := 39, attributes := #[] }, { accessFlags := 25, nameIndex := 121, descriptorIndex := 25, attributes := #[] }, { accessFlags := 25, nameIndex := 131, descriptorIndex := 25, attributes := #[] }, { accessFlags := 25, nameIndex := 137, descriptorIndex := 25, attributes := #[] }, { accessFlags := 25, nameIndex := 143, descriptorIndex := 25, attributes := #[] }, { accessFlags := 25, nameIndex := 53, descriptorIndex := 25, attributes := #[] }, { accessFlags := 25, nameIndex := 24, descriptorIndex := 25, attributes := #[] }, { accessFlags := 25, nameIndex := 162, descriptorIndex := 25, attributes := #[] }, { accessFlags := 25, nameIndex := 187, descriptorIndex := 25, attributes := #[] }, { accessFlags := 26, nameIndex := 48, descriptorIndex := 25, attributes := #[] }, { accessFlags := 25, nameIndex := 277, descriptorIndex := 25, attributes := #[] }, { accessFlags := 25, nameIndex := 280, descriptorIndex := 25, attributes := #[] }, { accessFlags := 25, nameIndex := 282, descriptorIndex := 25, attributes := #[] }, { accessFlags := 25, nameIndex := 284, descriptorIndex := 25, attributes := #[] }, { accessFlags := 25, nameIndex := 286, descriptorIndex := 25, attributes := #[] }, { accessFlags := 25, nameIndex := 288, descriptorIndex := 25, attributes := #[] }, { accessFlags := 25, nameIndex := 290, descriptorIndex := 25, attributes := #[] }, { accessFlags := 25, nameIndex := 292, descriptorIndex := 25, attributes := #[] }, { accessFlags := 26, nameIndex := 108, descriptorIndex := 109, attributes := #[] }, { accessFlags := 25, nameIndex := 294, descriptorIndex := 25, attributes := #[] }])
  fields := #[{ name := "U", type := (.object "jdk/internal/misc/Unsafe"), accessFlags := 24, slot := 0, constantValue := 0 }, { name := "BIG_ENDIAN", type := .boolean, accessFlags := 26, slot := 1, constantValue := 0 }, { name := "LOG2_ARRAY_BOOLEAN_INDEX_SCALE", type := .int, accessFlags := 25, slot := 2, constantValue := 0 }, { name := "LOG2_ARRAY_BYTE_INDEX_SCALE", type := .int, accessFlags := 25, slot := 3, constantValue := 0 }, { name := "LOG2_ARRAY_CHAR_INDEX_SCALE", type := .int, accessFlags := 25, slot := 4, constantValue := 0 }, { name := "LOG2_ARRAY_SHORT_INDEX_SCALE", type := .int, accessFlags := 25, slot := 5, constantValue := 0 }, { name := "LOG2_ARRAY_INT_INDEX_SCALE", type := .int, accessFlags := 25, slot := 6, constantValue := 0 }, { name := "LOG2_ARRAY_LONG_INDEX_SCALE", type := .int, accessFlags := 25, slot := 7, constantValue := 0 }, { name := "LOG2_ARRAY_FLOAT_INDEX_SCALE", type := .int, accessFlags := 25, slot := 8, constantValue := 0 }, { name := "LOG2_ARRAY_DOUBLE_INDEX_SCALE", type := .int, accessFlags := 25, slot := 9, constantValue := 0 }, { name := "LOG2_BYTE_BIT_SIZE", type := .int, accessFlags := 26, slot := 10, constantValue := 0 }, { name := "T_BOOLEAN", type := .int, accessFlags := 25, slot := 11, constantValue := 0 }, { name := "T_CHAR", type := .int, accessFlags := 25, slot := 12, constantValue := 0 }, { name := "T_FLOAT", type := .int, accessFlags := 25, slot := 13, constantValue := 0 }, { name := "T_DOUBLE", type := .int, accessFlags := 25, slot := 14, constantValue := 0 }, { name := "T_BYTE", type := .int, accessFlags := 25, slot := 15, constantValue := 0 }, { name := "T_SHORT", type := .int, accessFlags := 25, slot := 16, constantValue := 0 }, { name := "T_INT", type := .int, accessFlags := 25, slot := 17, constantValue := 0 }, { name := "T_LONG", type := .int, accessFlags := 25, slot := 18, constantValue := 0 }, { name := "JLA", type := (.object "jdk/internal/access/JavaLangAccess"), accessFlags := 26, slot := 19, constantValue := 0 }, { name := "SOFT_MAX_ARRAY_LENGTH", type := .int, accessFlags := 25, slot := 20, constantValue := 0 }]
  methods := #[k12m0]
  instanceTypes := #[]
  staticTypes := #[(.object "jdk/internal/misc/Unsafe"), .boolean, .int, .int, .int, .int, .int, .int, .int, .int, .int, .int, .int, .int, .int, .int, .int, .int, .int, (.object "jdk/internal/access/JavaLangAccess"), .int]
  resolved := Array.replicate 378 none
  statics := none }

def pool13 : Array CpInfo := pool [(1, u "java/lang/Cloneable"), (0, .class_ 1), (0, u "java/lang/Object"), (0, .class_ 3)] 3

/-- java/lang/Cloneable -/
def k13 : Class := { plain "java/lang/Cloneable" (some 0) with
  accessFlags := 1537
  interfaces := #[]
  cf := some (fileOf pool13 2 #[] #[] 1537 4 #[] #[])
  fields := #[]
  methods := #[]
  instanceTypes := #[]
  staticTypes := #[]
  resolved := Array.replicate 8 none
  statics := none }

/-- the primitive byte -/
def k14 : Class := { plain "byte" none with kind := .primitive 'B', accessFlags := 0x411 }
/-- [B -/
def k15 : Class := { plain "[B" (some 0) with kind := .array 14 .byte, interfaces := #[13, 4], accessFlags := 1041 }

/-- the primitive int -/
def k16 : Class := { plain "int" none with kind := .primitive 'I', accessFlags := 0x411 }
/-- [I -/
def k17 : Class := { plain "[I" (some 0) with kind := .array 16 .int, interfaces := #[13, 4], accessFlags := 1041 }

/-- [Lcom/example/attributes_to_entitlements/attributestoentitlements/Operator; -/
def k18 : Class := { plain "[Lcom/example/attributes_to_entitlements/attributestoentitlements/Operator;" (some 0) with kind := .array 6 (.object "com/example/attributes_to_entitlements/attributestoentitlements/Operator"), interfaces := #[13, 4], accessFlags := 1041 }

def heap : Heap := #[{ cls := 6, slots := #[.ref 3, .ref 4, .ref 5, .ref 6, .ref 7, .ref 8, .null], vm := .statics 6 },
  { cls := 9, slots := #[.long 0, .int 1, .null, .int 0, .null, .int 0, .int 0], vm := .statics 9 },
  { cls := 11, slots := #[.null, .null, .null], vm := .statics 11 },
  { cls := 6, slots := #[.null, .int 0, .int 0, .ref 9], vm := .none },
  { cls := 6, slots := #[.null, .int 1, .int 0, .ref 12], vm := .none },
  { cls := 6, slots := #[.null, .int 2, .int 0, .ref 10], vm := .none },
  { cls := 6, slots := #[.null, .int 3, .int 0, .ref 14], vm := .none },
  { cls := 6, slots := #[.null, .int 4, .int 0, .ref 11], vm := .none },
  { cls := 6, slots := #[.null, .int 5, .int 0, .ref 13], vm := .none },
  { cls := 9, slots := #[.ref 15, .int 0, .int 0, .int 0], vm := .none },
  { cls := 9, slots := #[.ref 16, .int 0, .int 0, .int 0], vm := .none },
  { cls := 9, slots := #[.ref 17, .int 0, .int 0, .int 0], vm := .none },
  { cls := 9, slots := #[.ref 18, .int 0, .int 0, .int 0], vm := .none },
  { cls := 9, slots := #[.ref 19, .int 0, .int 0, .int 0], vm := .none },
  { cls := 9, slots := #[.ref 20, .int 0, .int 0, .int 0], vm := .none },
  { cls := 15, slots := #[.int 61, .int 61], vm := .none },
  { cls := 15, slots := #[.int 60, .int 61], vm := .none },
  { cls := 15, slots := #[.int 60], vm := .none },
  { cls := 15, slots := #[.int 33, .int 61], vm := .none },
  { cls := 15, slots := #[.int 62], vm := .none },
  { cls := 15, slots := #[.int 62, .int 61], vm := .none }]
def classes : Array Class := #[k0, k1, k2, k3, k4, k5, k6, k7, k8, k9, k10, k11, k12, k13, k14, k15, k16, k17, k18]
def interned : List (Array UInt16 × Addr) := []
def slotsUsed : Nat := 75
def theMethod : MethodId := ⟨1, 1⟩
def args0 : Array Value := #[.int 5, .int 8]
def aboutOver (below : List Frame) : State where
  vm := { classes := classes, interned := interned.toArray }
  heap := heap
  slotsUsed := slotsUsed
  threads := #[{ frames := .invoking theMethod args0 :: below }]
def below0 : List Frame := [.native { method := ⟨0, 0⟩, args := #[] }]
def about1 : State := aboutOver below0
def p0 : Program := .bare "" "" ""
def e0 : Env := launch0.env 0 0 0
theorem w_frames : about1.frames = Frame.invoking theMethod args0 :: below0 := rfl
set_option maxRecDepth 65536 in
theorem w_args : argsFit about1.vm theMethod args0 = true := by decide +kernel
set_option maxRecDepth 65536 in
theorem w_heap : heapFits about1 = true := by decide +kernel
set_option maxRecDepth 65536 in
theorem w_runnable : about1.curStatus? = some .runnable := by decide +kernel
set_option maxRecDepth 65536 in
theorem w_alone : about1.alone = true := by decide +kernel
set_option maxRecDepth 65536 in
theorem w_named : about1.methodNamed? x = some theMethod := by decide +kernel
set_option maxRecDepth 65536 in
theorem w_hears : about1.hears theMethod below0 = true := by decide +kernel
set_option maxRecDepth 65536 in
theorem w_ripe : about1.ripe theMethod args0 below0 = true := by decide +kernel
theorem w_running : about1.status = .running := rfl
set_option maxRecDepth 65536 in
theorem w_room : about1.hasRoom e0.platform room_1 = true :=
  launch0.hasRoom_least _ room_1 (by decide +kernel) (by decide +kernel) (by decide +kernel) (by decide +kernel) (by decide +kernel) (by decide +kernel)
theorem allAtoms_all (ts : List Jvm.Cond) (a : Array Jvm.Value) (st : Jvm.State) : (allAtoms ts).before a st = ts.all (fun c => c.before a st) := by
  induction ts with
  | nil => rfl
  | cons c t ih =>
    show (Jvm.Cond.and c (allAtoms t)).before a st = _
    rw [Jvm.Cond.before_and, ih, List.all_cons]
def words1 : List Jvm.Cond := Jvm.Cond.code x code maxLocals ret :: tables_1
/-- a 'code' word, met by the world's own term for the bytes: nothing is compared byte by byte -/
theorem code_word {y : MethodName} {bytes : ByteArray} {mx : Nat} {rt : Option FieldType} {a : Array Value} {s : State} {m : MethodId} {meth : Method} {c : Code} (h1 : s.methodNamed? y = some m) (h2 : s.vm.method? m = some meth) (h3 : meth.code = some c) (h4 : c.code = bytes)
    (h5 : (c.maxLocals == mx && c.exceptionTable.isEmpty && decide (c.maxStack ≤ mostOperands) && decide (meth.sig.returnType = rt) && !meth.locks && decide (parseMethodDescriptor y.desc = some meth.sig)) = true) : (Jvm.Cond.code y bytes mx rt).before a s = true := by
  simp only [Bool.and_eq_true, beq_iff_eq, Bool.not_eq_true', decide_eq_true_eq] at h5
  obtain ⟨⟨⟨⟨⟨g1, g2⟩, g3⟩, g4⟩, g5⟩, g6⟩ := h5
  simp [Cond.before, Cond.holds, Cond.value, h1, h2, h3, h4, g1, g2, g3, g4, g5, g6]
def isCode : Jvm.Cond → Bool
  | .code _ _ _ _ => true
  | _ => false
theorem all_split {L : List Jvm.Cond} {P : Jvm.Cond → Bool} (h1 : L.all (fun c => isCode c || P c) = true) (h2 : ∀ c ∈ L.filter isCode, P c = true) : L.all P = true := by
  refine List.all_eq_true.mpr fun c hc => ?_
  have h := List.all_eq_true.mp h1 c hc
  rcases Bool.eq_false_or_eq_true (isCode c) with hi | hi
  · exact h2 c (List.mem_filter.mpr ⟨hc, hi⟩)
  · simpa [hi] using h
set_option maxRecDepth 65536 in
theorem w_c0 : (Jvm.Cond.code x code maxLocals ret).before args0 about1 = true := code_word (m := ⟨1, 1⟩) (meth := k1m1) (c := k1c1) (by decide +kernel) rfl rfl rfl (by decide +kernel)
set_option maxRecDepth 65536 in
theorem w_c1 : (Jvm.Cond.code ({ cls := "com/example/attributes_to_entitlements/attributestoentitlements/Operator", name := "orders", desc := "()Z" } : Jvm.MethodName) prog_14_method_5_code (1 : Nat) (Option.some Jvm.ClassFile.FieldType.boolean)).before args0 about1 = true := code_word (m := ⟨6, 1⟩) (meth := k6m1) (c := k6c1) (by decide +kernel) rfl rfl rfl (by decide +kernel)
set_option maxRecDepth 65536 in
theorem w_c2 : (Jvm.Cond.code ({ cls := "com/example/attributes_to_entitlements/attributestoentitlements/Operator", name := "holds", desc := "(I)Z" } : Jvm.MethodName) prog_14_method_6_code (2 : Nat) (Option.some Jvm.ClassFile.FieldType.boolean)).before args0 about1 = true := code_word (m := ⟨6, 2⟩) (meth := k6m2) (c := k6c2) (by decide +kernel) rfl rfl rfl (by decide +kernel)
set_option maxRecDepth 65536 in
theorem w_c3 : (Jvm.Cond.code ({ cls := "java/lang/Enum", name := "ordinal", desc := "()I" } : Jvm.MethodName) jdk_37_method_2_code (1 : Nat) (Option.some Jvm.ClassFile.FieldType.int)).before args0 about1 = true := code_word (m := ⟨5, 0⟩) (meth := k5m0) (c := k5c0) (by decide +kernel) rfl rfl rfl (by decide +kernel)
set_option maxRecDepth 65536 in
theorem w_c4 : (Jvm.Cond.code ({ cls := "com/example/attributes_to_entitlements/attributestoentitlements/Operator", name := "symbol", desc := "()Ljava/lang/String;" } : Jvm.MethodName) prog_14_method_4_code (1 : Nat) (Option.some (Jvm.ClassFile.FieldType.object "java/lang/String"))).before args0 about1 = true := code_word (m := ⟨6, 0⟩) (meth := k6m0) (c := k6c0) (by decide +kernel) rfl rfl rfl (by decide +kernel)
set_option maxRecDepth 65536 in
theorem w_c5 : (Jvm.Cond.code ({ cls := "java/lang/String", name := "charAt", desc := "(I)C" } : Jvm.MethodName) jdk_42_method_56_code (2 : Nat) (Option.some Jvm.ClassFile.FieldType.char)).before args0 about1 = true := code_word (m := ⟨9, 1⟩) (meth := k9m1) (c := k9c1) (by decide +kernel) rfl rfl rfl (by decide +kernel)
set_option maxRecDepth 65536 in
theorem w_c6 : (Jvm.Cond.code ({ cls := "java/lang/String", name := "isLatin1", desc := "()Z" } : Jvm.MethodName) jdk_42_method_154_code (1 : Nat) (Option.some Jvm.ClassFile.FieldType.boolean)).before args0 about1 = true := code_word (m := ⟨9, 2⟩) (meth := k9m2) (c := k9c2) (by decide +kernel) rfl rfl rfl (by decide +kernel)
set_option maxRecDepth 65536 in
theorem w_c7 : (Jvm.Cond.code ({ cls := "java/lang/StringLatin1", name := "charAt", desc := "([BI)C" } : Jvm.MethodName) jdk_43_method_2_code (2 : Nat) (Option.some Jvm.ClassFile.FieldType.char)).before args0 about1 = true := code_word (m := ⟨10, 1⟩) (meth := k10m1) (c := k10c1) (by decide +kernel) rfl rfl rfl (by decide +kernel)
set_option maxRecDepth 65536 in
theorem w_c8 : (Jvm.Cond.code ({ cls := "java/lang/String", name := "checkIndex", desc := "(II)V" } : Jvm.MethodName) jdk_42_method_155_code (2 : Nat) (Option.none : Option Jvm.ClassFile.FieldType)).before args0 about1 = true := code_word (m := ⟨9, 3⟩) (meth := k9m3) (c := k9c3) (by decide +kernel) rfl rfl rfl (by decide +kernel)
set_option maxRecDepth 65536 in
theorem w_c9 : (Jvm.Cond.code ({ cls := "jdk/internal/util/Preconditions", name := "checkIndex", desc := "(IILjava/util/function/BiFunction;)I" } : Jvm.MethodName) jdk_41_method_11_code (3 : Nat) (Option.some Jvm.ClassFile.FieldType.int)).before args0 about1 = true := code_word (m := ⟨11, 1⟩) (meth := k11m1) (c := k11c1) (by decide +kernel) rfl rfl rfl (by decide +kernel)
def codes1 : List Jvm.Cond := [Jvm.Cond.code x code maxLocals ret, Jvm.Cond.code ({ cls := "com/example/attributes_to_entitlements/attributestoentitlements/Operator", name := "orders", desc := "()Z" } : Jvm.MethodName) prog_14_method_5_code (1 : Nat) (Option.some Jvm.ClassFile.FieldType.boolean), Jvm.Cond.code ({ cls := "com/example/attributes_to_entitlements/attributestoentitlements/Operator", name := "holds", desc := "(I)Z" } : Jvm.MethodName) prog_14_method_6_code (2 : Nat) (Option.some Jvm.ClassFile.FieldType.boolean), Jvm.Cond.code ({ cls := "java/lang/Enum", name := "ordinal", desc := "()I" } : Jvm.MethodName) jdk_37_method_2_code (1 : Nat) (Option.some Jvm.ClassFile.FieldType.int), Jvm.Cond.code ({ cls := "com/example/attributes_to_entitlements/attributestoentitlements/Operator", name := "symbol", desc := "()Ljava/lang/String;" } : Jvm.MethodName) prog_14_method_4_code (1 : Nat) (Option.some (Jvm.ClassFile.FieldType.object "java/lang/String")), Jvm.Cond.code ({ cls := "java/lang/String", name := "charAt", desc := "(I)C" } : Jvm.MethodName) jdk_42_method_56_code (2 : Nat) (Option.some Jvm.ClassFile.FieldType.char), Jvm.Cond.code ({ cls := "java/lang/String", name := "isLatin1", desc := "()Z" } : Jvm.MethodName) jdk_42_method_154_code (1 : Nat) (Option.some Jvm.ClassFile.FieldType.boolean), Jvm.Cond.code ({ cls := "java/lang/StringLatin1", name := "charAt", desc := "([BI)C" } : Jvm.MethodName) jdk_43_method_2_code (2 : Nat) (Option.some Jvm.ClassFile.FieldType.char), Jvm.Cond.code ({ cls := "java/lang/String", name := "checkIndex", desc := "(II)V" } : Jvm.MethodName) jdk_42_method_155_code (2 : Nat) (Option.none : Option Jvm.ClassFile.FieldType), Jvm.Cond.code ({ cls := "jdk/internal/util/Preconditions", name := "checkIndex", desc := "(IILjava/util/function/BiFunction;)I" } : Jvm.MethodName) jdk_41_method_11_code (3 : Nat) (Option.some Jvm.ClassFile.FieldType.int)]
set_option maxRecDepth 65536 in
theorem codes_eq : words1.filter isCode = codes1 := rfl
theorem w_codes : ∀ c ∈ words1.filter isCode, c.before args0 about1 = true := by
  rw [codes_eq]
  intro c hc
  simp only [codes1, List.mem_cons, List.not_mem_nil, or_false] at hc
  rcases hc with rfl | rfl | rfl | rfl | rfl | rfl | rfl | rfl | rfl | rfl
  · exact w_c0
  · exact w_c1
  · exact w_c2
  · exact w_c3
  · exact w_c4
  · exact w_c5
  · exact w_c6
  · exact w_c7
  · exact w_c8
  · exact w_c9
set_option maxRecDepth 65536 in
theorem w_t1 : (words1.take 24).all (fun c => isCode c || c.before args0 about1) = true := by decide +kernel
set_option maxRecDepth 65536 in
theorem w_t2 : ((words1.drop 24).take 24).all (fun c => isCode c || c.before args0 about1) = true := by decide +kernel
set_option maxRecDepth 65536 in
theorem w_t3 : (((words1.drop 24).drop 24).take 24).all (fun c => isCode c || c.before args0 about1) = true := by decide +kernel
set_option maxRecDepth 65536 in
theorem w_t4 : (((words1.drop 24).drop 24).drop 24).all (fun c => isCode c || c.before args0 about1) = true := by decide +kernel
theorem w_tables : (allAtoms (Jvm.Cond.code x code maxLocals ret :: tables_1)).before args0 about1 = true := by
  rw [allAtoms_all]
  show words1.all (fun c => c.before args0 about1) = true
  refine all_split ?_ w_codes
  rw [← List.take_append_drop 24 words1, List.all_append, w_t1, ← List.take_append_drop 24 (words1.drop 24), List.all_append, w_t2, ← List.take_append_drop 24 ((words1.drop 24).drop 24), List.all_append, w_t3, w_t4]
  rfl
set_option maxRecDepth 65536 in
theorem w_rest : rest_1_c.before args0 about1 = true := by decide +kernel
set_option maxRecDepth 65536 in
theorem w_case : (Jvm.Cond.and given_1 narrow_1).before args0 about1 = true := by decide +kernel
theorem w_applies : (headSpec (Jvm.Cond.code x code maxLocals ret :: tables_1) room_1).applies x e0.platform about1 = true :=
  (Spec.applies_iff w_frames).mpr ⟨w_running, w_runnable, w_alone, w_named, w_hears, w_ripe, w_room, w_tables⟩
theorem atStart : AtStart classFile x code maxLocals ret World_1 tables_1 room_1 Calls_1 rest_1 Pre_1 launch0 p0 e0 about1 theMethod args0 below0 :=
  ⟨lists_1, trivial, launch0.admits_env _ _ _, launch0.least_env, fairChoices_fair.cas, fairChoices_fair.clock, w_frames, w_args, w_heap, w_applies, trivial, w_rest, w_case⟩
end start1
theorem witness_1 : WitnessClaimed_1 := ⟨start1.p0, start1.e0, start1.about1, start1.theMethod, start1.args0, start1.below0, start1.atStart⟩
end Jvm.Pilot.@@N@@
