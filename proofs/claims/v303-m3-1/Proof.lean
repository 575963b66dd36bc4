import JvmDerived
import JvmDerived.Pilot.@@N@@Statement
import JvmDerived.Pilot.@@N@@Code
set_option linter.unusedVariables false
set_option linter.unusedSimpArgs false
namespace Jvm.Pilot.@@N@@
open Jvm Jvm.ClassFile Sem Op Lib Jvm.Free Jvm.Stand Jvm.LawKit Jvm.RoadKit Bundle Jvm.Pilot.@@N@@.Jvm.D

theorem own_w {Z : State} {a0 : Array Value} (hw : ∀ d ∈ tables_1, d.before a0 Z = true) (i : Nat) {d : Jvm.Cond} (h : tables_1[i]? = some d) : d.before a0 Z = true := hw d (List.mem_of_getElem? h)
def own_Fin (p : Program) (e : Env) (below : List Frame) (G : Outcome → State → Prop) (st : State) : Prop := ∃ t o, Steps p.tables e below st t ∧ t.status = .running ∧ Ended t below o ∧ G o t
section OwnKit
variable {p : Program} {l : Launch} {e : Env} {R : Room} {s : State} {m : MethodId} {args : Array Value} {below : List Frame} {meth : Method} {c : Code} {T : State} {locs : List Loc} {cells slots : Nat} {Z : State} {a0 : Array Value} {h h' : Heap} {G : Outcome → State → Prop} {st st' : State} {Qk : Option Value → Heap → List Loc → Prop} {K N : Nat} {a b : Addr} {ty : FieldType} {vs : List Value} {ws : List Addr} {sl : Nat} {v : Value}
theorem own_st (k : ∀ target, Steps p.tables e below st' target → Steps p.tables e below st target) (q : own_Fin p e below G st') : own_Fin p e below G st := by
  obtain ⟨t, o, h1, h2⟩ := q; exact ⟨t, o, k t h1, h2⟩
theorem own_tr (k : Steps p.tables e below st st') (q : own_Fin p e below G st') : own_Fin p e below G st := by
  obtain ⟨t, o, h1, h2⟩ := q; exact ⟨t, o, k.trans h1, h2⟩
theorem own_start (q : ∀ G : Outcome → State → Prop, (∀ v L t, Qk v t.heap L → FrameEnd s (.returned v) t L K N → G (.returned v) t) → own_Fin p e below G st) : ∃ s₂ o, Steps p.tables e below st s₂ ∧ s₂.status = .running ∧ Ended s₂ below o ∧ ∃ v L, o = .returned v ∧ Qk v s₂.heap L ∧ FrameEnd s o s₂ L K N :=
  q _ (fun v L t q f => ⟨v, L, rfl, q, f⟩)
theorem own_out (X : Stand p l e R s m args below meth c T locs cells slots) (hlocks : meth.locks = false) {v : Option Value} (hv : meth.sig.returnType = none → v = none) (hG : ∀ v L t, Qk v t.heap L → FrameEnd s (.returned v) t L K N → G (.returned v) t)
    (hstep : ∀ fs, (∀ (f : JFrame) (acts : List Action), f.method = m → f.locked = none → f.entered = [] → (doReturn e (T.setTop f) acts v).1 = T.setFrames fs) → Steps p.tables e below st (T.setFrames fs)) (hc : cells ≤ K) (hn : slots ≤ N) (hQ : Qk v T.heap locs) : own_Fin p e below G st := by
  obtain ⟨fs, hr, hrun, hended, hW, hsame⟩ := X.leave hv hlocks
  exact ⟨_, _, hstep fs hr, hrun, hended, hG _ _ _ hQ ⟨⟨_, rfl⟩, hW, hsame.mono hc hn⟩⟩
theorem own_ldc (X : Stand p l e R s m args below meth c T locs cells slots) (hx : p.tables.exec = Jvm.exec) (hZ : Z.Warmed39 s.vm) {own : String} {index : Nat} {v : Int32} (hown : s.vm.findClass own = some m.cls) (w : (Cond.constant own index v).before a0 Z = true) {g : JFrame} (hg : g.method = m) (hd : decode c.code g.pc = .ok (.ldc index, 2)) {target : State}
    (kk : Steps p.tables e below (T.setTop { g with pc := g.pc + 2, stack := .int v :: g.stack }) target) : Steps p.tables e below (T.setTop g) target := X.ldcInt hx hown (mvT hZ w) hg hd target kk
theorem own_ldcJ (X : Stand p l e R s m args below meth c T locs cells slots) (hx : p.tables.exec = Jvm.exec) (hZ : Z.Warmed39 s.vm) {own : String} {index : Nat} {v : Int64} (hown : s.vm.findClass own = some m.cls) (w : (Cond.constantLong own index v).before a0 Z = true) {g : JFrame} (hg : g.method = m) (hd : decode c.code g.pc = .ok (.ldc2_w index, 3)) {target : State}
    (kk : Steps p.tables e below (T.setTop { g with pc := g.pc + 3, stack := .long v :: g.stack }) target) : Steps p.tables e below (T.setTop g) target := X.ldc2Long hx hown (mvT hZ w) hg hd target kk
theorem own_ldcF (X : Stand p l e R s m args below meth c T locs cells slots) (hx : p.tables.exec = Jvm.exec) (hZ : Z.Warmed39 s.vm) {own : String} {index : Nat} {v : UInt32} (hown : s.vm.findClass own = some m.cls) (w : (Cond.constantFloat own index v).before a0 Z = true) {g : JFrame} (hg : g.method = m) (hd : decode c.code g.pc = .ok (.ldc index, 2)) {target : State}
    (kk : Steps p.tables e below (T.setTop { g with pc := g.pc + 2, stack := .float v :: g.stack }) target) : Steps p.tables e below (T.setTop g) target := X.ldcFloatC hx hown (mvT hZ w) hg hd target kk
def own_AV (Z : State) (h : Heap) (a : Addr) (ty : FieldType) (vs : List Value) : Prop := ∃ c : Cell, Arr Z h a c ty ∧ c.slots.toList = vs
def own_is (xs : List Int32) : List Value := xs.map Value.int
def own_js (xs : List Int64) : List Value := xs.map Value.long
theorem own_AV.lt (A : own_AV Z h a ty vs) : a < h.size := by obtain ⟨c, A, -⟩ := A; exact A.lt
theorem own_AV.ext (A : own_AV Z h a ty vs) (E : Ext h h') : own_AV Z h' a ty vs := by obtain ⟨c, A, r⟩ := A; exact ⟨c, A.ext E, r⟩
theorem own_AV.other (A : own_AV Z h b ty vs) (W : Wr h h' a sl v) (q : b ≠ a) : own_AV Z h' b ty vs := by obtain ⟨c, A, r⟩ := A; exact ⟨c, A.other W q, r⟩
theorem own_AV.keep (A : own_AV Z h a ty vs) (K : Keep h h' ws) (q : a ∉ ws) : own_AV Z h' a ty vs := by obtain ⟨c, A, r⟩ := A; exact ⟨c, ⟨K.2.1 a c A.1 q, A.2⟩, r⟩
theorem own_AV_new {k : ClassId} {z : Int32} (A : Arr Z h a (newA k ty z) ty) : own_AV Z h a ty (List.replicate z.toNatClampNeg (defaultValue ty)) := ⟨_, A, by simp [newA]⟩
theorem own_AV_newI {k : ClassId} {z : Int32} (A : Arr Z h a (newA k .int z) .int) : own_AV Z h a .int (own_is (List.replicate z.toNatClampNeg 0)) := ⟨_, A, by simp [newA, own_is, defaultValue]⟩
theorem own_AV_newJ {k : ClassId} {z : Int32} (A : Arr Z h a (newA k .long z) .long) : own_AV Z h a .long (own_js (List.replicate z.toNatClampNeg 0)) := ⟨_, A, by simp [newA, own_js, defaultValue]⟩
theorem own_in {c : Cell} {n : Nat} {j : Int32} (r : c.slots.toList = vs) (hn : vs.length = n) (hj : ¬ (j < 0 ∨ n ≤ j.toNatClampNeg)) : ¬ (j < 0 ∨ c.slots.size ≤ j.toNatClampNeg) := by
  rw [← Array.length_toList, r, hn]; exact hj
theorem own_nat {n : Nat} {j : Int32} (hj : ¬ (j < 0 ∨ n ≤ j.toNatClampNeg)) : j.toNatClampNeg < n := Nat.lt_of_not_le fun q => hj (Or.inr q)
theorem own_ldI (X : Stand p l e R s m args below meth c T locs cells slots) (hx : p.tables.exec = Jvm.exec) (hZ : Z.Warmed39 s.vm) (eT : T.heap = h) {xs : List Int32} (A : own_AV Z h a .int (own_is xs)) {j : Int32} {n : Nat} (hn : xs.length = n) (hj : ¬ (j < 0 ∨ n ≤ j.toNatClampNeg))
    {g : JFrame} (hg : g.method = m) {rest : List Value} (hs : g.stack = .int j :: .ref a :: rest) (hd : decode c.code g.pc = .ok (.iaload, 1)) {target : State} (kk : Steps p.tables e below (T.setTop { g with pc := g.pc + 1, stack := .int (xs.getD j.toNatClampNeg 0) :: rest }) target) : Steps p.tables e below (T.setTop g) target := by
  obtain ⟨cl, A, r⟩ := A
  have hlt := own_nat hj
  refine X.iaload hx (by rw [eT]; exact A.1) (State.isArrayOf_alike hZ.alike A.2.1) A.2.2 (own_in r (by simp [own_is, hn]) hj) ?_ hg hs hd _ kk
  rw [← Array.getElem?_toList, r]
  simp [own_is, List.getD_eq_getElem?_getD, List.getElem?_eq_getElem (hn ▸ hlt)]
theorem own_ldJ (X : Stand p l e R s m args below meth c T locs cells slots) (hx : p.tables.exec = Jvm.exec) (hZ : Z.Warmed39 s.vm) (eT : T.heap = h) {xs : List Int64} (A : own_AV Z h a .long (own_js xs)) {j : Int32} {n : Nat} (hn : xs.length = n) (hj : ¬ (j < 0 ∨ n ≤ j.toNatClampNeg))
    {g : JFrame} (hg : g.method = m) {rest : List Value} (hs : g.stack = .int j :: .ref a :: rest) (hd : decode c.code g.pc = .ok (.laload, 1)) {target : State} (kk : Steps p.tables e below (T.setTop { g with pc := g.pc + 1, stack := .long (xs.getD j.toNatClampNeg 0) :: rest }) target) : Steps p.tables e below (T.setTop g) target := by
  obtain ⟨cl, A, r⟩ := A
  have hlt := own_nat hj
  refine X.laload hx (by rw [eT]; exact A.1) (State.isArrayOf_alike hZ.alike A.2.1) A.2.2 (own_in r (by simp [own_js, hn]) hj) ?_ hg hs hd _ kk
  rw [← Array.getElem?_toList, r]
  simp [own_js, List.getD_eq_getElem?_getD, List.getElem?_eq_getElem (hn ▸ hlt)]
theorem own_set {cl : Cell} {j : Nat} (A : Arr Z h a cl ty) (r : cl.slots.toList = vs) (W : Wr h h' a j v) : own_AV Z h' a ty (vs.set j v) := ⟨_, A.same W, by simp [Cell.setSlot, ← r]⟩
theorem own_stI (X : Stand p l e R s m args below meth c T locs cells slots) (hx : p.tables.exec = Jvm.exec) (hZ : Z.Warmed39 s.vm) (eT : T.heap = h) {xs : List Int32} (A : own_AV Z h a .int (own_is xs)) {j x : Int32} {n : Nat} (hn : xs.length = n) (hj : ¬ (j < 0 ∨ n ≤ j.toNatClampNeg))
    {g : JFrame} (hg : g.method = m) {rest : List Value} (hs : g.stack = .int x :: .int j :: .ref a :: rest) (hd : decode c.code g.pc = .ok (.iastore, 1)) :
    ∃ T' h', Stand p l e R s m args below meth c T' (locs ++ [⟨a, j.toNatClampNeg⟩]) cells slots ∧ T'.heap = h' ∧ Wr h h' a j.toNatClampNeg (.int x) ∧ own_AV Z h' a .int (own_is (xs.set j.toNatClampNeg x)) ∧ ∀ target, Steps p.tables e below (T'.setTop { g with pc := g.pc + 1, stack := rest }) target → Steps p.tables e below (T.setTop g) target := by
  obtain ⟨cl, A, r⟩ := A
  obtain ⟨T', h', X', e', W, st⟩ := stI X hx hZ eT A (own_in r (by simp [own_is, hn]) hj) hg hs hd
  exact ⟨T', h', X', e', W, by have q := own_set A r W; simpa [own_is, List.map_set] using q, st⟩
theorem own_stJ (X : Stand p l e R s m args below meth c T locs cells slots) (hx : p.tables.exec = Jvm.exec) (hZ : Z.Warmed39 s.vm) (eT : T.heap = h) {xs : List Int64} (A : own_AV Z h a .long (own_js xs)) {j : Int32} {x : Int64} {n : Nat} (hn : xs.length = n) (hj : ¬ (j < 0 ∨ n ≤ j.toNatClampNeg))
    {g : JFrame} (hg : g.method = m) {rest : List Value} (hs : g.stack = .long x :: .int j :: .ref a :: rest) (hd : decode c.code g.pc = .ok (.lastore, 1)) :
    ∃ T' h', Stand p l e R s m args below meth c T' (locs ++ [⟨a, j.toNatClampNeg⟩]) cells slots ∧ T'.heap = h' ∧ Wr h h' a j.toNatClampNeg (.long x) ∧ own_AV Z h' a .long (own_js (xs.set j.toNatClampNeg x)) ∧ ∀ target, Steps p.tables e below (T'.setTop { g with pc := g.pc + 1, stack := rest }) target → Steps p.tables e below (T.setTop g) target := by
  obtain ⟨cl, A, r⟩ := A
  obtain ⟨T', h', X', e', W, st⟩ := stJ X hx hZ eT A (own_in r (by simp [own_js, hn]) hj) hg hs hd
  exact ⟨T', h', X', e', W, by have q := own_set A r W; simpa [own_js, List.map_set] using q, st⟩
theorem own_len (X : Stand p l e R s m args below meth c T locs cells slots) (hx : p.tables.exec = Jvm.exec) (hZ : Z.Warmed39 s.vm) (eT : T.heap = h) (A : own_AV Z h a ty vs) {z : Int32} (hz : vs.length.toInt32 = z)
    {g : JFrame} (hg : g.method = m) {rest : List Value} (hs : g.stack = .ref a :: rest) (hd : decode c.code g.pc = .ok (.arraylength, 1)) {target : State} (kk : Steps p.tables e below (T.setTop { g with pc := g.pc + 1, stack := .int z :: rest }) target) : Steps p.tables e below (T.setTop g) target := by
  obtain ⟨cl, A, r⟩ := A
  refine X.arraylength hx (by rw [eT]; exact A.1) (State.isArrayOf_alike hZ.alike A.2.1) hg hs hd target ?_
  rw [← Array.length_toList, r, hz]; exact kk
def own_ds (xs : List UInt64) : List Value := xs.map Value.double
theorem own_AV_newD {k : ClassId} {z : Int32} (A : Arr Z h a (newA k .double z) .double) : own_AV Z h a .double (own_ds (List.replicate z.toNatClampNeg 0)) := ⟨_, A, by simp [newA, own_ds, defaultValue]⟩
theorem own_stD (X : Stand p l e R s m args below meth c T locs cells slots) (hx : p.tables.exec = Jvm.exec) (hZ : Z.Warmed39 s.vm) (eT : T.heap = h) {xs : List UInt64} (A : own_AV Z h a .double (own_ds xs)) {j : Int32} {x : UInt64} {n : Nat} (hn : xs.length = n) (hj : ¬ (j < 0 ∨ n ≤ j.toNatClampNeg))
    {g : JFrame} (hg : g.method = m) {rest : List Value} (hs : g.stack = .double x :: .int j :: .ref a :: rest) (hd : decode c.code g.pc = .ok (.dastore, 1)) :
    ∃ T' h', Stand p l e R s m args below meth c T' (locs ++ [⟨a, j.toNatClampNeg⟩]) cells slots ∧ T'.heap = h' ∧ Wr h h' a j.toNatClampNeg (.double x) ∧ own_AV Z h' a .double (own_ds (xs.set j.toNatClampNeg x)) ∧ ∀ target, Steps p.tables e below (T'.setTop { g with pc := g.pc + 1, stack := rest }) target → Steps p.tables e below (T.setTop g) target := by
  obtain ⟨cl, A, r⟩ := A
  obtain ⟨T', h', X', e', W, st⟩ := stD X hx hZ eT A (own_in r (by simp [own_ds, hn]) hj) hg hs hd
  exact ⟨T', h', X', e', W, by have q := own_set A r W; simpa [own_ds, List.map_set] using q, st⟩
theorem own_ldD (X : Stand p l e R s m args below meth c T locs cells slots) (hx : p.tables.exec = Jvm.exec) (hZ : Z.Warmed39 s.vm) (eT : T.heap = h) {xs : List UInt64} (A : own_AV Z h a .double (own_ds xs)) {j : Int32} {n : Nat} (hn : xs.length = n) (hj : ¬ (j < 0 ∨ n ≤ j.toNatClampNeg))
    {g : JFrame} (hg : g.method = m) {rest : List Value} (hs : g.stack = .int j :: .ref a :: rest) (hd : decode c.code g.pc = .ok (.daload, 1)) {target : State} (kk : Steps p.tables e below (T.setTop { g with pc := g.pc + 1, stack := .double (xs.getD j.toNatClampNeg 0) :: rest }) target) : Steps p.tables e below (T.setTop g) target := by
  obtain ⟨cl, A, r⟩ := A
  have hlt := own_nat hj
  refine X.daload hx (by rw [eT]; exact A.1) (State.isArrayOf_alike hZ.alike A.2.1) A.2.2 (own_in r (by simp [own_ds, hn]) hj) ?_ hg hs hd _ kk
  rw [← Array.getElem?_toList, r]
  simp [own_ds, List.getD_eq_getElem?_getD, List.getElem?_eq_getElem (hn ▸ hlt)]
def own_AVk (Z : State) (h : Heap) (a : Addr) (k : ClassId) (ty : FieldType) (vs : List Value) : Prop := ∃ c : Cell, Arr Z h a c ty ∧ c.cls = k ∧ c.slots.toList = vs
variable {k : ClassId}
theorem own_AVk.lt (A : own_AVk Z h a k ty vs) : a < h.size := by obtain ⟨c, A, -⟩ := A; exact A.lt
theorem own_AVk.ext (A : own_AVk Z h a k ty vs) (E : Ext h h') : own_AVk Z h' a k ty vs := by obtain ⟨c, A, r⟩ := A; exact ⟨c, A.ext E, r⟩
theorem own_AVk.other (A : own_AVk Z h b k ty vs) (W : Wr h h' a sl v) (q : b ≠ a) : own_AVk Z h' b k ty vs := by obtain ⟨c, A, r⟩ := A; exact ⟨c, A.other W q, r⟩
theorem own_AVk.keep (A : own_AVk Z h a k ty vs) (K : Keep h h' ws) (q : a ∉ ws) : own_AVk Z h' a k ty vs := by obtain ⟨c, A, r⟩ := A; exact ⟨c, ⟨K.2.1 a c A.1 q, A.2⟩, r⟩
theorem own_AVk.av (A : own_AVk Z h a k ty vs) : own_AV Z h a ty vs := by obtain ⟨c, A, -, r⟩ := A; exact ⟨c, A, r⟩
theorem own_AVk_new {z : Int32} (A : Arr Z h a (newA k ty z) ty) : own_AVk Z h a k ty (List.replicate z.toNatClampNeg (defaultValue ty)) := ⟨_, A, rfl, by simp [newA]⟩
theorem own_stR (X : Stand p l e R s m args below meth c T locs cells slots) (hx : p.tables.exec = Jvm.exec) (hZ : Z.Warmed39 s.vm) (eT : T.heap = h) (A : own_AVk Z h a k ty vs) {j : Int32} {n : Nat} (hn : vs.length = n) (hj : ¬ (j < 0 ∨ n ≤ j.toNatClampNeg)) (hty : ty.isReference = true)
    (F : ∀ {c : Cell}, Arr Z h a c ty → c.cls = k → Sto Z h a v) {g : JFrame} (hg : g.method = m) {rest : List Value} (hs : g.stack = v :: .int j :: .ref a :: rest) (hd : decode c.code g.pc = .ok (.aastore, 1)) :
    ∃ T' h', Stand p l e R s m args below meth c T' (locs ++ [⟨a, j.toNatClampNeg⟩]) cells slots ∧ T'.heap = h' ∧ Wr h h' a j.toNatClampNeg v ∧ own_AVk Z h' a k ty (vs.set j.toNatClampNeg v) ∧ ∀ target, Steps p.tables e below (T'.setTop { g with pc := g.pc + 1, stack := rest }) target → Steps p.tables e below (T.setTop g) target := by
  obtain ⟨cl, A, q, r⟩ := A
  obtain ⟨T', h', X', e', W, st⟩ := stR X hx hZ eT A (own_in r hn hj) hty (F A q) hg hs hd
  exact ⟨T', h', X', e', W, ⟨_, A.same W, q, by simp [Cell.setSlot, ← r]⟩, st⟩
theorem own_ldR (X : Stand p l e R s m args below meth c T locs cells slots) (hx : p.tables.exec = Jvm.exec) (hZ : Z.Warmed39 s.vm) (eT : T.heap = h) (A : own_AVk Z h a k ty vs) {j : Int32} {n : Nat} (hn : vs.length = n) (hj : ¬ (j < 0 ∨ n ≤ j.toNatClampNeg)) (hty : ty.isReference = true) (hv : vs[j.toNatClampNeg]? = some v)
    {g : JFrame} (hg : g.method = m) {rest : List Value} (hs : g.stack = .int j :: .ref a :: rest) (hd : decode c.code g.pc = .ok (.aaload, 1)) {target : State} (kk : Steps p.tables e below (T.setTop { g with pc := g.pc + 1, stack := v :: rest }) target) : Steps p.tables e below (T.setTop g) target := by
  obtain ⟨cl, A, -, r⟩ := A
  exact X.aaload hx (by rw [eT]; exact A.1) (State.isArrayOf_alike hZ.alike A.2.1) hty A.2.2 (own_in r hn hj) (by rw [← Array.getElem?_toList, r]; exact hv) hg hs hd _ kk
theorem own_ldB (X : Stand p l e R s m args below meth c T locs cells slots) (hx : p.tables.exec = Jvm.exec) (hZ : Z.Warmed39 s.vm) (eT : T.heap = h) {xs : List Int32} (A : own_AV Z h a .byte (own_is xs)) {j : Int32} {n : Nat} (hn : xs.length = n) (hj : ¬ (j < 0 ∨ n ≤ j.toNatClampNeg))
    {g : JFrame} (hg : g.method = m) {rest : List Value} (hs : g.stack = .int j :: .ref a :: rest) (hd : decode c.code g.pc = .ok (.baload, 1)) {target : State} (kk : Steps p.tables e below (T.setTop { g with pc := g.pc + 1, stack := .int (xs.getD j.toNatClampNeg 0) :: rest }) target) : Steps p.tables e below (T.setTop g) target := by
  obtain ⟨cl, A, r⟩ := A
  have hlt := own_nat hj
  refine X.baloadBytes hx (by rw [eT]; exact A.1) (State.isArrayOf_alike hZ.alike A.2.1) A.2.2 (own_in r (by simp [own_is, hn]) hj) ?_ hg hs hd _ kk
  rw [← Array.getElem?_toList, r]
  simp [own_is, List.getD_eq_getElem?_getD, List.getElem?_eq_getElem (hn ▸ hlt)]
theorem own_eqI {args : Array Value} {s : State} {t : Term} {n : Int32} (q : (Jvm.Cond.eq t (Term.int n)).value args s none s [] = some true) : t.eval args s none [] s = some (.int n) := by
  obtain ⟨x, y, h1, h2, h3, h4⟩ := cmp_v (Or.inl q)
  cases h2.symm.trans (Term.int_eval n)
  obtain ⟨z, rfl⟩ := h4
  simp only [Cond.value, h1, h2] at q
  simpa [h1] using q
theorem own_AV.cell (A : own_AV Z h a ty vs) : ∃ c : Cell, h[a]? = some c ∧ ∀ q, c.vm ≠ .statics q := by obtain ⟨c, A, -⟩ := A; exact ⟨c, A.1, A.2.1.1⟩
theorem own_AVk.cell (A : own_AVk Z h a k ty vs) : ∃ c : Cell, h[a]? = some c ∧ ∀ q, c.vm ≠ .statics q := A.av.cell
theorem own_Sta_keep {C n d : String} {v : Value} (F : Sta Z h C n d v) (K : Keep h h' ws) (q : ∀ x ∈ ws, ∃ c : Cell, h[x]? = some c ∧ ∀ q, c.vm ≠ .statics q) : Sta Z h' C n d v := by
  obtain ⟨cf, i, k, f, st, cell, h1, h2, h3, h4, h5, h6, h7⟩ := F
  refine ⟨cf, i, k, f, st, cell, h1, h2, h3, h4, K.2.1 st cell h5 fun m => ?_, h6, h7⟩
  obtain ⟨c', g1, g2⟩ := q st m
  cases h5.symm.trans g1
  cases hv : cell.vm <;> first | exact g2 _ hv | (rw [hv] at h6; cases h6)
end OwnKit
abbrev own_y0 : MethodName := ⟨"com/example/attributes_to_entitlements/attributestoentitlements/Truth", "of", "(Z)Lcom/example/attributes_to_entitlements/attributestoentitlements/Truth;"⟩
abbrev own_y1 : MethodName := ⟨"java/lang/Enum", "ordinal", "()I"⟩
abbrev own_y2 : MethodName := ⟨"com/example/attributes_to_entitlements/attributestoentitlements/Truth", "ordinal", "()I"⟩
abbrev own_y3 : MethodName := ⟨"com/example/attributes_to_entitlements/attributestoentitlements/Truth", "not", "()Lcom/example/attributes_to_entitlements/attributestoentitlements/Truth;"⟩
abbrev own_y4 : MethodName := ⟨"java/lang/Enum", "compareTo", "(Ljava/lang/Enum;)I"⟩
abbrev own_y5 : MethodName := ⟨"com/example/attributes_to_entitlements/attributestoentitlements/Truth", "compareTo", "(Ljava/lang/Enum;)I"⟩
abbrev own_y6 : MethodName := ⟨"com/example/attributes_to_entitlements/attributestoentitlements/Truth", "and", "(Lcom/example/attributes_to_entitlements/attributestoentitlements/Truth;)Lcom/example/attributes_to_entitlements/attributestoentitlements/Truth;"⟩
abbrev own_y7 : MethodName := ⟨"com/example/attributes_to_entitlements/attributestoentitlements/Truth", "or", "(Lcom/example/attributes_to_entitlements/attributestoentitlements/Truth;)Lcom/example/attributes_to_entitlements/attributestoentitlements/Truth;"⟩

def own_Mir (Z : State) (C : String) (mr : Addr) : Prop := ∃ (c : ClassId) (k : Class), Z.vm.findClass C = some c ∧ Z.vm.classes[c]? = some k ∧ k.mirror = some mr
theorem own_gcls {p : Program} {l : Launch} {e : Env} {R : Room} {s : State} {m : MethodId} {args : Array Value} {below : List Frame} {meth : Method} {c : Code} {T : State} {locs : List Loc} {cells slots : Nat} {Z : State} {a0 : Array Value} {h : Heap} {a : Addr}
    (X : Stand p l e R s m args below meth c T locs cells slots) (hx : p.tables.exec = Jvm.exec) (hZ : Z.Warmed39 s.vm) {own C : String} {index : Nat} (hown : s.vm.findClass own = some m.cls)
    (w1 : (Cond.methodLink own index Jvm.Stand.gcN).before a0 Z = true) (w2 : (Cond.declares Jvm.Stand.gcN).before a0 Z = true) (w4 : (Cond.selects C Jvm.Stand.gcN Jvm.Stand.gcN).before a0 Z = true) (w5 : (Cond.instanceMethod Jvm.Stand.gcN).before a0 Z = true) (w6 : (Cond.native Jvm.Stand.gcN).before a0 Z = true) (eT : T.heap = h) (E : Exa Z h a C) {mr : Addr} (M : own_Mir Z C mr)
    {g : JFrame} (hg : g.method = m) (hsize : g.locals.size = c.maxLocals) {rest : List Value} (hs : g.stack = .ref a :: rest) (hd : decode c.code g.pc = .ok (.invokevirtual index, 3)) (hf : 1 ≤ R.frames) {W : Nat} (hW : 2 * g.monitorRoom + (rest.map fun v => v.category).sum ≤ W) (hl : W + 14 ≤ R.locals) :
    ∃ T', Stand p l e R s m args below meth c T' locs cells slots ∧ T'.heap = h ∧ ∀ target, Steps p.tables e below (T'.setTop { g with pc := g.pc + 3, stack := .ref mr :: rest }) target → Steps p.tables e below (T.setTop g) target := by
  obtain ⟨cB, kB, i1, i2, i3⟩ := isOf hZ eT E
  obtain ⟨cc, kc, m1, m2, m3⟩ := M
  have i4 := i1
  rw [hZ.alike.findClass] at i4
  cases i4.symm.trans m1
  obtain ⟨k', q, ek⟩ := hZ.alike.2.2 _ _ m2
  have hk : k'.mirror = some mr := by rw [ek]; exact m3
  have hlw : 2 * g.monitorRoom + (rest.map fun v => v.category).sum + (nativeFrameWords "java/lang/Object" "getClass" 1 + 11) ≤ R.locals := by
    have : nativeFrameWords "java/lang/Object" "getClass" 1 = 3 := by decide
    omega
  obtain ⟨vm', X', st⟩ := X.getClassOf hx hown (mvT hZ w1) (mvT hZ w2) (notFace_of_selects (args := #[]) (mvT hZ w4)) (mvT hZ w4) (mvT hZ w5) (mvT hZ w6) i1 i3 q hk hg hsize hs hd hf hlw
  exact ⟨_, X', eT, st⟩
theorem d1_0 : decode prog_15_method_4_code 0 = .ok (.iload_n 0, 1) := by decide +kernel
theorem d1_1 : decode prog_15_method_4_code 1 = .ok (.ifCond .eq 9, 3) := by decide +kernel
theorem d1_10 : decode prog_15_method_4_code 10 = .ok (.getstatic 3, 3) := by decide +kernel
theorem d1_13 : decode prog_15_method_4_code 13 = .ok (.areturn, 1) := by decide +kernel
theorem pn_com_example_attributes_to_entitlements_attributestoentitlements_Truth : plainName "com/example/attributes_to_entitlements/attributestoentitlements/Truth" = true := by first | (simp [plainName, overriddenIn]; done) | decide +kernel
theorem ef_1_I (m : MethodId) (x0 : Int32) : entryFrame m #[(.int x0)] 1 = mkF m 0 #[iv x0] [] := by first | (simp [entryFrame, mkF, argsToLocals, Value.category]; done) | rfl
def Qrm_of0 (Z : State) (a_FALSE : Addr) (h0 : Heap) (n0 : Nat) (v : Option Value) (h : Heap) (L : List Loc) : Prop := v = some (.ref a_FALSE) ∧ Fr n0 L ∧ h = h0
set_option maxRecDepth 65536 in
set_option maxHeartbeats 40000000 in
theorem rm_of0 (l : Launch) (Z : State) (a0 : Array Value) (hw : ∀ d ∈ tables_1, d.before a0 Z = true) (ws : List Jvm.Cond) (a_FALSE : Addr) (h0 : Heap) (n0 : Nat) (Z0 : n0 ≤ h0.size) (Sa_FALSE : Sta Z h0 "com/example/attributes_to_entitlements/attributestoentitlements/Truth" "FALSE" "Lcom/example/attributes_to_entitlements/attributestoentitlements/Truth;" (.ref a_FALSE)) :
    MetFree l own_y0 (head1 (Jvm.Cond.code own_y0 prog_15_method_4_code 1 (some (.object "com/example/attributes_to_entitlements/attributestoentitlements/Truth")) :: ws) ({ frames := 0, cells := 0, slots := 0, locals := 0 } : Room)) (fun a U => a = #[(.int (0 : Int32))] ∧ Z.Warmed39 U.vm ∧ U.heap = h0) (fun _ _ _ _ _ => True) (fun _ U o U' => ∃ v L, o = .returned v ∧ Qrm_of0 Z a_FALSE h0 n0 v U'.heap L ∧ FrameEnd U o U' L ({ frames := 0, cells := 0, slots := 0, locals := 0 } : Room).cells ({ frames := 0, cells := 0, slots := 0, locals := 0 } : Room).slots) := by
  refine MetFree.of_bodySF (plainFor_of_name pn_com_example_attributes_to_entitlements_attributestoentitlements_Truth) hisR ?_
  intro p e s m args below meth c s₁ Bd hml0 hP hK
  obtain ⟨rfl, hZ, hh⟩ := hP
  have hx := Bd.exec
  have hby := Bd.bytes
  have hml : c.maxLocals = 1 := hml0
  have hown : s.vm.findClass "com/example/attributes_to_entitlements/attributestoentitlements/Truth" = some m.cls := findClass_of_methodNamed Bd.named
  have hnm := (name_of_methodNamed Bd.named Bd.method).1
  have X0 : Stand p l e ({ frames := 0, cells := 0, slots := 0, locals := 0 } : Room) s m #[(.int (0 : Int32))] below meth c s₁ [] 0 0 := Stand.of_body Bd
  have e0 : s₁.heap = h0 := by rw [← hh, Bd.state]; rfl
  have N0 := Fr.nil n0
  have K0 : Keep h0 h0 [] := Keep.refl _ _
  refine own_start (Qk := Qrm_of0 Z a_FALSE h0 n0) (fun G hG => ?_)
  refine own_st (fun _ k => castTop (ef_1_I m (0 : Int32)) k) ?_
  show own_Fin p e below G (s₁.setTop (mkF m 0 #[iv (0 : Int32)] []))
  refine own_st (fun _ k => XS.iloadN X0.here hx rfl (hb hby d1_0) rfl  k) ?_
  show own_Fin p e below G (s₁.setTop (mkF m 1 #[iv (0 : Int32)] [(.int (0 : Int32))]))
  refine own_st (fun _ k => XS.ifYes X0.here hx rfl (pc0 := 1) (pc' := 10) rfl (hb hby d1_1) rfl ((if0 _ _).trans (teq (by decide : ((0 : Int32) = (0 : Int32)))).1) (by decide) (by decide) k) ?_
  show own_Fin p e below G (s₁.setTop (mkF m 10 #[iv (0 : Int32)] []))
  obtain ⟨T1, X1, e1, st1⟩ := getS2 X0 hx hZ hown (host := "") (Or.inl (own_w hw 4 rfl)) Via.refl e0 Sa_FALSE (g := (mkF m 10 #[iv (0 : Int32)] [])) rfl (hb hby d1_10)
  refine own_st st1 ?_
  show own_Fin p e below G (T1.setTop (mkF m 13 #[iv (0 : Int32)] [(.ref a_FALSE)]))
  refine own_out X1 Bd.notSynchronized (v := (some (.ref a_FALSE))) (fun h => by rw [Bd.returns] at h; cases h) hG (fun fs hr => retOut X1 hx Bd.returns rfl (Or.inr (Or.inr (Or.inr (Or.inr ⟨rfl, rfl, rfl⟩)))) (hb hby d1_13) hr) (by decide) (by decide) ?_
  exact ⟨rfl, N0, e1⟩

theorem d1_4 : decode prog_15_method_4_code 4 = .ok (.getstatic 10, 3) := by decide +kernel
theorem d1_7 : decode prog_15_method_4_code 7 = .ok (.goto 6, 3) := by decide +kernel
def Qrm_of1 (Z : State) (a_TRUE : Addr) (h0 : Heap) (n0 : Nat) (v : Option Value) (h : Heap) (L : List Loc) : Prop := v = some (.ref a_TRUE) ∧ Fr n0 L ∧ h = h0
set_option maxRecDepth 65536 in
set_option maxHeartbeats 40000000 in
theorem rm_of1 (l : Launch) (Z : State) (a0 : Array Value) (hw : ∀ d ∈ tables_1, d.before a0 Z = true) (ws : List Jvm.Cond) (a_TRUE : Addr) (h0 : Heap) (n0 : Nat) (Z0 : n0 ≤ h0.size) (Sa_TRUE : Sta Z h0 "com/example/attributes_to_entitlements/attributestoentitlements/Truth" "TRUE" "Lcom/example/attributes_to_entitlements/attributestoentitlements/Truth;" (.ref a_TRUE)) :
    MetFree l own_y0 (head1 (Jvm.Cond.code own_y0 prog_15_method_4_code 1 (some (.object "com/example/attributes_to_entitlements/attributestoentitlements/Truth")) :: ws) ({ frames := 0, cells := 0, slots := 0, locals := 0 } : Room)) (fun a U => a = #[(.int (1 : Int32))] ∧ Z.Warmed39 U.vm ∧ U.heap = h0) (fun _ _ _ _ _ => True) (fun _ U o U' => ∃ v L, o = .returned v ∧ Qrm_of1 Z a_TRUE h0 n0 v U'.heap L ∧ FrameEnd U o U' L ({ frames := 0, cells := 0, slots := 0, locals := 0 } : Room).cells ({ frames := 0, cells := 0, slots := 0, locals := 0 } : Room).slots) := by
  refine MetFree.of_bodySF (plainFor_of_name pn_com_example_attributes_to_entitlements_attributestoentitlements_Truth) hisR ?_
  intro p e s m args below meth c s₁ Bd hml0 hP hK
  obtain ⟨rfl, hZ, hh⟩ := hP
  have hx := Bd.exec
  have hby := Bd.bytes
  have hml : c.maxLocals = 1 := hml0
  have hown : s.vm.findClass "com/example/attributes_to_entitlements/attributestoentitlements/Truth" = some m.cls := findClass_of_methodNamed Bd.named
  have hnm := (name_of_methodNamed Bd.named Bd.method).1
  have X0 : Stand p l e ({ frames := 0, cells := 0, slots := 0, locals := 0 } : Room) s m #[(.int (1 : Int32))] below meth c s₁ [] 0 0 := Stand.of_body Bd
  have e0 : s₁.heap = h0 := by rw [← hh, Bd.state]; rfl
  have N0 := Fr.nil n0
  have K0 : Keep h0 h0 [] := Keep.refl _ _
  refine own_start (Qk := Qrm_of1 Z a_TRUE h0 n0) (fun G hG => ?_)
  refine own_st (fun _ k => castTop (ef_1_I m (1 : Int32)) k) ?_
  show own_Fin p e below G (s₁.setTop (mkF m 0 #[iv (1 : Int32)] []))
  refine own_st (fun _ k => XS.iloadN X0.here hx rfl (hb hby d1_0) rfl  k) ?_
  show own_Fin p e below G (s₁.setTop (mkF m 1 #[iv (1 : Int32)] [(.int (1 : Int32))]))
  refine own_st (fun _ k => XS.ifNo X0.here hx rfl (hb hby d1_1) rfl ((if0 _ _).trans (feq (by decide : ¬ ((1 : Int32) = (0 : Int32)))).1) k) ?_
  show own_Fin p e below G (s₁.setTop (mkF m 4 #[iv (1 : Int32)] []))
  obtain ⟨T2, X2, e2, st2⟩ := getS2 X0 hx hZ hown (host := "") (Or.inl (own_w hw 6 rfl)) Via.refl e0 Sa_TRUE (g := (mkF m 4 #[iv (1 : Int32)] [])) rfl (hb hby d1_4)
  refine own_st st2 ?_
  show own_Fin p e below G (T2.setTop (mkF m 7 #[iv (1 : Int32)] [(.ref a_TRUE)]))
  refine own_st (fun _ k => XS.goto X2.here hx rfl (pc0 := 7) (pc' := 13) rfl (hb hby d1_7) (by decide) (by decide) k) ?_
  show own_Fin p e below G (T2.setTop (mkF m 13 #[iv (1 : Int32)] [(.ref a_TRUE)]))
  refine own_out X2 Bd.notSynchronized (v := (some (.ref a_TRUE))) (fun h => by rw [Bd.returns] at h; cases h) hG (fun fs hr => retOut X2 hx Bd.returns rfl (Or.inr (Or.inr (Or.inr (Or.inr ⟨rfl, rfl, rfl⟩)))) (hb hby d1_13) hr) (by decide) (by decide) ?_
  exact ⟨rfl, N0, e2⟩

theorem d3_0 : decode jdk_37_method_2_code 0 = .ok (.aload_n 0, 1) := by decide +kernel
theorem d3_1 : decode jdk_37_method_2_code 1 = .ok (.getfield 7, 3) := by decide +kernel
theorem d3_4 : decode jdk_37_method_2_code 4 = .ok (.ireturn, 1) := by decide +kernel
theorem pn_java_lang_Enum : plainName "java/lang/Enum" = true := by first | (simp [plainName, overriddenIn]; done) | decide +kernel
theorem ef_3_R (m : MethodId) (x0 : Addr) : entryFrame m #[(.ref x0)] 1 = mkF m 0 #[rv x0] [] := by first | (simp [entryFrame, mkF, argsToLocals, Value.category]; done) | rfl
def Qrm_ord (Z : State) (a1 : Addr) (p1 : Int32) (h0 : Heap) (n0 : Nat) (v : Option Value) (h : Heap) (L : List Loc) : Prop := v = some (.int p1) ∧ Fr n0 L ∧ h = h0
set_option maxRecDepth 65536 in
set_option maxHeartbeats 40000000 in
theorem rm_ord (l : Launch) (Z : State) (a0 : Array Value) (hw : ∀ d ∈ tables_1, d.before a0 Z = true) (ws : List Jvm.Cond) (a1 : Addr) (p1 : Int32) (h0 : Heap) (n0 : Nat) (Z0 : n0 ≤ h0.size) (F1 : Fld Z h0 a1 "java/lang/Enum" "ordinal" "I" (.int p1)) :
    MetFree l own_y1 (head1 (Jvm.Cond.code own_y1 jdk_37_method_2_code 1 (some .int) :: ws) ({ frames := 0, cells := 0, slots := 0, locals := 0 } : Room)) (fun a U => a = #[(.ref a1)] ∧ Z.Warmed39 U.vm ∧ U.heap = h0) (fun _ _ _ _ _ => True) (fun _ U o U' => ∃ v L, o = .returned v ∧ Qrm_ord Z a1 p1 h0 n0 v U'.heap L ∧ FrameEnd U o U' L ({ frames := 0, cells := 0, slots := 0, locals := 0 } : Room).cells ({ frames := 0, cells := 0, slots := 0, locals := 0 } : Room).slots) := by
  refine MetFree.of_bodySF (plainFor_of_name pn_java_lang_Enum) hisR ?_
  intro p e s m args below meth c s₁ Bd hml0 hP hK
  obtain ⟨rfl, hZ, hh⟩ := hP
  have hx := Bd.exec
  have hby := Bd.bytes
  have hml : c.maxLocals = 1 := hml0
  have hown : s.vm.findClass "java/lang/Enum" = some m.cls := findClass_of_methodNamed Bd.named
  have hnm := (name_of_methodNamed Bd.named Bd.method).1
  have X0 : Stand p l e ({ frames := 0, cells := 0, slots := 0, locals := 0 } : Room) s m #[(.ref a1)] below meth c s₁ [] 0 0 := Stand.of_body Bd
  have e0 : s₁.heap = h0 := by rw [← hh, Bd.state]; rfl
  have N0 := Fr.nil n0
  have K0 : Keep h0 h0 [] := Keep.refl _ _
  refine own_start (Qk := Qrm_ord Z a1 p1 h0 n0) (fun G hG => ?_)
  refine own_st (fun _ k => castTop (ef_3_R m a1) k) ?_
  show own_Fin p e below G (s₁.setTop (mkF m 0 #[rv a1] []))
  refine own_st (fun _ k => XS.aloadN X0.here hx rfl (hb hby d3_0) rfl rfl k) ?_
  show own_Fin p e below G (s₁.setTop (mkF m 1 #[rv a1] [(.ref a1)]))
  obtain ⟨T3, X3, e3, st3⟩ := getF X0 hx hZ hown (host := "") (Or.inl (own_w hw 24 rfl)) Via.refl e0 F1 (g := (mkF m 1 #[rv a1] [(.ref a1)])) rfl rfl (hb hby d3_1)
  refine own_st st3 ?_
  show own_Fin p e below G (T3.setTop (mkF m 4 #[rv a1] [(.int p1)]))
  refine own_out X3 Bd.notSynchronized (v := (some (.int p1))) (fun h => by rw [Bd.returns] at h; cases h) hG (fun fs hr => retOut X3 hx Bd.returns rfl (Or.inl ⟨rfl, Or.inl rfl, _, rfl⟩) (hb hby d3_4) hr) (by decide) (by decide) ?_
  exact ⟨rfl, N0, e3⟩

theorem d2_0 : decode prog_15_method_5_code 0 = .ok (.aload_n 0, 1) := by decide +kernel
theorem d2_1 : decode prog_15_method_5_code 1 = .ok (.invokevirtual 32, 3) := by decide +kernel
theorem pd___I_154 : parseMethodDescriptor "()I" = some ⟨[], some .int⟩ := by decide +kernel
theorem d2_4 : decode prog_15_method_5_code 4 = .ok (.tableswitch 28 0 2 #[38, 44, 50], 28) := by decide +kernel
theorem d2_42 : decode prog_15_method_5_code 42 = .ok (.getstatic 10, 3) := by decide +kernel
theorem d2_45 : decode prog_15_method_5_code 45 = .ok (.goto 12, 3) := by decide +kernel
theorem d2_57 : decode prog_15_method_5_code 57 = .ok (.areturn, 1) := by decide +kernel
theorem ef_2_R (m : MethodId) (x0 : Addr) : entryFrame m #[(.ref x0)] 1 = mkF m 0 #[rv x0] [] := by first | (simp [entryFrame, mkF, argsToLocals, Value.category]; done) | rfl
def Qrm_not0 (Z : State) (a1 : Addr) (a_TRUE : Addr) (h0 : Heap) (n0 : Nat) (v : Option Value) (h : Heap) (L : List Loc) : Prop := v = some (.ref a_TRUE) ∧ Fr n0 L ∧ h = h0
set_option maxRecDepth 65536 in
set_option maxHeartbeats 40000000 in
theorem rm_not0 (l : Launch) (Z : State) (a0 : Array Value) (hw : ∀ d ∈ tables_1, d.before a0 Z = true) (ws : List Jvm.Cond) (a1 : Addr) (a_TRUE : Addr) (h0 : Heap) (n0 : Nat) (Z0 : n0 ≤ h0.size) (E1 : Exa Z h0 a1 "com/example/attributes_to_entitlements/attributestoentitlements/Truth") (F1 : Fld Z h0 a1 "java/lang/Enum" "ordinal" "I" (.int (0 : Int32))) (Sa_TRUE : Sta Z h0 "com/example/attributes_to_entitlements/attributestoentitlements/Truth" "TRUE" "Lcom/example/attributes_to_entitlements/attributestoentitlements/Truth;" (.ref a_TRUE)) :
    MetFree l own_y3 (head1 (Jvm.Cond.code own_y3 prog_15_method_5_code 1 (some (.object "com/example/attributes_to_entitlements/attributestoentitlements/Truth")) :: ws) ({ frames := 1, cells := 0, slots := 0, locals := 12 } : Room)) (fun a U => a = #[(.ref a1)] ∧ Z.Warmed39 U.vm ∧ U.heap = h0) (fun _ _ _ _ _ => True) (fun _ U o U' => ∃ v L, o = .returned v ∧ Qrm_not0 Z a1 a_TRUE h0 n0 v U'.heap L ∧ FrameEnd U o U' L ({ frames := 1, cells := 0, slots := 0, locals := 12 } : Room).cells ({ frames := 1, cells := 0, slots := 0, locals := 12 } : Room).slots) := by
  refine MetFree.of_bodySF (plainFor_of_name pn_com_example_attributes_to_entitlements_attributestoentitlements_Truth) hisR ?_
  intro p e s m args below meth c s₁ Bd hml0 hP hK
  obtain ⟨rfl, hZ, hh⟩ := hP
  have hx := Bd.exec
  have hby := Bd.bytes
  have hml : c.maxLocals = 1 := hml0
  have hown : s.vm.findClass "com/example/attributes_to_entitlements/attributestoentitlements/Truth" = some m.cls := findClass_of_methodNamed Bd.named
  have hnm := (name_of_methodNamed Bd.named Bd.method).1
  have X0 : Stand p l e ({ frames := 1, cells := 0, slots := 0, locals := 12 } : Room) s m #[(.ref a1)] below meth c s₁ [] 0 0 := Stand.of_body Bd
  have e0 : s₁.heap = h0 := by rw [← hh, Bd.state]; rfl
  have N0 := Fr.nil n0
  have K0 : Keep h0 h0 [] := Keep.refl _ _
  refine own_start (Qk := Qrm_not0 Z a1 a_TRUE h0 n0) (fun G hG => ?_)
  refine own_st (fun _ k => castTop (ef_2_R m a1) k) ?_
  show own_Fin p e below G (s₁.setTop (mkF m 0 #[rv a1] []))
  refine own_st (fun _ k => XS.aloadN X0.here hx rfl (hb hby d2_0) rfl rfl k) ?_
  show own_Fin p e below G (s₁.setTop (mkF m 1 #[rv a1] [(.ref a1)]))
  obtain ⟨cq4, kq4, q4a, q4b, q4c⟩ := isOf hZ e0 E1
  obtain ⟨_, _, ⟨T4, L4, k4, n4⟩, -, X4, ⟨Lc4, hQ4, l4, y4, z4⟩, st4⟩ := X0.virtualBackUp hx (x := own_y2) (y := own_y1) (owner := "java/lang/Enum") hown (mvT hZ (own_w hw 17 rfl)) (mvT hZ (own_w hw 18 rfl)) (mvT hZ (own_w hw 19 rfl)) (by decide) (mvT hZ (own_w hw 21 rfl)) (mvT hZ (own_w hw 20 rfl)) (backOf (W := 0) (rm_ord l Z a0 hw [] a1 (0 : Int32) h0 n0 (Nat.le_trans Z0 K0.1) F1) hZ (own_w hw 23 rfl) (own_w hw 22 rfl) (by decide) (by decide)) q4a q4c (g := (mkF m 1 #[rv a1] [(.ref a1)])) rfl (by rw [hml]; rfl) (Steps.refl _) (argsL := []) (rest := []) (lenOf pd___I_154 rfl) rfl (by show 2 * 0 + _ ≤ _; exact Nat.le_of_eq rfl) (hb hby d2_1) (fun _ _ => ⟨rfl, e0, (by decide : 0 + 0 ≤ _), (by decide : 0 + 0 ≤ _)⟩)
  dsimp only [Pt.U, Pt.locs, Pt.cells, Pt.slots] at X4 l4 y4 z4 st4 hQ4
  subst l4 y4 z4
  obtain ⟨rfl, N4q, e4⟩ := hQ4
  skip
  have N4 := Fr.app N0 N4q
  refine own_tr st4 ?_
  show own_Fin p e below G (T4.setTop (mkF m 4 #[rv a1] [(.int (0 : Int32))]))
  refine own_st (fun _ k => XS.tswIn X4.here hx rfl (pc0 := 4) (pc' := 42) rfl (hb hby d2_4) rfl (by decide) (o := 38) (by decide) (by decide) (by decide) k) ?_
  show own_Fin p e below G (T4.setTop (mkF m 42 #[rv a1] []))
  obtain ⟨T5, X5, e5, st5⟩ := getS2 X4 hx hZ hown (host := "") (Or.inl (own_w hw 6 rfl)) Via.refl e4 Sa_TRUE (g := (mkF m 42 #[rv a1] [])) rfl (hb hby d2_42)
  refine own_st st5 ?_
  show own_Fin p e below G (T5.setTop (mkF m 45 #[rv a1] [(.ref a_TRUE)]))
  refine own_st (fun _ k => XS.goto X5.here hx rfl (pc0 := 45) (pc' := 57) rfl (hb hby d2_45) (by decide) (by decide) k) ?_
  show own_Fin p e below G (T5.setTop (mkF m 57 #[rv a1] [(.ref a_TRUE)]))
  refine own_out X5 Bd.notSynchronized (v := (some (.ref a_TRUE))) (fun h => by rw [Bd.returns] at h; cases h) hG (fun fs hr => retOut X5 hx Bd.returns rfl (Or.inr (Or.inr (Or.inr (Or.inr ⟨rfl, rfl, rfl⟩)))) (hb hby d2_57) hr) (by decide) (by decide) ?_
  exact ⟨rfl, N4, e5⟩

theorem d2_54 : decode prog_15_method_5_code 54 = .ok (.getstatic 3, 3) := by decide +kernel
def Qrm_not2 (Z : State) (a1 : Addr) (a_FALSE : Addr) (h0 : Heap) (n0 : Nat) (v : Option Value) (h : Heap) (L : List Loc) : Prop := v = some (.ref a_FALSE) ∧ Fr n0 L ∧ h = h0
set_option maxRecDepth 65536 in
set_option maxHeartbeats 40000000 in
theorem rm_not2 (l : Launch) (Z : State) (a0 : Array Value) (hw : ∀ d ∈ tables_1, d.before a0 Z = true) (ws : List Jvm.Cond) (a1 : Addr) (a_FALSE : Addr) (h0 : Heap) (n0 : Nat) (Z0 : n0 ≤ h0.size) (E1 : Exa Z h0 a1 "com/example/attributes_to_entitlements/attributestoentitlements/Truth") (F1 : Fld Z h0 a1 "java/lang/Enum" "ordinal" "I" (.int (2 : Int32))) (Sa_FALSE : Sta Z h0 "com/example/attributes_to_entitlements/attributestoentitlements/Truth" "FALSE" "Lcom/example/attributes_to_entitlements/attributestoentitlements/Truth;" (.ref a_FALSE)) :
    MetFree l own_y3 (head1 (Jvm.Cond.code own_y3 prog_15_method_5_code 1 (some (.object "com/example/attributes_to_entitlements/attributestoentitlements/Truth")) :: ws) ({ frames := 1, cells := 0, slots := 0, locals := 12 } : Room)) (fun a U => a = #[(.ref a1)] ∧ Z.Warmed39 U.vm ∧ U.heap = h0) (fun _ _ _ _ _ => True) (fun _ U o U' => ∃ v L, o = .returned v ∧ Qrm_not2 Z a1 a_FALSE h0 n0 v U'.heap L ∧ FrameEnd U o U' L ({ frames := 1, cells := 0, slots := 0, locals := 12 } : Room).cells ({ frames := 1, cells := 0, slots := 0, locals := 12 } : Room).slots) := by
  refine MetFree.of_bodySF (plainFor_of_name pn_com_example_attributes_to_entitlements_attributestoentitlements_Truth) hisR ?_
  intro p e s m args below meth c s₁ Bd hml0 hP hK
  obtain ⟨rfl, hZ, hh⟩ := hP
  have hx := Bd.exec
  have hby := Bd.bytes
  have hml : c.maxLocals = 1 := hml0
  have hown : s.vm.findClass "com/example/attributes_to_entitlements/attributestoentitlements/Truth" = some m.cls := findClass_of_methodNamed Bd.named
  have hnm := (name_of_methodNamed Bd.named Bd.method).1
  have X0 : Stand p l e ({ frames := 1, cells := 0, slots := 0, locals := 12 } : Room) s m #[(.ref a1)] below meth c s₁ [] 0 0 := Stand.of_body Bd
  have e0 : s₁.heap = h0 := by rw [← hh, Bd.state]; rfl
  have N0 := Fr.nil n0
  have K0 : Keep h0 h0 [] := Keep.refl _ _
  refine own_start (Qk := Qrm_not2 Z a1 a_FALSE h0 n0) (fun G hG => ?_)
  refine own_st (fun _ k => castTop (ef_2_R m a1) k) ?_
  show own_Fin p e below G (s₁.setTop (mkF m 0 #[rv a1] []))
  refine own_st (fun _ k => XS.aloadN X0.here hx rfl (hb hby d2_0) rfl rfl k) ?_
  show own_Fin p e below G (s₁.setTop (mkF m 1 #[rv a1] [(.ref a1)]))
  obtain ⟨cq6, kq6, q6a, q6b, q6c⟩ := isOf hZ e0 E1
  obtain ⟨_, _, ⟨T6, L6, k6, n6⟩, -, X6, ⟨Lc6, hQ6, l6, y6, z6⟩, st6⟩ := X0.virtualBackUp hx (x := own_y2) (y := own_y1) (owner := "java/lang/Enum") hown (mvT hZ (own_w hw 17 rfl)) (mvT hZ (own_w hw 18 rfl)) (mvT hZ (own_w hw 19 rfl)) (by decide) (mvT hZ (own_w hw 21 rfl)) (mvT hZ (own_w hw 20 rfl)) (backOf (W := 0) (rm_ord l Z a0 hw [] a1 (2 : Int32) h0 n0 (Nat.le_trans Z0 K0.1) F1) hZ (own_w hw 23 rfl) (own_w hw 22 rfl) (by decide) (by decide)) q6a q6c (g := (mkF m 1 #[rv a1] [(.ref a1)])) rfl (by rw [hml]; rfl) (Steps.refl _) (argsL := []) (rest := []) (lenOf pd___I_154 rfl) rfl (by show 2 * 0 + _ ≤ _; exact Nat.le_of_eq rfl) (hb hby d2_1) (fun _ _ => ⟨rfl, e0, (by decide : 0 + 0 ≤ _), (by decide : 0 + 0 ≤ _)⟩)
  dsimp only [Pt.U, Pt.locs, Pt.cells, Pt.slots] at X6 l6 y6 z6 st6 hQ6
  subst l6 y6 z6
  obtain ⟨rfl, N6q, e6⟩ := hQ6
  skip
  have N6 := Fr.app N0 N6q
  refine own_tr st6 ?_
  show own_Fin p e below G (T6.setTop (mkF m 4 #[rv a1] [(.int (2 : Int32))]))
  refine own_st (fun _ k => XS.tswIn X6.here hx rfl (pc0 := 4) (pc' := 54) rfl (hb hby d2_4) rfl (by decide) (o := 50) (by decide) (by decide) (by decide) k) ?_
  show own_Fin p e below G (T6.setTop (mkF m 54 #[rv a1] []))
  obtain ⟨T7, X7, e7, st7⟩ := getS2 X6 hx hZ hown (host := "") (Or.inl (own_w hw 4 rfl)) Via.refl e6 Sa_FALSE (g := (mkF m 54 #[rv a1] [])) rfl (hb hby d2_54)
  refine own_st st7 ?_
  show own_Fin p e below G (T7.setTop (mkF m 57 #[rv a1] [(.ref a_FALSE)]))
  refine own_out X7 Bd.notSynchronized (v := (some (.ref a_FALSE))) (fun h => by rw [Bd.returns] at h; cases h) hG (fun fs hr => retOut X7 hx Bd.returns rfl (Or.inr (Or.inr (Or.inr (Or.inr ⟨rfl, rfl, rfl⟩)))) (hb hby d2_57) hr) (by decide) (by decide) ?_
  exact ⟨rfl, N6, e7⟩

theorem d5_0 : decode jdk_37_method_8_code 0 = .ok (.aload_n 1, 1) := by decide +kernel
theorem d5_1 : decode jdk_37_method_8_code 1 = .ok (.astore_n 2, 1) := by decide +kernel
theorem d5_2 : decode jdk_37_method_8_code 2 = .ok (.aload_n 0, 1) := by decide +kernel
theorem d5_3 : decode jdk_37_method_8_code 3 = .ok (.astore_n 3, 1) := by decide +kernel
theorem d5_4 : decode jdk_37_method_8_code 4 = .ok (.aload_n 3, 1) := by decide +kernel
theorem d5_5 : decode jdk_37_method_8_code 5 = .ok (.invokevirtual 29, 3) := by decide +kernel
theorem d5_8 : decode jdk_37_method_8_code 8 = .ok (.aload_n 2, 1) := by decide +kernel
theorem d5_9 : decode jdk_37_method_8_code 9 = .ok (.invokevirtual 29, 3) := by decide +kernel
theorem d5_12 : decode jdk_37_method_8_code 12 = .ok (.if_acmp .eq 22, 3) := by decide +kernel
theorem d5_34 : decode jdk_37_method_8_code 34 = .ok (.aload_n 3, 1) := by decide +kernel
theorem d5_35 : decode jdk_37_method_8_code 35 = .ok (.getfield 7, 3) := by decide +kernel
theorem d5_38 : decode jdk_37_method_8_code 38 = .ok (.aload_n 2, 1) := by decide +kernel
theorem d5_39 : decode jdk_37_method_8_code 39 = .ok (.getfield 7, 3) := by decide +kernel
theorem d5_42 : decode jdk_37_method_8_code 42 = .ok (.isub, 1) := by decide +kernel
theorem d5_43 : decode jdk_37_method_8_code 43 = .ok (.ireturn, 1) := by decide +kernel
theorem ef_5_RR (m : MethodId) (x0 : Addr) (x1 : Addr) : entryFrame m #[(.ref x0), (.ref x1)] 4 = mkF m 0 #[rv x0, rv x1, .unset, .unset] [] := by first | (simp [entryFrame, mkF, argsToLocals, Value.category]; done) | rfl
def Qrm_cmp (Z : State) (a1 : Addr) (a2 : Addr) (p1 : Int32) (p2 : Int32) (mr : Addr) (h0 : Heap) (n0 : Nat) (v : Option Value) (h : Heap) (L : List Loc) : Prop := v = some (.int (p1 - p2)) ∧ Fr n0 L ∧ h = h0
set_option maxRecDepth 65536 in
set_option maxHeartbeats 40000000 in
theorem rm_cmp (l : Launch) (Z : State) (a0 : Array Value) (hw : ∀ d ∈ tables_1, d.before a0 Z = true) (ws : List Jvm.Cond) (a1 : Addr) (a2 : Addr) (p1 : Int32) (p2 : Int32) (mr : Addr) (h0 : Heap) (n0 : Nat) (Z0 : n0 ≤ h0.size) (E1 : Exa Z h0 a1 "com/example/attributes_to_entitlements/attributestoentitlements/Truth") (E2 : Exa Z h0 a2 "com/example/attributes_to_entitlements/attributestoentitlements/Truth") (F1 : Fld Z h0 a1 "java/lang/Enum" "ordinal" "I" (.int p1)) (F2 : Fld Z h0 a2 "java/lang/Enum" "ordinal" "I" (.int p2)) (M : own_Mir Z "com/example/attributes_to_entitlements/attributestoentitlements/Truth" mr) :
    MetFree l own_y4 (head1 (Jvm.Cond.code own_y4 jdk_37_method_8_code 4 (some .int) :: ws) ({ frames := 1, cells := 0, slots := 0, locals := 15 } : Room)) (fun a U => a = #[(.ref a1), (.ref a2)] ∧ Z.Warmed39 U.vm ∧ U.heap = h0) (fun _ _ _ _ _ => True) (fun _ U o U' => ∃ v L, o = .returned v ∧ Qrm_cmp Z a1 a2 p1 p2 mr h0 n0 v U'.heap L ∧ FrameEnd U o U' L ({ frames := 1, cells := 0, slots := 0, locals := 15 } : Room).cells ({ frames := 1, cells := 0, slots := 0, locals := 15 } : Room).slots) := by
  refine MetFree.of_bodySF (plainFor_of_name pn_java_lang_Enum) hisR ?_
  intro p e s m args below meth c s₁ Bd hml0 hP hK
  obtain ⟨rfl, hZ, hh⟩ := hP
  have hx := Bd.exec
  have hby := Bd.bytes
  have hml : c.maxLocals = 4 := hml0
  have hown : s.vm.findClass "java/lang/Enum" = some m.cls := findClass_of_methodNamed Bd.named
  have hnm := (name_of_methodNamed Bd.named Bd.method).1
  have X0 : Stand p l e ({ frames := 1, cells := 0, slots := 0, locals := 15 } : Room) s m #[(.ref a1), (.ref a2)] below meth c s₁ [] 0 0 := Stand.of_body Bd
  have e0 : s₁.heap = h0 := by rw [← hh, Bd.state]; rfl
  have N0 := Fr.nil n0
  have K0 : Keep h0 h0 [] := Keep.refl _ _
  refine own_start (Qk := Qrm_cmp Z a1 a2 p1 p2 mr h0 n0) (fun G hG => ?_)
  refine own_st (fun _ k => castTop (ef_5_RR m a1 a2) k) ?_
  show own_Fin p e below G (s₁.setTop (mkF m 0 #[rv a1, rv a2, .unset, .unset] []))
  refine own_st (fun _ k => XS.aloadN X0.here hx rfl (hb hby d5_0) rfl rfl k) ?_
  show own_Fin p e below G (s₁.setTop (mkF m 1 #[rv a1, rv a2, .unset, .unset] [(.ref a2)]))
  refine own_st (fun _ k => XS.astoreN X0.here hx rfl (hb hby d5_1) rfl rfl (l' := #[rv a1, rv a2, rv a2, .unset]) rfl k) ?_
  show own_Fin p e below G (s₁.setTop (mkF m 2 #[rv a1, rv a2, rv a2, .unset] []))
  refine own_st (fun _ k => XS.aloadN X0.here hx rfl (hb hby d5_2) rfl rfl k) ?_
  show own_Fin p e below G (s₁.setTop (mkF m 3 #[rv a1, rv a2, rv a2, .unset] [(.ref a1)]))
  refine own_st (fun _ k => XS.astoreN X0.here hx rfl (hb hby d5_3) rfl rfl (l' := #[rv a1, rv a2, rv a2, rv a1]) rfl k) ?_
  show own_Fin p e below G (s₁.setTop (mkF m 4 #[rv a1, rv a2, rv a2, rv a1] []))
  refine own_st (fun _ k => XS.aloadN X0.here hx rfl (hb hby d5_4) rfl rfl k) ?_
  show own_Fin p e below G (s₁.setTop (mkF m 5 #[rv a1, rv a2, rv a2, rv a1] [(.ref a1)]))
  obtain ⟨T8, X8, e8, st8⟩ := own_gcls X0 hx hZ hown (own_w hw 37 rfl) (own_w hw 38 rfl) (own_w hw 40 rfl) (own_w hw 39 rfl) (own_w hw 41 rfl) e0 E1 M (g := (mkF m 5 #[rv a1, rv a2, rv a2, rv a1] [(.ref a1)])) rfl (by rw [hml]; rfl) rfl (hb hby d5_5) (by decide) (W := 0) (by show 2 * 0 + _ ≤ _; exact Nat.le_of_eq rfl) (by decide)
  refine own_st st8 ?_
  show own_Fin p e below G (T8.setTop (mkF m 8 #[rv a1, rv a2, rv a2, rv a1] [(.ref mr)]))
  refine own_st (fun _ k => XS.aloadN X8.here hx rfl (hb hby d5_8) rfl rfl k) ?_
  show own_Fin p e below G (T8.setTop (mkF m 9 #[rv a1, rv a2, rv a2, rv a1] [(.ref a2), (.ref mr)]))
  obtain ⟨T9, X9, e9, st9⟩ := own_gcls X8 hx hZ hown (own_w hw 37 rfl) (own_w hw 38 rfl) (own_w hw 40 rfl) (own_w hw 39 rfl) (own_w hw 41 rfl) e8 E2 M (g := (mkF m 9 #[rv a1, rv a2, rv a2, rv a1] [(.ref a2), (.ref mr)])) rfl (by rw [hml]; rfl) rfl (hb hby d5_9) (by decide) (W := 1) (by show 2 * 0 + _ ≤ _; exact Nat.le_of_eq rfl) (by decide)
  refine own_st st9 ?_
  show own_Fin p e below G (T9.setTop (mkF m 12 #[rv a1, rv a2, rv a2, rv a1] [(.ref mr), (.ref mr)]))
  refine own_st (fun _ k => Jvm.RoadKit.acmp (g := (mkF m 12 #[rv a1, rv a2, rv a2, rv a1] [(.ref mr), (.ref mr)])) X9 hx rfl rfl rfl (pc0 := 12) (pc' := 34) (same := true) rfl (hb hby d5_12) rfl (decide_eq_true rfl) (by decide) (by decide) k) ?_
  show own_Fin p e below G (T9.setTop (mkF m 34 #[rv a1, rv a2, rv a2, rv a1] []))
  refine own_st (fun _ k => XS.aloadN X9.here hx rfl (hb hby d5_34) rfl rfl k) ?_
  show own_Fin p e below G (T9.setTop (mkF m 35 #[rv a1, rv a2, rv a2, rv a1] [(.ref a1)]))
  obtain ⟨T10, X10, e10, st10⟩ := getF X9 hx hZ hown (host := "") (Or.inl (own_w hw 24 rfl)) Via.refl e9 F1 (g := (mkF m 35 #[rv a1, rv a2, rv a2, rv a1] [(.ref a1)])) rfl rfl (hb hby d5_35)
  refine own_st st10 ?_
  show own_Fin p e below G (T10.setTop (mkF m 38 #[rv a1, rv a2, rv a2, rv a1] [(.int p1)]))
  refine own_st (fun _ k => XS.aloadN X10.here hx rfl (hb hby d5_38) rfl rfl k) ?_
  show own_Fin p e below G (T10.setTop (mkF m 39 #[rv a1, rv a2, rv a2, rv a1] [(.ref a2), (.int p1)]))
  obtain ⟨T11, X11, e11, st11⟩ := getF X10 hx hZ hown (host := "") (Or.inl (own_w hw 24 rfl)) Via.refl e10 F2 (g := (mkF m 39 #[rv a1, rv a2, rv a2, rv a1] [(.ref a2), (.int p1)])) rfl rfl (hb hby d5_39)
  refine own_st st11 ?_
  show own_Fin p e below G (T11.setTop (mkF m 42 #[rv a1, rv a2, rv a2, rv a1] [(.int p2), (.int p1)]))
  refine own_st (fun _ k => XS.isub X11.here hx rfl (hb hby d5_42) rfl k) ?_
  show own_Fin p e below G (T11.setTop (mkF m 43 #[rv a1, rv a2, rv a2, rv a1] [(.int (p1 - p2))]))
  refine own_out X11 Bd.notSynchronized (v := (some (.int (p1 - p2)))) (fun h => by rw [Bd.returns] at h; cases h) hG (fun fs hr => retOut X11 hx Bd.returns rfl (Or.inl ⟨rfl, Or.inl rfl, _, rfl⟩) (hb hby d5_43) hr) (by decide) (by decide) ?_
  exact ⟨rfl, N0, e11⟩

theorem d4_0 : decode prog_15_method_6_code 0 = .ok (.aload_n 0, 1) := by decide +kernel
theorem d4_1 : decode prog_15_method_6_code 1 = .ok (.aload_n 1, 1) := by decide +kernel
theorem d4_2 : decode prog_15_method_6_code 2 = .ok (.invokevirtual 41, 3) := by decide +kernel
theorem pd__Ljava_lang_Enum__I_627 : parseMethodDescriptor "(Ljava/lang/Enum;)I" = some ⟨[(.object "java/lang/Enum")], some .int⟩ := by decide +kernel
theorem d4_5 : decode prog_15_method_6_code 5 = .ok (.ifCond .gt 7, 3) := by decide +kernel
theorem d4_8 : decode prog_15_method_6_code 8 = .ok (.aload_n 0, 1) := by decide +kernel
theorem d4_9 : decode prog_15_method_6_code 9 = .ok (.goto 4, 3) := by decide +kernel
theorem d4_13 : decode prog_15_method_6_code 13 = .ok (.areturn, 1) := by decide +kernel
theorem ef_4_RR (m : MethodId) (x0 : Addr) (x1 : Addr) : entryFrame m #[(.ref x0), (.ref x1)] 2 = mkF m 0 #[rv x0, rv x1] [] := by first | (simp [entryFrame, mkF, argsToLocals, Value.category]; done) | rfl
def Qrm_and00 (Z : State) (a1 : Addr) (a2 : Addr) (mr : Addr) (h0 : Heap) (n0 : Nat) (v : Option Value) (h : Heap) (L : List Loc) : Prop := v = some (.ref a1) ∧ Fr n0 L ∧ h = h0
set_option maxRecDepth 65536 in
set_option maxHeartbeats 40000000 in
theorem rm_and00 (l : Launch) (Z : State) (a0 : Array Value) (hw : ∀ d ∈ tables_1, d.before a0 Z = true) (ws : List Jvm.Cond) (a1 : Addr) (a2 : Addr) (mr : Addr) (h0 : Heap) (n0 : Nat) (Z0 : n0 ≤ h0.size) (E1 : Exa Z h0 a1 "com/example/attributes_to_entitlements/attributestoentitlements/Truth") (E2 : Exa Z h0 a2 "com/example/attributes_to_entitlements/attributestoentitlements/Truth") (F1 : Fld Z h0 a1 "java/lang/Enum" "ordinal" "I" (.int (0 : Int32))) (F2 : Fld Z h0 a2 "java/lang/Enum" "ordinal" "I" (.int (0 : Int32))) (M : own_Mir Z "com/example/attributes_to_entitlements/attributestoentitlements/Truth" mr) :
    MetFree l own_y6 (head1 (Jvm.Cond.code own_y6 prog_15_method_6_code 2 (some (.object "com/example/attributes_to_entitlements/attributestoentitlements/Truth")) :: ws) ({ frames := 2, cells := 0, slots := 0, locals := 30 } : Room)) (fun a U => a = #[(.ref a1), (.ref a2)] ∧ Z.Warmed39 U.vm ∧ U.heap = h0) (fun _ _ _ _ _ => True) (fun _ U o U' => ∃ v L, o = .returned v ∧ Qrm_and00 Z a1 a2 mr h0 n0 v U'.heap L ∧ FrameEnd U o U' L ({ frames := 2, cells := 0, slots := 0, locals := 30 } : Room).cells ({ frames := 2, cells := 0, slots := 0, locals := 30 } : Room).slots) := by
  refine MetFree.of_bodySF (plainFor_of_name pn_com_example_attributes_to_entitlements_attributestoentitlements_Truth) hisR ?_
  intro p e s m args below meth c s₁ Bd hml0 hP hK
  obtain ⟨rfl, hZ, hh⟩ := hP
  have hx := Bd.exec
  have hby := Bd.bytes
  have hml : c.maxLocals = 2 := hml0
  have hown : s.vm.findClass "com/example/attributes_to_entitlements/attributestoentitlements/Truth" = some m.cls := findClass_of_methodNamed Bd.named
  have hnm := (name_of_methodNamed Bd.named Bd.method).1
  have X0 : Stand p l e ({ frames := 2, cells := 0, slots := 0, locals := 30 } : Room) s m #[(.ref a1), (.ref a2)] below meth c s₁ [] 0 0 := Stand.of_body Bd
  have e0 : s₁.heap = h0 := by rw [← hh, Bd.state]; rfl
  have N0 := Fr.nil n0
  have K0 : Keep h0 h0 [] := Keep.refl _ _
  refine own_start (Qk := Qrm_and00 Z a1 a2 mr h0 n0) (fun G hG => ?_)
  refine own_st (fun _ k => castTop (ef_4_RR m a1 a2) k) ?_
  show own_Fin p e below G (s₁.setTop (mkF m 0 #[rv a1, rv a2] []))
  refine own_st (fun _ k => XS.aloadN X0.here hx rfl (hb hby d4_0) rfl rfl k) ?_
  show own_Fin p e below G (s₁.setTop (mkF m 1 #[rv a1, rv a2] [(.ref a1)]))
  refine own_st (fun _ k => XS.aloadN X0.here hx rfl (hb hby d4_1) rfl rfl k) ?_
  show own_Fin p e below G (s₁.setTop (mkF m 2 #[rv a1, rv a2] [(.ref a2), (.ref a1)]))
  obtain ⟨cq12, kq12, q12a, q12b, q12c⟩ := isOf hZ e0 E1
  obtain ⟨_, _, ⟨T12, L12, k12, n12⟩, -, X12, ⟨Lc12, hQ12, l12, y12, z12⟩, st12⟩ := X0.virtualBackUp hx (x := own_y5) (y := own_y4) (owner := "java/lang/Enum") hown (mvT hZ (own_w hw 31 rfl)) (mvT hZ (own_w hw 32 rfl)) (mvT hZ (own_w hw 33 rfl)) (by decide) (mvT hZ (own_w hw 35 rfl)) (mvT hZ (own_w hw 34 rfl)) (backOf (W := 0) (rm_cmp l Z a0 hw [] a1 a2 (0 : Int32) (0 : Int32) mr h0 n0 (Nat.le_trans Z0 K0.1) E1 E2 F1 F2 M) hZ (own_w hw 36 rfl) (own_w hw 22 rfl) (by decide) (by decide)) q12a q12c (g := (mkF m 2 #[rv a1, rv a2] [(.ref a2), (.ref a1)])) rfl (by rw [hml]; rfl) (Steps.refl _) (argsL := [(.ref a2)]) (rest := []) (lenOf pd__Ljava_lang_Enum__I_627 rfl) rfl (by show 2 * 0 + _ ≤ _; exact Nat.le_of_eq rfl) (hb hby d4_2) (fun _ _ => ⟨rfl, e0, (by decide : 0 + 0 ≤ _), (by decide : 0 + 0 ≤ _)⟩)
  dsimp only [Pt.U, Pt.locs, Pt.cells, Pt.slots] at X12 l12 y12 z12 st12 hQ12
  subst l12 y12 z12
  obtain ⟨rfl, N12q, e12⟩ := hQ12
  skip
  have N12 := Fr.app N0 N12q
  refine own_tr st12 ?_
  show own_Fin p e below G (T12.setTop (mkF m 5 #[rv a1, rv a2] [(.int (0 : Int32))]))
  refine own_st (fun _ k => XS.ifNo X12.here hx rfl (hb hby d4_5) rfl ((if0 _ _).trans (flt (by decide : ¬ ((0 : Int32) < (0 : Int32)))).2.2.1) k) ?_
  show own_Fin p e below G (T12.setTop (mkF m 8 #[rv a1, rv a2] []))
  refine own_st (fun _ k => XS.aloadN X12.here hx rfl (hb hby d4_8) rfl rfl k) ?_
  show own_Fin p e below G (T12.setTop (mkF m 9 #[rv a1, rv a2] [(.ref a1)]))
  refine own_st (fun _ k => XS.goto X12.here hx rfl (pc0 := 9) (pc' := 13) rfl (hb hby d4_9) (by decide) (by decide) k) ?_
  show own_Fin p e below G (T12.setTop (mkF m 13 #[rv a1, rv a2] [(.ref a1)]))
  refine own_out X12 Bd.notSynchronized (v := (some (.ref a1))) (fun h => by rw [Bd.returns] at h; cases h) hG (fun fs hr => retOut X12 hx Bd.returns rfl (Or.inr (Or.inr (Or.inr (Or.inr ⟨rfl, rfl, rfl⟩)))) (hb hby d4_13) hr) (by decide) (by decide) ?_
  exact ⟨rfl, N12, e12⟩

def Qrm_and02 (Z : State) (a1 : Addr) (a2 : Addr) (mr : Addr) (h0 : Heap) (n0 : Nat) (v : Option Value) (h : Heap) (L : List Loc) : Prop := v = some (.ref a1) ∧ Fr n0 L ∧ h = h0
set_option maxRecDepth 65536 in
set_option maxHeartbeats 40000000 in
theorem rm_and02 (l : Launch) (Z : State) (a0 : Array Value) (hw : ∀ d ∈ tables_1, d.before a0 Z = true) (ws : List Jvm.Cond) (a1 : Addr) (a2 : Addr) (mr : Addr) (h0 : Heap) (n0 : Nat) (Z0 : n0 ≤ h0.size) (E1 : Exa Z h0 a1 "com/example/attributes_to_entitlements/attributestoentitlements/Truth") (E2 : Exa Z h0 a2 "com/example/attributes_to_entitlements/attributestoentitlements/Truth") (F1 : Fld Z h0 a1 "java/lang/Enum" "ordinal" "I" (.int (0 : Int32))) (F2 : Fld Z h0 a2 "java/lang/Enum" "ordinal" "I" (.int (2 : Int32))) (M : own_Mir Z "com/example/attributes_to_entitlements/attributestoentitlements/Truth" mr) :
    MetFree l own_y6 (head1 (Jvm.Cond.code own_y6 prog_15_method_6_code 2 (some (.object "com/example/attributes_to_entitlements/attributestoentitlements/Truth")) :: ws) ({ frames := 2, cells := 0, slots := 0, locals := 30 } : Room)) (fun a U => a = #[(.ref a1), (.ref a2)] ∧ Z.Warmed39 U.vm ∧ U.heap = h0) (fun _ _ _ _ _ => True) (fun _ U o U' => ∃ v L, o = .returned v ∧ Qrm_and02 Z a1 a2 mr h0 n0 v U'.heap L ∧ FrameEnd U o U' L ({ frames := 2, cells := 0, slots := 0, locals := 30 } : Room).cells ({ frames := 2, cells := 0, slots := 0, locals := 30 } : Room).slots) := by
  refine MetFree.of_bodySF (plainFor_of_name pn_com_example_attributes_to_entitlements_attributestoentitlements_Truth) hisR ?_
  intro p e s m args below meth c s₁ Bd hml0 hP hK
  obtain ⟨rfl, hZ, hh⟩ := hP
  have hx := Bd.exec
  have hby := Bd.bytes
  have hml : c.maxLocals = 2 := hml0
  have hown : s.vm.findClass "com/example/attributes_to_entitlements/attributestoentitlements/Truth" = some m.cls := findClass_of_methodNamed Bd.named
  have hnm := (name_of_methodNamed Bd.named Bd.method).1
  have X0 : Stand p l e ({ frames := 2, cells := 0, slots := 0, locals := 30 } : Room) s m #[(.ref a1), (.ref a2)] below meth c s₁ [] 0 0 := Stand.of_body Bd
  have e0 : s₁.heap = h0 := by rw [← hh, Bd.state]; rfl
  have N0 := Fr.nil n0
  have K0 : Keep h0 h0 [] := Keep.refl _ _
  refine own_start (Qk := Qrm_and02 Z a1 a2 mr h0 n0) (fun G hG => ?_)
  refine own_st (fun _ k => castTop (ef_4_RR m a1 a2) k) ?_
  show own_Fin p e below G (s₁.setTop (mkF m 0 #[rv a1, rv a2] []))
  refine own_st (fun _ k => XS.aloadN X0.here hx rfl (hb hby d4_0) rfl rfl k) ?_
  show own_Fin p e below G (s₁.setTop (mkF m 1 #[rv a1, rv a2] [(.ref a1)]))
  refine own_st (fun _ k => XS.aloadN X0.here hx rfl (hb hby d4_1) rfl rfl k) ?_
  show own_Fin p e below G (s₁.setTop (mkF m 2 #[rv a1, rv a2] [(.ref a2), (.ref a1)]))
  obtain ⟨cq13, kq13, q13a, q13b, q13c⟩ := isOf hZ e0 E1
  obtain ⟨_, _, ⟨T13, L13, k13, n13⟩, -, X13, ⟨Lc13, hQ13, l13, y13, z13⟩, st13⟩ := X0.virtualBackUp hx (x := own_y5) (y := own_y4) (owner := "java/lang/Enum") hown (mvT hZ (own_w hw 31 rfl)) (mvT hZ (own_w hw 32 rfl)) (mvT hZ (own_w hw 33 rfl)) (by decide) (mvT hZ (own_w hw 35 rfl)) (mvT hZ (own_w hw 34 rfl)) (backOf (W := 0) (rm_cmp l Z a0 hw [] a1 a2 (0 : Int32) (2 : Int32) mr h0 n0 (Nat.le_trans Z0 K0.1) E1 E2 F1 F2 M) hZ (own_w hw 36 rfl) (own_w hw 22 rfl) (by decide) (by decide)) q13a q13c (g := (mkF m 2 #[rv a1, rv a2] [(.ref a2), (.ref a1)])) rfl (by rw [hml]; rfl) (Steps.refl _) (argsL := [(.ref a2)]) (rest := []) (lenOf pd__Ljava_lang_Enum__I_627 rfl) rfl (by show 2 * 0 + _ ≤ _; exact Nat.le_of_eq rfl) (hb hby d4_2) (fun _ _ => ⟨rfl, e0, (by decide : 0 + 0 ≤ _), (by decide : 0 + 0 ≤ _)⟩)
  dsimp only [Pt.U, Pt.locs, Pt.cells, Pt.slots] at X13 l13 y13 z13 st13 hQ13
  subst l13 y13 z13
  obtain ⟨rfl, N13q, e13⟩ := hQ13
  skip
  have N13 := Fr.app N0 N13q
  refine own_tr st13 ?_
  show own_Fin p e below G (T13.setTop (mkF m 5 #[rv a1, rv a2] [(.int (-2 : Int32))]))
  refine own_st (fun _ k => XS.ifNo X13.here hx rfl (hb hby d4_5) rfl ((if0 _ _).trans (flt (by decide : ¬ ((0 : Int32) < (-2 : Int32)))).2.2.1) k) ?_
  show own_Fin p e below G (T13.setTop (mkF m 8 #[rv a1, rv a2] []))
  refine own_st (fun _ k => XS.aloadN X13.here hx rfl (hb hby d4_8) rfl rfl k) ?_
  show own_Fin p e below G (T13.setTop (mkF m 9 #[rv a1, rv a2] [(.ref a1)]))
  refine own_st (fun _ k => XS.goto X13.here hx rfl (pc0 := 9) (pc' := 13) rfl (hb hby d4_9) (by decide) (by decide) k) ?_
  show own_Fin p e below G (T13.setTop (mkF m 13 #[rv a1, rv a2] [(.ref a1)]))
  refine own_out X13 Bd.notSynchronized (v := (some (.ref a1))) (fun h => by rw [Bd.returns] at h; cases h) hG (fun fs hr => retOut X13 hx Bd.returns rfl (Or.inr (Or.inr (Or.inr (Or.inr ⟨rfl, rfl, rfl⟩)))) (hb hby d4_13) hr) (by decide) (by decide) ?_
  exact ⟨rfl, N13, e13⟩

theorem d4_12 : decode prog_15_method_6_code 12 = .ok (.aload_n 1, 1) := by decide +kernel
def Qrm_and20 (Z : State) (a1 : Addr) (a2 : Addr) (mr : Addr) (h0 : Heap) (n0 : Nat) (v : Option Value) (h : Heap) (L : List Loc) : Prop := v = some (.ref a2) ∧ Fr n0 L ∧ h = h0
set_option maxRecDepth 65536 in
set_option maxHeartbeats 40000000 in
theorem rm_and20 (l : Launch) (Z : State) (a0 : Array Value) (hw : ∀ d ∈ tables_1, d.before a0 Z = true) (ws : List Jvm.Cond) (a1 : Addr) (a2 : Addr) (mr : Addr) (h0 : Heap) (n0 : Nat) (Z0 : n0 ≤ h0.size) (E1 : Exa Z h0 a1 "com/example/attributes_to_entitlements/attributestoentitlements/Truth") (E2 : Exa Z h0 a2 "com/example/attributes_to_entitlements/attributestoentitlements/Truth") (F1 : Fld Z h0 a1 "java/lang/Enum" "ordinal" "I" (.int (2 : Int32))) (F2 : Fld Z h0 a2 "java/lang/Enum" "ordinal" "I" (.int (0 : Int32))) (M : own_Mir Z "com/example/attributes_to_entitlements/attributestoentitlements/Truth" mr) :
    MetFree l own_y6 (head1 (Jvm.Cond.code own_y6 prog_15_method_6_code 2 (some (.object "com/example/attributes_to_entitlements/attributestoentitlements/Truth")) :: ws) ({ frames := 2, cells := 0, slots := 0, locals := 30 } : Room)) (fun a U => a = #[(.ref a1), (.ref a2)] ∧ Z.Warmed39 U.vm ∧ U.heap = h0) (fun _ _ _ _ _ => True) (fun _ U o U' => ∃ v L, o = .returned v ∧ Qrm_and20 Z a1 a2 mr h0 n0 v U'.heap L ∧ FrameEnd U o U' L ({ frames := 2, cells := 0, slots := 0, locals := 30 } : Room).cells ({ frames := 2, cells := 0, slots := 0, locals := 30 } : Room).slots) := by
  refine MetFree.of_bodySF (plainFor_of_name pn_com_example_attributes_to_entitlements_attributestoentitlements_Truth) hisR ?_
  intro p e s m args below meth c s₁ Bd hml0 hP hK
  obtain ⟨rfl, hZ, hh⟩ := hP
  have hx := Bd.exec
  have hby := Bd.bytes
  have hml : c.maxLocals = 2 := hml0
  have hown : s.vm.findClass "com/example/attributes_to_entitlements/attributestoentitlements/Truth" = some m.cls := findClass_of_methodNamed Bd.named
  have hnm := (name_of_methodNamed Bd.named Bd.method).1
  have X0 : Stand p l e ({ frames := 2, cells := 0, slots := 0, locals := 30 } : Room) s m #[(.ref a1), (.ref a2)] below meth c s₁ [] 0 0 := Stand.of_body Bd
  have e0 : s₁.heap = h0 := by rw [← hh, Bd.state]; rfl
  have N0 := Fr.nil n0
  have K0 : Keep h0 h0 [] := Keep.refl _ _
  refine own_start (Qk := Qrm_and20 Z a1 a2 mr h0 n0) (fun G hG => ?_)
  refine own_st (fun _ k => castTop (ef_4_RR m a1 a2) k) ?_
  show own_Fin p e below G (s₁.setTop (mkF m 0 #[rv a1, rv a2] []))
  refine own_st (fun _ k => XS.aloadN X0.here hx rfl (hb hby d4_0) rfl rfl k) ?_
  show own_Fin p e below G (s₁.setTop (mkF m 1 #[rv a1, rv a2] [(.ref a1)]))
  refine own_st (fun _ k => XS.aloadN X0.here hx rfl (hb hby d4_1) rfl rfl k) ?_
  show own_Fin p e below G (s₁.setTop (mkF m 2 #[rv a1, rv a2] [(.ref a2), (.ref a1)]))
  obtain ⟨cq14, kq14, q14a, q14b, q14c⟩ := isOf hZ e0 E1
  obtain ⟨_, _, ⟨T14, L14, k14, n14⟩, -, X14, ⟨Lc14, hQ14, l14, y14, z14⟩, st14⟩ := X0.virtualBackUp hx (x := own_y5) (y := own_y4) (owner := "java/lang/Enum") hown (mvT hZ (own_w hw 31 rfl)) (mvT hZ (own_w hw 32 rfl)) (mvT hZ (own_w hw 33 rfl)) (by decide) (mvT hZ (own_w hw 35 rfl)) (mvT hZ (own_w hw 34 rfl)) (backOf (W := 0) (rm_cmp l Z a0 hw [] a1 a2 (2 : Int32) (0 : Int32) mr h0 n0 (Nat.le_trans Z0 K0.1) E1 E2 F1 F2 M) hZ (own_w hw 36 rfl) (own_w hw 22 rfl) (by decide) (by decide)) q14a q14c (g := (mkF m 2 #[rv a1, rv a2] [(.ref a2), (.ref a1)])) rfl (by rw [hml]; rfl) (Steps.refl _) (argsL := [(.ref a2)]) (rest := []) (lenOf pd__Ljava_lang_Enum__I_627 rfl) rfl (by show 2 * 0 + _ ≤ _; exact Nat.le_of_eq rfl) (hb hby d4_2) (fun _ _ => ⟨rfl, e0, (by decide : 0 + 0 ≤ _), (by decide : 0 + 0 ≤ _)⟩)
  dsimp only [Pt.U, Pt.locs, Pt.cells, Pt.slots] at X14 l14 y14 z14 st14 hQ14
  subst l14 y14 z14
  obtain ⟨rfl, N14q, e14⟩ := hQ14
  skip
  have N14 := Fr.app N0 N14q
  refine own_tr st14 ?_
  show own_Fin p e below G (T14.setTop (mkF m 5 #[rv a1, rv a2] [(.int (2 : Int32))]))
  refine own_st (fun _ k => XS.ifYes X14.here hx rfl (pc0 := 5) (pc' := 12) rfl (hb hby d4_5) rfl ((if0 _ _).trans (tlt (by decide : ((0 : Int32) < (2 : Int32)))).2.2.1) (by decide) (by decide) k) ?_
  show own_Fin p e below G (T14.setTop (mkF m 12 #[rv a1, rv a2] []))
  refine own_st (fun _ k => XS.aloadN X14.here hx rfl (hb hby d4_12) rfl rfl k) ?_
  show own_Fin p e below G (T14.setTop (mkF m 13 #[rv a1, rv a2] [(.ref a2)]))
  refine own_out X14 Bd.notSynchronized (v := (some (.ref a2))) (fun h => by rw [Bd.returns] at h; cases h) hG (fun fs hr => retOut X14 hx Bd.returns rfl (Or.inr (Or.inr (Or.inr (Or.inr ⟨rfl, rfl, rfl⟩)))) (hb hby d4_13) hr) (by decide) (by decide) ?_
  exact ⟨rfl, N14, e14⟩

def Qrm_and22 (Z : State) (a1 : Addr) (a2 : Addr) (mr : Addr) (h0 : Heap) (n0 : Nat) (v : Option Value) (h : Heap) (L : List Loc) : Prop := v = some (.ref a1) ∧ Fr n0 L ∧ h = h0
set_option maxRecDepth 65536 in
set_option maxHeartbeats 40000000 in
theorem rm_and22 (l : Launch) (Z : State) (a0 : Array Value) (hw : ∀ d ∈ tables_1, d.before a0 Z = true) (ws : List Jvm.Cond) (a1 : Addr) (a2 : Addr) (mr : Addr) (h0 : Heap) (n0 : Nat) (Z0 : n0 ≤ h0.size) (E1 : Exa Z h0 a1 "com/example/attributes_to_entitlements/attributestoentitlements/Truth") (E2 : Exa Z h0 a2 "com/example/attributes_to_entitlements/attributestoentitlements/Truth") (F1 : Fld Z h0 a1 "java/lang/Enum" "ordinal" "I" (.int (2 : Int32))) (F2 : Fld Z h0 a2 "java/lang/Enum" "ordinal" "I" (.int (2 : Int32))) (M : own_Mir Z "com/example/attributes_to_entitlements/attributestoentitlements/Truth" mr) :
    MetFree l own_y6 (head1 (Jvm.Cond.code own_y6 prog_15_method_6_code 2 (some (.object "com/example/attributes_to_entitlements/attributestoentitlements/Truth")) :: ws) ({ frames := 2, cells := 0, slots := 0, locals := 30 } : Room)) (fun a U => a = #[(.ref a1), (.ref a2)] ∧ Z.Warmed39 U.vm ∧ U.heap = h0) (fun _ _ _ _ _ => True) (fun _ U o U' => ∃ v L, o = .returned v ∧ Qrm_and22 Z a1 a2 mr h0 n0 v U'.heap L ∧ FrameEnd U o U' L ({ frames := 2, cells := 0, slots := 0, locals := 30 } : Room).cells ({ frames := 2, cells := 0, slots := 0, locals := 30 } : Room).slots) := by
  refine MetFree.of_bodySF (plainFor_of_name pn_com_example_attributes_to_entitlements_attributestoentitlements_Truth) hisR ?_
  intro p e s m args below meth c s₁ Bd hml0 hP hK
  obtain ⟨rfl, hZ, hh⟩ := hP
  have hx := Bd.exec
  have hby := Bd.bytes
  have hml : c.maxLocals = 2 := hml0
  have hown : s.vm.findClass "com/example/attributes_to_entitlements/attributestoentitlements/Truth" = some m.cls := findClass_of_methodNamed Bd.named
  have hnm := (name_of_methodNamed Bd.named Bd.method).1
  have X0 : Stand p l e ({ frames := 2, cells := 0, slots := 0, locals := 30 } : Room) s m #[(.ref a1), (.ref a2)] below meth c s₁ [] 0 0 := Stand.of_body Bd
  have e0 : s₁.heap = h0 := by rw [← hh, Bd.state]; rfl
  have N0 := Fr.nil n0
  have K0 : Keep h0 h0 [] := Keep.refl _ _
  refine own_start (Qk := Qrm_and22 Z a1 a2 mr h0 n0) (fun G hG => ?_)
  refine own_st (fun _ k => castTop (ef_4_RR m a1 a2) k) ?_
  show own_Fin p e below G (s₁.setTop (mkF m 0 #[rv a1, rv a2] []))
  refine own_st (fun _ k => XS.aloadN X0.here hx rfl (hb hby d4_0) rfl rfl k) ?_
  show own_Fin p e below G (s₁.setTop (mkF m 1 #[rv a1, rv a2] [(.ref a1)]))
  refine own_st (fun _ k => XS.aloadN X0.here hx rfl (hb hby d4_1) rfl rfl k) ?_
  show own_Fin p e below G (s₁.setTop (mkF m 2 #[rv a1, rv a2] [(.ref a2), (.ref a1)]))
  obtain ⟨cq15, kq15, q15a, q15b, q15c⟩ := isOf hZ e0 E1
  obtain ⟨_, _, ⟨T15, L15, k15, n15⟩, -, X15, ⟨Lc15, hQ15, l15, y15, z15⟩, st15⟩ := X0.virtualBackUp hx (x := own_y5) (y := own_y4) (owner := "java/lang/Enum") hown (mvT hZ (own_w hw 31 rfl)) (mvT hZ (own_w hw 32 rfl)) (mvT hZ (own_w hw 33 rfl)) (by decide) (mvT hZ (own_w hw 35 rfl)) (mvT hZ (own_w hw 34 rfl)) (backOf (W := 0) (rm_cmp l Z a0 hw [] a1 a2 (2 : Int32) (2 : Int32) mr h0 n0 (Nat.le_trans Z0 K0.1) E1 E2 F1 F2 M) hZ (own_w hw 36 rfl) (own_w hw 22 rfl) (by decide) (by decide)) q15a q15c (g := (mkF m 2 #[rv a1, rv a2] [(.ref a2), (.ref a1)])) rfl (by rw [hml]; rfl) (Steps.refl _) (argsL := [(.ref a2)]) (rest := []) (lenOf pd__Ljava_lang_Enum__I_627 rfl) rfl (by show 2 * 0 + _ ≤ _; exact Nat.le_of_eq rfl) (hb hby d4_2) (fun _ _ => ⟨rfl, e0, (by decide : 0 + 0 ≤ _), (by decide : 0 + 0 ≤ _)⟩)
  dsimp only [Pt.U, Pt.locs, Pt.cells, Pt.slots] at X15 l15 y15 z15 st15 hQ15
  subst l15 y15 z15
  obtain ⟨rfl, N15q, e15⟩ := hQ15
  skip
  have N15 := Fr.app N0 N15q
  refine own_tr st15 ?_
  show own_Fin p e below G (T15.setTop (mkF m 5 #[rv a1, rv a2] [(.int (0 : Int32))]))
  refine own_st (fun _ k => XS.ifNo X15.here hx rfl (hb hby d4_5) rfl ((if0 _ _).trans (flt (by decide : ¬ ((0 : Int32) < (0 : Int32)))).2.2.1) k) ?_
  show own_Fin p e below G (T15.setTop (mkF m 8 #[rv a1, rv a2] []))
  refine own_st (fun _ k => XS.aloadN X15.here hx rfl (hb hby d4_8) rfl rfl k) ?_
  show own_Fin p e below G (T15.setTop (mkF m 9 #[rv a1, rv a2] [(.ref a1)]))
  refine own_st (fun _ k => XS.goto X15.here hx rfl (pc0 := 9) (pc' := 13) rfl (hb hby d4_9) (by decide) (by decide) k) ?_
  show own_Fin p e below G (T15.setTop (mkF m 13 #[rv a1, rv a2] [(.ref a1)]))
  refine own_out X15 Bd.notSynchronized (v := (some (.ref a1))) (fun h => by rw [Bd.returns] at h; cases h) hG (fun fs hr => retOut X15 hx Bd.returns rfl (Or.inr (Or.inr (Or.inr (Or.inr ⟨rfl, rfl, rfl⟩)))) (hb hby d4_13) hr) (by decide) (by decide) ?_
  exact ⟨rfl, N15, e15⟩

theorem d6_0 : decode prog_15_method_7_code 0 = .ok (.aload_n 0, 1) := by decide +kernel
theorem d6_1 : decode prog_15_method_7_code 1 = .ok (.aload_n 1, 1) := by decide +kernel
theorem d6_2 : decode prog_15_method_7_code 2 = .ok (.invokevirtual 41, 3) := by decide +kernel
theorem d6_5 : decode prog_15_method_7_code 5 = .ok (.ifCond .lt 7, 3) := by decide +kernel
theorem d6_8 : decode prog_15_method_7_code 8 = .ok (.aload_n 0, 1) := by decide +kernel
theorem d6_9 : decode prog_15_method_7_code 9 = .ok (.goto 4, 3) := by decide +kernel
theorem d6_13 : decode prog_15_method_7_code 13 = .ok (.areturn, 1) := by decide +kernel
theorem ef_6_RR (m : MethodId) (x0 : Addr) (x1 : Addr) : entryFrame m #[(.ref x0), (.ref x1)] 2 = mkF m 0 #[rv x0, rv x1] [] := by first | (simp [entryFrame, mkF, argsToLocals, Value.category]; done) | rfl
def Qrm_or00 (Z : State) (a1 : Addr) (a2 : Addr) (mr : Addr) (h0 : Heap) (n0 : Nat) (v : Option Value) (h : Heap) (L : List Loc) : Prop := v = some (.ref a1) ∧ Fr n0 L ∧ h = h0
set_option maxRecDepth 65536 in
set_option maxHeartbeats 40000000 in
theorem rm_or00 (l : Launch) (Z : State) (a0 : Array Value) (hw : ∀ d ∈ tables_1, d.before a0 Z = true) (ws : List Jvm.Cond) (a1 : Addr) (a2 : Addr) (mr : Addr) (h0 : Heap) (n0 : Nat) (Z0 : n0 ≤ h0.size) (E1 : Exa Z h0 a1 "com/example/attributes_to_entitlements/attributestoentitlements/Truth") (E2 : Exa Z h0 a2 "com/example/attributes_to_entitlements/attributestoentitlements/Truth") (F1 : Fld Z h0 a1 "java/lang/Enum" "ordinal" "I" (.int (0 : Int32))) (F2 : Fld Z h0 a2 "java/lang/Enum" "ordinal" "I" (.int (0 : Int32))) (M : own_Mir Z "com/example/attributes_to_entitlements/attributestoentitlements/Truth" mr) :
    MetFree l own_y7 (head1 (Jvm.Cond.code own_y7 prog_15_method_7_code 2 (some (.object "com/example/attributes_to_entitlements/attributestoentitlements/Truth")) :: ws) ({ frames := 2, cells := 0, slots := 0, locals := 30 } : Room)) (fun a U => a = #[(.ref a1), (.ref a2)] ∧ Z.Warmed39 U.vm ∧ U.heap = h0) (fun _ _ _ _ _ => True) (fun _ U o U' => ∃ v L, o = .returned v ∧ Qrm_or00 Z a1 a2 mr h0 n0 v U'.heap L ∧ FrameEnd U o U' L ({ frames := 2, cells := 0, slots := 0, locals := 30 } : Room).cells ({ frames := 2, cells := 0, slots := 0, locals := 30 } : Room).slots) := by
  refine MetFree.of_bodySF (plainFor_of_name pn_com_example_attributes_to_entitlements_attributestoentitlements_Truth) hisR ?_
  intro p e s m args below meth c s₁ Bd hml0 hP hK
  obtain ⟨rfl, hZ, hh⟩ := hP
  have hx := Bd.exec
  have hby := Bd.bytes
  have hml : c.maxLocals = 2 := hml0
  have hown : s.vm.findClass "com/example/attributes_to_entitlements/attributestoentitlements/Truth" = some m.cls := findClass_of_methodNamed Bd.named
  have hnm := (name_of_methodNamed Bd.named Bd.method).1
  have X0 : Stand p l e ({ frames := 2, cells := 0, slots := 0, locals := 30 } : Room) s m #[(.ref a1), (.ref a2)] below meth c s₁ [] 0 0 := Stand.of_body Bd
  have e0 : s₁.heap = h0 := by rw [← hh, Bd.state]; rfl
  have N0 := Fr.nil n0
  have K0 : Keep h0 h0 [] := Keep.refl _ _
  refine own_start (Qk := Qrm_or00 Z a1 a2 mr h0 n0) (fun G hG => ?_)
  refine own_st (fun _ k => castTop (ef_6_RR m a1 a2) k) ?_
  show own_Fin p e below G (s₁.setTop (mkF m 0 #[rv a1, rv a2] []))
  refine own_st (fun _ k => XS.aloadN X0.here hx rfl (hb hby d6_0) rfl rfl k) ?_
  show own_Fin p e below G (s₁.setTop (mkF m 1 #[rv a1, rv a2] [(.ref a1)]))
  refine own_st (fun _ k => XS.aloadN X0.here hx rfl (hb hby d6_1) rfl rfl k) ?_
  show own_Fin p e below G (s₁.setTop (mkF m 2 #[rv a1, rv a2] [(.ref a2), (.ref a1)]))
  obtain ⟨cq16, kq16, q16a, q16b, q16c⟩ := isOf hZ e0 E1
  obtain ⟨_, _, ⟨T16, L16, k16, n16⟩, -, X16, ⟨Lc16, hQ16, l16, y16, z16⟩, st16⟩ := X0.virtualBackUp hx (x := own_y5) (y := own_y4) (owner := "java/lang/Enum") hown (mvT hZ (own_w hw 31 rfl)) (mvT hZ (own_w hw 32 rfl)) (mvT hZ (own_w hw 33 rfl)) (by decide) (mvT hZ (own_w hw 35 rfl)) (mvT hZ (own_w hw 34 rfl)) (backOf (W := 0) (rm_cmp l Z a0 hw [] a1 a2 (0 : Int32) (0 : Int32) mr h0 n0 (Nat.le_trans Z0 K0.1) E1 E2 F1 F2 M) hZ (own_w hw 36 rfl) (own_w hw 22 rfl) (by decide) (by decide)) q16a q16c (g := (mkF m 2 #[rv a1, rv a2] [(.ref a2), (.ref a1)])) rfl (by rw [hml]; rfl) (Steps.refl _) (argsL := [(.ref a2)]) (rest := []) (lenOf pd__Ljava_lang_Enum__I_627 rfl) rfl (by show 2 * 0 + _ ≤ _; exact Nat.le_of_eq rfl) (hb hby d6_2) (fun _ _ => ⟨rfl, e0, (by decide : 0 + 0 ≤ _), (by decide : 0 + 0 ≤ _)⟩)
  dsimp only [Pt.U, Pt.locs, Pt.cells, Pt.slots] at X16 l16 y16 z16 st16 hQ16
  subst l16 y16 z16
  obtain ⟨rfl, N16q, e16⟩ := hQ16
  skip
  have N16 := Fr.app N0 N16q
  refine own_tr st16 ?_
  show own_Fin p e below G (T16.setTop (mkF m 5 #[rv a1, rv a2] [(.int (0 : Int32))]))
  refine own_st (fun _ k => XS.ifNo X16.here hx rfl (hb hby d6_5) rfl ((if0 _ _).trans (flt (by decide : ¬ ((0 : Int32) < (0 : Int32)))).1) k) ?_
  show own_Fin p e below G (T16.setTop (mkF m 8 #[rv a1, rv a2] []))
  refine own_st (fun _ k => XS.aloadN X16.here hx rfl (hb hby d6_8) rfl rfl k) ?_
  show own_Fin p e below G (T16.setTop (mkF m 9 #[rv a1, rv a2] [(.ref a1)]))
  refine own_st (fun _ k => XS.goto X16.here hx rfl (pc0 := 9) (pc' := 13) rfl (hb hby d6_9) (by decide) (by decide) k) ?_
  show own_Fin p e below G (T16.setTop (mkF m 13 #[rv a1, rv a2] [(.ref a1)]))
  refine own_out X16 Bd.notSynchronized (v := (some (.ref a1))) (fun h => by rw [Bd.returns] at h; cases h) hG (fun fs hr => retOut X16 hx Bd.returns rfl (Or.inr (Or.inr (Or.inr (Or.inr ⟨rfl, rfl, rfl⟩)))) (hb hby d6_13) hr) (by decide) (by decide) ?_
  exact ⟨rfl, N16, e16⟩

theorem d6_12 : decode prog_15_method_7_code 12 = .ok (.aload_n 1, 1) := by decide +kernel
def Qrm_or02 (Z : State) (a1 : Addr) (a2 : Addr) (mr : Addr) (h0 : Heap) (n0 : Nat) (v : Option Value) (h : Heap) (L : List Loc) : Prop := v = some (.ref a2) ∧ Fr n0 L ∧ h = h0
set_option maxRecDepth 65536 in
set_option maxHeartbeats 40000000 in
theorem rm_or02 (l : Launch) (Z : State) (a0 : Array Value) (hw : ∀ d ∈ tables_1, d.before a0 Z = true) (ws : List Jvm.Cond) (a1 : Addr) (a2 : Addr) (mr : Addr) (h0 : Heap) (n0 : Nat) (Z0 : n0 ≤ h0.size) (E1 : Exa Z h0 a1 "com/example/attributes_to_entitlements/attributestoentitlements/Truth") (E2 : Exa Z h0 a2 "com/example/attributes_to_entitlements/attributestoentitlements/Truth") (F1 : Fld Z h0 a1 "java/lang/Enum" "ordinal" "I" (.int (0 : Int32))) (F2 : Fld Z h0 a2 "java/lang/Enum" "ordinal" "I" (.int (2 : Int32))) (M : own_Mir Z "com/example/attributes_to_entitlements/attributestoentitlements/Truth" mr) :
    MetFree l own_y7 (head1 (Jvm.Cond.code own_y7 prog_15_method_7_code 2 (some (.object "com/example/attributes_to_entitlements/attributestoentitlements/Truth")) :: ws) ({ frames := 2, cells := 0, slots := 0, locals := 30 } : Room)) (fun a U => a = #[(.ref a1), (.ref a2)] ∧ Z.Warmed39 U.vm ∧ U.heap = h0) (fun _ _ _ _ _ => True) (fun _ U o U' => ∃ v L, o = .returned v ∧ Qrm_or02 Z a1 a2 mr h0 n0 v U'.heap L ∧ FrameEnd U o U' L ({ frames := 2, cells := 0, slots := 0, locals := 30 } : Room).cells ({ frames := 2, cells := 0, slots := 0, locals := 30 } : Room).slots) := by
  refine MetFree.of_bodySF (plainFor_of_name pn_com_example_attributes_to_entitlements_attributestoentitlements_Truth) hisR ?_
  intro p e s m args below meth c s₁ Bd hml0 hP hK
  obtain ⟨rfl, hZ, hh⟩ := hP
  have hx := Bd.exec
  have hby := Bd.bytes
  have hml : c.maxLocals = 2 := hml0
  have hown : s.vm.findClass "com/example/attributes_to_entitlements/attributestoentitlements/Truth" = some m.cls := findClass_of_methodNamed Bd.named
  have hnm := (name_of_methodNamed Bd.named Bd.method).1
  have X0 : Stand p l e ({ frames := 2, cells := 0, slots := 0, locals := 30 } : Room) s m #[(.ref a1), (.ref a2)] below meth c s₁ [] 0 0 := Stand.of_body Bd
  have e0 : s₁.heap = h0 := by rw [← hh, Bd.state]; rfl
  have N0 := Fr.nil n0
  have K0 : Keep h0 h0 [] := Keep.refl _ _
  refine own_start (Qk := Qrm_or02 Z a1 a2 mr h0 n0) (fun G hG => ?_)
  refine own_st (fun _ k => castTop (ef_6_RR m a1 a2) k) ?_
  show own_Fin p e below G (s₁.setTop (mkF m 0 #[rv a1, rv a2] []))
  refine own_st (fun _ k => XS.aloadN X0.here hx rfl (hb hby d6_0) rfl rfl k) ?_
  show own_Fin p e below G (s₁.setTop (mkF m 1 #[rv a1, rv a2] [(.ref a1)]))
  refine own_st (fun _ k => XS.aloadN X0.here hx rfl (hb hby d6_1) rfl rfl k) ?_
  show own_Fin p e below G (s₁.setTop (mkF m 2 #[rv a1, rv a2] [(.ref a2), (.ref a1)]))
  obtain ⟨cq17, kq17, q17a, q17b, q17c⟩ := isOf hZ e0 E1
  obtain ⟨_, _, ⟨T17, L17, k17, n17⟩, -, X17, ⟨Lc17, hQ17, l17, y17, z17⟩, st17⟩ := X0.virtualBackUp hx (x := own_y5) (y := own_y4) (owner := "java/lang/Enum") hown (mvT hZ (own_w hw 31 rfl)) (mvT hZ (own_w hw 32 rfl)) (mvT hZ (own_w hw 33 rfl)) (by decide) (mvT hZ (own_w hw 35 rfl)) (mvT hZ (own_w hw 34 rfl)) (backOf (W := 0) (rm_cmp l Z a0 hw [] a1 a2 (0 : Int32) (2 : Int32) mr h0 n0 (Nat.le_trans Z0 K0.1) E1 E2 F1 F2 M) hZ (own_w hw 36 rfl) (own_w hw 22 rfl) (by decide) (by decide)) q17a q17c (g := (mkF m 2 #[rv a1, rv a2] [(.ref a2), (.ref a1)])) rfl (by rw [hml]; rfl) (Steps.refl _) (argsL := [(.ref a2)]) (rest := []) (lenOf pd__Ljava_lang_Enum__I_627 rfl) rfl (by show 2 * 0 + _ ≤ _; exact Nat.le_of_eq rfl) (hb hby d6_2) (fun _ _ => ⟨rfl, e0, (by decide : 0 + 0 ≤ _), (by decide : 0 + 0 ≤ _)⟩)
  dsimp only [Pt.U, Pt.locs, Pt.cells, Pt.slots] at X17 l17 y17 z17 st17 hQ17
  subst l17 y17 z17
  obtain ⟨rfl, N17q, e17⟩ := hQ17
  skip
  have N17 := Fr.app N0 N17q
  refine own_tr st17 ?_
  show own_Fin p e below G (T17.setTop (mkF m 5 #[rv a1, rv a2] [(.int (-2 : Int32))]))
  refine own_st (fun _ k => XS.ifYes X17.here hx rfl (pc0 := 5) (pc' := 12) rfl (hb hby d6_5) rfl ((if0 _ _).trans (tlt (by decide : ((-2 : Int32) < (0 : Int32)))).1) (by decide) (by decide) k) ?_
  show own_Fin p e below G (T17.setTop (mkF m 12 #[rv a1, rv a2] []))
  refine own_st (fun _ k => XS.aloadN X17.here hx rfl (hb hby d6_12) rfl rfl k) ?_
  show own_Fin p e below G (T17.setTop (mkF m 13 #[rv a1, rv a2] [(.ref a2)]))
  refine own_out X17 Bd.notSynchronized (v := (some (.ref a2))) (fun h => by rw [Bd.returns] at h; cases h) hG (fun fs hr => retOut X17 hx Bd.returns rfl (Or.inr (Or.inr (Or.inr (Or.inr ⟨rfl, rfl, rfl⟩)))) (hb hby d6_13) hr) (by decide) (by decide) ?_
  exact ⟨rfl, N17, e17⟩

def Qrm_or20 (Z : State) (a1 : Addr) (a2 : Addr) (mr : Addr) (h0 : Heap) (n0 : Nat) (v : Option Value) (h : Heap) (L : List Loc) : Prop := v = some (.ref a1) ∧ Fr n0 L ∧ h = h0
set_option maxRecDepth 65536 in
set_option maxHeartbeats 40000000 in
theorem rm_or20 (l : Launch) (Z : State) (a0 : Array Value) (hw : ∀ d ∈ tables_1, d.before a0 Z = true) (ws : List Jvm.Cond) (a1 : Addr) (a2 : Addr) (mr : Addr) (h0 : Heap) (n0 : Nat) (Z0 : n0 ≤ h0.size) (E1 : Exa Z h0 a1 "com/example/attributes_to_entitlements/attributestoentitlements/Truth") (E2 : Exa Z h0 a2 "com/example/attributes_to_entitlements/attributestoentitlements/Truth") (F1 : Fld Z h0 a1 "java/lang/Enum" "ordinal" "I" (.int (2 : Int32))) (F2 : Fld Z h0 a2 "java/lang/Enum" "ordinal" "I" (.int (0 : Int32))) (M : own_Mir Z "com/example/attributes_to_entitlements/attributestoentitlements/Truth" mr) :
    MetFree l own_y7 (head1 (Jvm.Cond.code own_y7 prog_15_method_7_code 2 (some (.object "com/example/attributes_to_entitlements/attributestoentitlements/Truth")) :: ws) ({ frames := 2, cells := 0, slots := 0, locals := 30 } : Room)) (fun a U => a = #[(.ref a1), (.ref a2)] ∧ Z.Warmed39 U.vm ∧ U.heap = h0) (fun _ _ _ _ _ => True) (fun _ U o U' => ∃ v L, o = .returned v ∧ Qrm_or20 Z a1 a2 mr h0 n0 v U'.heap L ∧ FrameEnd U o U' L ({ frames := 2, cells := 0, slots := 0, locals := 30 } : Room).cells ({ frames := 2, cells := 0, slots := 0, locals := 30 } : Room).slots) := by
  refine MetFree.of_bodySF (plainFor_of_name pn_com_example_attributes_to_entitlements_attributestoentitlements_Truth) hisR ?_
  intro p e s m args below meth c s₁ Bd hml0 hP hK
  obtain ⟨rfl, hZ, hh⟩ := hP
  have hx := Bd.exec
  have hby := Bd.bytes
  have hml : c.maxLocals = 2 := hml0
  have hown : s.vm.findClass "com/example/attributes_to_entitlements/attributestoentitlements/Truth" = some m.cls := findClass_of_methodNamed Bd.named
  have hnm := (name_of_methodNamed Bd.named Bd.method).1
  have X0 : Stand p l e ({ frames := 2, cells := 0, slots := 0, locals := 30 } : Room) s m #[(.ref a1), (.ref a2)] below meth c s₁ [] 0 0 := Stand.of_body Bd
  have e0 : s₁.heap = h0 := by rw [← hh, Bd.state]; rfl
  have N0 := Fr.nil n0
  have K0 : Keep h0 h0 [] := Keep.refl _ _
  refine own_start (Qk := Qrm_or20 Z a1 a2 mr h0 n0) (fun G hG => ?_)
  refine own_st (fun _ k => castTop (ef_6_RR m a1 a2) k) ?_
  show own_Fin p e below G (s₁.setTop (mkF m 0 #[rv a1, rv a2] []))
  refine own_st (fun _ k => XS.aloadN X0.here hx rfl (hb hby d6_0) rfl rfl k) ?_
  show own_Fin p e below G (s₁.setTop (mkF m 1 #[rv a1, rv a2] [(.ref a1)]))
  refine own_st (fun _ k => XS.aloadN X0.here hx rfl (hb hby d6_1) rfl rfl k) ?_
  show own_Fin p e below G (s₁.setTop (mkF m 2 #[rv a1, rv a2] [(.ref a2), (.ref a1)]))
  obtain ⟨cq18, kq18, q18a, q18b, q18c⟩ := isOf hZ e0 E1
  obtain ⟨_, _, ⟨T18, L18, k18, n18⟩, -, X18, ⟨Lc18, hQ18, l18, y18, z18⟩, st18⟩ := X0.virtualBackUp hx (x := own_y5) (y := own_y4) (owner := "java/lang/Enum") hown (mvT hZ (own_w hw 31 rfl)) (mvT hZ (own_w hw 32 rfl)) (mvT hZ (own_w hw 33 rfl)) (by decide) (mvT hZ (own_w hw 35 rfl)) (mvT hZ (own_w hw 34 rfl)) (backOf (W := 0) (rm_cmp l Z a0 hw [] a1 a2 (2 : Int32) (0 : Int32) mr h0 n0 (Nat.le_trans Z0 K0.1) E1 E2 F1 F2 M) hZ (own_w hw 36 rfl) (own_w hw 22 rfl) (by decide) (by decide)) q18a q18c (g := (mkF m 2 #[rv a1, rv a2] [(.ref a2), (.ref a1)])) rfl (by rw [hml]; rfl) (Steps.refl _) (argsL := [(.ref a2)]) (rest := []) (lenOf pd__Ljava_lang_Enum__I_627 rfl) rfl (by show 2 * 0 + _ ≤ _; exact Nat.le_of_eq rfl) (hb hby d6_2) (fun _ _ => ⟨rfl, e0, (by decide : 0 + 0 ≤ _), (by decide : 0 + 0 ≤ _)⟩)
  dsimp only [Pt.U, Pt.locs, Pt.cells, Pt.slots] at X18 l18 y18 z18 st18 hQ18
  subst l18 y18 z18
  obtain ⟨rfl, N18q, e18⟩ := hQ18
  skip
  have N18 := Fr.app N0 N18q
  refine own_tr st18 ?_
  show own_Fin p e below G (T18.setTop (mkF m 5 #[rv a1, rv a2] [(.int (2 : Int32))]))
  refine own_st (fun _ k => XS.ifNo X18.here hx rfl (hb hby d6_5) rfl ((if0 _ _).trans (flt (by decide : ¬ ((2 : Int32) < (0 : Int32)))).1) k) ?_
  show own_Fin p e below G (T18.setTop (mkF m 8 #[rv a1, rv a2] []))
  refine own_st (fun _ k => XS.aloadN X18.here hx rfl (hb hby d6_8) rfl rfl k) ?_
  show own_Fin p e below G (T18.setTop (mkF m 9 #[rv a1, rv a2] [(.ref a1)]))
  refine own_st (fun _ k => XS.goto X18.here hx rfl (pc0 := 9) (pc' := 13) rfl (hb hby d6_9) (by decide) (by decide) k) ?_
  show own_Fin p e below G (T18.setTop (mkF m 13 #[rv a1, rv a2] [(.ref a1)]))
  refine own_out X18 Bd.notSynchronized (v := (some (.ref a1))) (fun h => by rw [Bd.returns] at h; cases h) hG (fun fs hr => retOut X18 hx Bd.returns rfl (Or.inr (Or.inr (Or.inr (Or.inr ⟨rfl, rfl, rfl⟩)))) (hb hby d6_13) hr) (by decide) (by decide) ?_
  exact ⟨rfl, N18, e18⟩

def Qrm_or22 (Z : State) (a1 : Addr) (a2 : Addr) (mr : Addr) (h0 : Heap) (n0 : Nat) (v : Option Value) (h : Heap) (L : List Loc) : Prop := v = some (.ref a1) ∧ Fr n0 L ∧ h = h0
set_option maxRecDepth 65536 in
set_option maxHeartbeats 40000000 in
theorem rm_or22 (l : Launch) (Z : State) (a0 : Array Value) (hw : ∀ d ∈ tables_1, d.before a0 Z = true) (ws : List Jvm.Cond) (a1 : Addr) (a2 : Addr) (mr : Addr) (h0 : Heap) (n0 : Nat) (Z0 : n0 ≤ h0.size) (E1 : Exa Z h0 a1 "com/example/attributes_to_entitlements/attributestoentitlements/Truth") (E2 : Exa Z h0 a2 "com/example/attributes_to_entitlements/attributestoentitlements/Truth") (F1 : Fld Z h0 a1 "java/lang/Enum" "ordinal" "I" (.int (2 : Int32))) (F2 : Fld Z h0 a2 "java/lang/Enum" "ordinal" "I" (.int (2 : Int32))) (M : own_Mir Z "com/example/attributes_to_entitlements/attributestoentitlements/Truth" mr) :
    MetFree l own_y7 (head1 (Jvm.Cond.code own_y7 prog_15_method_7_code 2 (some (.object "com/example/attributes_to_entitlements/attributestoentitlements/Truth")) :: ws) ({ frames := 2, cells := 0, slots := 0, locals := 30 } : Room)) (fun a U => a = #[(.ref a1), (.ref a2)] ∧ Z.Warmed39 U.vm ∧ U.heap = h0) (fun _ _ _ _ _ => True) (fun _ U o U' => ∃ v L, o = .returned v ∧ Qrm_or22 Z a1 a2 mr h0 n0 v U'.heap L ∧ FrameEnd U o U' L ({ frames := 2, cells := 0, slots := 0, locals := 30 } : Room).cells ({ frames := 2, cells := 0, slots := 0, locals := 30 } : Room).slots) := by
  refine MetFree.of_bodySF (plainFor_of_name pn_com_example_attributes_to_entitlements_attributestoentitlements_Truth) hisR ?_
  intro p e s m args below meth c s₁ Bd hml0 hP hK
  obtain ⟨rfl, hZ, hh⟩ := hP
  have hx := Bd.exec
  have hby := Bd.bytes
  have hml : c.maxLocals = 2 := hml0
  have hown : s.vm.findClass "com/example/attributes_to_entitlements/attributestoentitlements/Truth" = some m.cls := findClass_of_methodNamed Bd.named
  have hnm := (name_of_methodNamed Bd.named Bd.method).1
  have X0 : Stand p l e ({ frames := 2, cells := 0, slots := 0, locals := 30 } : Room) s m #[(.ref a1), (.ref a2)] below meth c s₁ [] 0 0 := Stand.of_body Bd
  have e0 : s₁.heap = h0 := by rw [← hh, Bd.state]; rfl
  have N0 := Fr.nil n0
  have K0 : Keep h0 h0 [] := Keep.refl _ _
  refine own_start (Qk := Qrm_or22 Z a1 a2 mr h0 n0) (fun G hG => ?_)
  refine own_st (fun _ k => castTop (ef_6_RR m a1 a2) k) ?_
  show own_Fin p e below G (s₁.setTop (mkF m 0 #[rv a1, rv a2] []))
  refine own_st (fun _ k => XS.aloadN X0.here hx rfl (hb hby d6_0) rfl rfl k) ?_
  show own_Fin p e below G (s₁.setTop (mkF m 1 #[rv a1, rv a2] [(.ref a1)]))
  refine own_st (fun _ k => XS.aloadN X0.here hx rfl (hb hby d6_1) rfl rfl k) ?_
  show own_Fin p e below G (s₁.setTop (mkF m 2 #[rv a1, rv a2] [(.ref a2), (.ref a1)]))
  obtain ⟨cq19, kq19, q19a, q19b, q19c⟩ := isOf hZ e0 E1
  obtain ⟨_, _, ⟨T19, L19, k19, n19⟩, -, X19, ⟨Lc19, hQ19, l19, y19, z19⟩, st19⟩ := X0.virtualBackUp hx (x := own_y5) (y := own_y4) (owner := "java/lang/Enum") hown (mvT hZ (own_w hw 31 rfl)) (mvT hZ (own_w hw 32 rfl)) (mvT hZ (own_w hw 33 rfl)) (by decide) (mvT hZ (own_w hw 35 rfl)) (mvT hZ (own_w hw 34 rfl)) (backOf (W := 0) (rm_cmp l Z a0 hw [] a1 a2 (2 : Int32) (2 : Int32) mr h0 n0 (Nat.le_trans Z0 K0.1) E1 E2 F1 F2 M) hZ (own_w hw 36 rfl) (own_w hw 22 rfl) (by decide) (by decide)) q19a q19c (g := (mkF m 2 #[rv a1, rv a2] [(.ref a2), (.ref a1)])) rfl (by rw [hml]; rfl) (Steps.refl _) (argsL := [(.ref a2)]) (rest := []) (lenOf pd__Ljava_lang_Enum__I_627 rfl) rfl (by show 2 * 0 + _ ≤ _; exact Nat.le_of_eq rfl) (hb hby d6_2) (fun _ _ => ⟨rfl, e0, (by decide : 0 + 0 ≤ _), (by decide : 0 + 0 ≤ _)⟩)
  dsimp only [Pt.U, Pt.locs, Pt.cells, Pt.slots] at X19 l19 y19 z19 st19 hQ19
  subst l19 y19 z19
  obtain ⟨rfl, N19q, e19⟩ := hQ19
  skip
  have N19 := Fr.app N0 N19q
  refine own_tr st19 ?_
  show own_Fin p e below G (T19.setTop (mkF m 5 #[rv a1, rv a2] [(.int (0 : Int32))]))
  refine own_st (fun _ k => XS.ifNo X19.here hx rfl (hb hby d6_5) rfl ((if0 _ _).trans (flt (by decide : ¬ ((0 : Int32) < (0 : Int32)))).1) k) ?_
  show own_Fin p e below G (T19.setTop (mkF m 8 #[rv a1, rv a2] []))
  refine own_st (fun _ k => XS.aloadN X19.here hx rfl (hb hby d6_8) rfl rfl k) ?_
  show own_Fin p e below G (T19.setTop (mkF m 9 #[rv a1, rv a2] [(.ref a1)]))
  refine own_st (fun _ k => XS.goto X19.here hx rfl (pc0 := 9) (pc' := 13) rfl (hb hby d6_9) (by decide) (by decide) k) ?_
  show own_Fin p e below G (T19.setTop (mkF m 13 #[rv a1, rv a2] [(.ref a1)]))
  refine own_out X19 Bd.notSynchronized (v := (some (.ref a1))) (fun h => by rw [Bd.returns] at h; cases h) hG (fun fs hr => retOut X19 hx Bd.returns rfl (Or.inr (Or.inr (Or.inr (Or.inr ⟨rfl, rfl, rfl⟩)))) (hb hby d6_13) hr) (by decide) (by decide) ?_
  exact ⟨rfl, N19, e19⟩

theorem pd__Z_Lcom_example_attributes_to_entitlements_attributestoentitlements_Truth__567 : parseMethodDescriptor "(Z)Lcom/example/attributes_to_entitlements/attributestoentitlements/Truth;" = some ⟨[.boolean], some (.object "com/example/attributes_to_entitlements/attributestoentitlements/Truth")⟩ := by decide +kernel
theorem pd___Lcom_example_attributes_to_entitlements_attributestoentitlements_Truth__477 : parseMethodDescriptor "()Lcom/example/attributes_to_entitlements/attributestoentitlements/Truth;" = some ⟨[], some (.object "com/example/attributes_to_entitlements/attributestoentitlements/Truth")⟩ := by decide +kernel
theorem pd__Lcom_example_attributes_to_entitlements_attributestoentitlements_Truth__Lcom_example_attributes_to_entitlements_attributestoentitlements_Truth__873 : parseMethodDescriptor "(Lcom/example/attributes_to_entitlements/attributestoentitlements/Truth;)Lcom/example/attributes_to_entitlements/attributestoentitlements/Truth;" = some ⟨[(.object "com/example/attributes_to_entitlements/attributestoentitlements/Truth")], some (.object "com/example/attributes_to_entitlements/attributestoentitlements/Truth")⟩ := by decide +kernel
theorem pn_com_example_attributes_to_entitlements_attributestoentitlements_TruthOfPinLaw : plainName "com/example/attributes_to_entitlements/attributestoentitlements/TruthOfPinLaw" = true := by first | (simp [plainName, overriddenIn]; done) | decide +kernel
theorem ef_0_II (m : MethodId) (x0 : Int32) (x1 : Int32) : entryFrame m #[(.int x0), (.int x1)] maxLocals = mkF m 0 #[iv x0, iv x1, .unset, .unset, .unset, .unset, .unset, .unset, .unset, .unset] [] := by first | (simp [entryFrame, mkF, argsToLocals, Value.category, maxLocals]; done) | rfl
def Qrm0 (Z : State) (p1 : Int32) (p2 : Int32) (a_FALSE : Addr) (a_UNKNOWN : Addr) (a_TRUE : Addr) (mr : Addr) (h0 : Heap) (n0 : Nat) (v : Option Value) (h : Heap) (L : List Loc) : Prop := v = some (.int 1) ∧ Fr n0 L
set_option maxRecDepth 65536 in
set_option maxHeartbeats 40000000 in
theorem rm0 (l : Launch) (Z : State) (a0 : Array Value) (hw : ∀ d ∈ tables_1, d.before a0 Z = true) (ws : List Jvm.Cond) (p1 : Int32) (p2 : Int32) (a_FALSE : Addr) (a_UNKNOWN : Addr) (a_TRUE : Addr) (mr : Addr) (h0 : Heap) (n0 : Nat) (Z0 : n0 ≤ h0.size) (Ea_FALSE : Exa Z h0 a_FALSE "com/example/attributes_to_entitlements/attributestoentitlements/Truth") (Sa_FALSE : Sta Z h0 "com/example/attributes_to_entitlements/attributestoentitlements/Truth" "FALSE" "Lcom/example/attributes_to_entitlements/attributestoentitlements/Truth;" (.ref a_FALSE)) (Ea_TRUE : Exa Z h0 a_TRUE "com/example/attributes_to_entitlements/attributestoentitlements/Truth") (Sa_TRUE : Sta Z h0 "com/example/attributes_to_entitlements/attributestoentitlements/Truth" "TRUE" "Lcom/example/attributes_to_entitlements/attributestoentitlements/Truth;" (.ref a_TRUE)) (Ea_UNKNOWN : Exa Z h0 a_UNKNOWN "com/example/attributes_to_entitlements/attributestoentitlements/Truth") (Sa_UNKNOWN : Sta Z h0 "com/example/attributes_to_entitlements/attributestoentitlements/Truth" "UNKNOWN" "Lcom/example/attributes_to_entitlements/attributestoentitlements/Truth;" (.ref a_UNKNOWN)) (Fa_FALSE_ordinal : Fld Z h0 a_FALSE "java/lang/Enum" "ordinal" "I" (.int (0 : Int32))) (Fa_TRUE_ordinal : Fld Z h0 a_TRUE "java/lang/Enum" "ordinal" "I" (.int (2 : Int32))) (Fa_UNKNOWN_ordinal : Fld Z h0 a_UNKNOWN "java/lang/Enum" "ordinal" "I" (.int (1 : Int32))) (M : own_Mir Z "com/example/attributes_to_entitlements/attributestoentitlements/Truth" mr) :
    MetFree l x (head1 (Jvm.Cond.code x code maxLocals ret :: ws) room_1) (fun a U => a = #[(.int p1), (.int p2)] ∧ Z.Warmed39 U.vm ∧ U.heap = h0) (fun _ _ _ _ _ => True) (fun _ U o U' => ∃ v L, o = .returned v ∧ Qrm0 Z p1 p2 a_FALSE a_UNKNOWN a_TRUE mr h0 n0 v U'.heap L ∧ FrameEnd U o U' L room_1.cells room_1.slots) := by
  refine MetFree.of_bodySF (plainFor_of_name pn_com_example_attributes_to_entitlements_attributestoentitlements_TruthOfPinLaw) hisR ?_
  intro p e s m args below meth c s₁ Bd hml0 hP hK
  obtain ⟨rfl, hZ, hh⟩ := hP
  have hx := Bd.exec
  have hby := Bd.bytes
  have hml : c.maxLocals = 10 := hml0
  have hown : s.vm.findClass "com/example/attributes_to_entitlements/attributestoentitlements/TruthOfPinLaw" = some m.cls := findClass_of_methodNamed Bd.named
  have hnm := (name_of_methodNamed Bd.named Bd.method).1
  have X0 : Stand p l e room_1 s m #[(.int p1), (.int p2)] below meth c s₁ [] 0 0 := Stand.of_body Bd
  have e0 : s₁.heap = h0 := by rw [← hh, Bd.state]; rfl
  have N0 := Fr.nil n0
  have K0 : Keep h0 h0 [] := Keep.refl _ _
  have ne_a_FALSE_a_UNKNOWN : a_FALSE ≠ a_UNKNOWN := Fld.ne Fa_FALSE_ordinal Fa_UNKNOWN_ordinal (by decide)
  have ne_a_FALSE_a_TRUE : a_FALSE ≠ a_TRUE := Fld.ne Fa_FALSE_ordinal Fa_TRUE_ordinal (by decide)
  have ne_a_TRUE_a_UNKNOWN : a_TRUE ≠ a_UNKNOWN := Fld.ne Fa_TRUE_ordinal Fa_UNKNOWN_ordinal (by decide)
  refine own_start (Qk := Qrm0 Z p1 p2 a_FALSE a_UNKNOWN a_TRUE mr h0 n0) (fun G hG => ?_)
  refine own_st (fun _ k => castTop (ef_0_II m p1 p2) k) ?_
  show own_Fin p e below G (s₁.setTop (mkF m 0 #[iv p1, iv p2, .unset, .unset, .unset, .unset, .unset, .unset, .unset, .unset] []))
  refine own_st (fun _ k => XS.iloadN X0.here hx rfl (hb hby at_0) rfl  k) ?_
  show own_Fin p e below G (s₁.setTop (mkF m 1 #[iv p1, iv p2, .unset, .unset, .unset, .unset, .unset, .unset, .unset, .unset] [(.int p1)]))
  refine own_st (fun _ k => XS.iconst X0.here hx rfl (hb hby at_1) k) ?_
  show own_Fin p e below G (s₁.setTop (mkF m 2 #[iv p1, iv p2, .unset, .unset, .unset, .unset, .unset, .unset, .unset, .unset] [(.int (1 : Int32)), (.int p1)]))
  refine own_st (fun _ k => XS.iand X0.here hx rfl (hb hby at_2) rfl k) ?_
  show own_Fin p e below G (s₁.setTop (mkF m 3 #[iv p1, iv p2, .unset, .unset, .unset, .unset, .unset, .unset, .unset, .unset] [(.int (p1 &&& (1 : Int32)))]))
  by_cases hc3_20 : (p1 &&& (1 : Int32)) = (0 : Int32)
  · refine own_st (fun _ k => XS.ifYes X0.here hx rfl (pc0 := 3) (pc' := 10) rfl (hb hby at_3) rfl ((if0 _ _).trans (teq hc3_20).1) (by decide) (by decide) k) ?_
    show own_Fin p e below G (s₁.setTop (mkF m 10 #[iv p1, iv p2, .unset, .unset, .unset, .unset, .unset, .unset, .unset, .unset] []))
    refine own_st (fun _ k => XS.iconst X0.here hx rfl (hb hby at_10) k) ?_
    show own_Fin p e below G (s₁.setTop (mkF m 11 #[iv p1, iv p2, .unset, .unset, .unset, .unset, .unset, .unset, .unset, .unset] [(.int (0 : Int32))]))
    refine own_st (fun _ k => XS.istoreN X0.here hx rfl (hb hby at_11) rfl (l' := #[iv p1, iv p2, iv (0 : Int32), .unset, .unset, .unset, .unset, .unset, .unset, .unset]) rfl k) ?_
    show own_Fin p e below G (s₁.setTop (mkF m 12 #[iv p1, iv p2, iv (0 : Int32), .unset, .unset, .unset, .unset, .unset, .unset, .unset] []))
    refine own_st (fun _ k => XS.iloadN X0.here hx rfl (hb hby at_12) rfl  k) ?_
    show own_Fin p e below G (s₁.setTop (mkF m 13 #[iv p1, iv p2, iv (0 : Int32), .unset, .unset, .unset, .unset, .unset, .unset, .unset] [(.int p2)]))
    refine own_st (fun _ k => XS.iconst X0.here hx rfl (hb hby at_13) k) ?_
    show own_Fin p e below G (s₁.setTop (mkF m 14 #[iv p1, iv p2, iv (0 : Int32), .unset, .unset, .unset, .unset, .unset, .unset, .unset] [(.int (1 : Int32)), (.int p2)]))
    refine own_st (fun _ k => XS.iand X0.here hx rfl (hb hby at_14) rfl k) ?_
    show own_Fin p e below G (s₁.setTop (mkF m 15 #[iv p1, iv p2, iv (0 : Int32), .unset, .unset, .unset, .unset, .unset, .unset, .unset] [(.int (p2 &&& (1 : Int32)))]))
    by_cases hc15_21 : (p2 &&& (1 : Int32)) = (0 : Int32)
    · refine own_st (fun _ k => XS.ifYes X0.here hx rfl (pc0 := 15) (pc' := 22) rfl (hb hby at_15) rfl ((if0 _ _).trans (teq hc15_21).1) (by decide) (by decide) k) ?_
      show own_Fin p e below G (s₁.setTop (mkF m 22 #[iv p1, iv p2, iv (0 : Int32), .unset, .unset, .unset, .unset, .unset, .unset, .unset] []))
      refine own_st (fun _ k => XS.iconst X0.here hx rfl (hb hby at_22) k) ?_
      show own_Fin p e below G (s₁.setTop (mkF m 23 #[iv p1, iv p2, iv (0 : Int32), .unset, .unset, .unset, .unset, .unset, .unset, .unset] [(.int (0 : Int32))]))
      refine own_st (fun _ k => XS.istoreN X0.here hx rfl (hb hby at_23) rfl (l' := #[iv p1, iv p2, iv (0 : Int32), iv (0 : Int32), .unset, .unset, .unset, .unset, .unset, .unset]) rfl k) ?_
      show own_Fin p e below G (s₁.setTop (mkF m 24 #[iv p1, iv p2, iv (0 : Int32), iv (0 : Int32), .unset, .unset, .unset, .unset, .unset, .unset] []))
      refine own_st (fun _ k => XS.iloadN X0.here hx rfl (hb hby at_24) rfl  k) ?_
      show own_Fin p e below G (s₁.setTop (mkF m 25 #[iv p1, iv p2, iv (0 : Int32), iv (0 : Int32), .unset, .unset, .unset, .unset, .unset, .unset] [(.int (0 : Int32))]))
      obtain ⟨_, _, ⟨T22, L22, k22, n22⟩, -, X22, ⟨Lc22, hQ22, l22, y22, z22⟩, st22⟩ := Jvm.LawKit.callS X0 hx (y := own_y0) hown (mvT hZ (own_w hw 0 rfl)) (mvT hZ (own_w hw 1 rfl)) (mvT hZ (own_w hw 2 rfl)) (mvT hZ (own_w hw 3 rfl)) (by decide) (backOf (W := 0) (rm_of0 l Z a0 hw [] a_FALSE h0 n0 (Nat.le_trans Z0 K0.1) Sa_FALSE) hZ (own_w hw 3 rfl) (own_w hw 2 rfl) (by decide) (by decide)) (g := (mkF m 25 #[iv p1, iv p2, iv (0 : Int32), iv (0 : Int32), .unset, .unset, .unset, .unset, .unset, .unset] [(.int (0 : Int32))])) rfl (by rw [hml]; rfl) (argsL := [(.int (0 : Int32))]) (rest := []) (lenOf pd__Z_Lcom_example_attributes_to_entitlements_attributestoentitlements_Truth__567 rfl) rfl (by show 2 * 0 + _ ≤ _; exact Nat.le_of_eq rfl) (hb hby at_25) (fun _ _ => ⟨rfl, e0, (by decide : 0 + 0 ≤ _), (by decide : 0 + 0 ≤ _)⟩)
      dsimp only [Pt.U, Pt.locs, Pt.cells, Pt.slots] at X22 l22 y22 z22 st22 hQ22
      subst l22 y22 z22
      obtain ⟨rfl, N22q, e22⟩ := hQ22
      skip
      have N22 := Fr.app N0 N22q
      refine own_st st22 ?_
      show own_Fin p e below G (T22.setTop (mkF m 28 #[iv p1, iv p2, iv (0 : Int32), iv (0 : Int32), .unset, .unset, .unset, .unset, .unset, .unset] [(.ref a_FALSE)]))
      refine own_st (fun _ k => XS.astore X22.here hx rfl (hb hby at_28) rfl rfl (l' := #[iv p1, iv p2, iv (0 : Int32), iv (0 : Int32), rv a_FALSE, .unset, .unset, .unset, .unset, .unset]) rfl k) ?_
      show own_Fin p e below G (T22.setTop (mkF m 30 #[iv p1, iv p2, iv (0 : Int32), iv (0 : Int32), rv a_FALSE, .unset, .unset, .unset, .unset, .unset] []))
      refine own_st (fun _ k => XS.iloadN X22.here hx rfl (hb hby at_30) rfl  k) ?_
      show own_Fin p e below G (T22.setTop (mkF m 31 #[iv p1, iv p2, iv (0 : Int32), iv (0 : Int32), rv a_FALSE, .unset, .unset, .unset, .unset, .unset] [(.int (0 : Int32))]))
      obtain ⟨_, _, ⟨T23, L23, k23, n23⟩, -, X23, ⟨Lc23, hQ23, l23, y23, z23⟩, st23⟩ := Jvm.LawKit.callS X22 hx (y := own_y0) hown (mvT hZ (own_w hw 0 rfl)) (mvT hZ (own_w hw 1 rfl)) (mvT hZ (own_w hw 2 rfl)) (mvT hZ (own_w hw 3 rfl)) (by decide) (backOf (W := 0) (rm_of0 l Z a0 hw [] a_FALSE h0 n0 (Nat.le_trans Z0 K0.1) Sa_FALSE) hZ (own_w hw 3 rfl) (own_w hw 2 rfl) (by decide) (by decide)) (g := (mkF m 31 #[iv p1, iv p2, iv (0 : Int32), iv (0 : Int32), rv a_FALSE, .unset, .unset, .unset, .unset, .unset] [(.int (0 : Int32))])) rfl (by rw [hml]; rfl) (argsL := [(.int (0 : Int32))]) (rest := []) (lenOf pd__Z_Lcom_example_attributes_to_entitlements_attributestoentitlements_Truth__567 rfl) rfl (by show 2 * 0 + _ ≤ _; exact Nat.le_of_eq rfl) (hb hby at_31) (fun _ _ => ⟨rfl, e22, (by decide : 0 + 0 ≤ _), (by decide : 0 + 0 ≤ _)⟩)
      dsimp only [Pt.U, Pt.locs, Pt.cells, Pt.slots] at X23 l23 y23 z23 st23 hQ23
      subst l23 y23 z23
      obtain ⟨rfl, N23q, e23⟩ := hQ23
      skip
      have N23 := Fr.app N22 N23q
      refine own_st st23 ?_
      show own_Fin p e below G (T23.setTop (mkF m 34 #[iv p1, iv p2, iv (0 : Int32), iv (0 : Int32), rv a_FALSE, .unset, .unset, .unset, .unset, .unset] [(.ref a_FALSE)]))
      refine own_st (fun _ k => XS.astore X23.here hx rfl (hb hby at_34) rfl rfl (l' := #[iv p1, iv p2, iv (0 : Int32), iv (0 : Int32), rv a_FALSE, rv a_FALSE, .unset, .unset, .unset, .unset]) rfl k) ?_
      show own_Fin p e below G (T23.setTop (mkF m 36 #[iv p1, iv p2, iv (0 : Int32), iv (0 : Int32), rv a_FALSE, rv a_FALSE, .unset, .unset, .unset, .unset] []))
      refine own_st (fun _ k => XS.aload X23.here hx rfl (hb hby at_36) rfl rfl k) ?_
      show own_Fin p e below G (T23.setTop (mkF m 38 #[iv p1, iv p2, iv (0 : Int32), iv (0 : Int32), rv a_FALSE, rv a_FALSE, .unset, .unset, .unset, .unset] [(.ref a_FALSE)]))
      obtain ⟨T24, X24, e24, st24⟩ := getS2 X23 hx hZ hown (host := "") (Or.inl (own_w hw 8 rfl)) Via.refl e23 Sa_TRUE (g := (mkF m 38 #[iv p1, iv p2, iv (0 : Int32), iv (0 : Int32), rv a_FALSE, rv a_FALSE, .unset, .unset, .unset, .unset] [(.ref a_FALSE)])) rfl (hb hby at_38)
      refine own_st st24 ?_
      show own_Fin p e below G (T24.setTop (mkF m 41 #[iv p1, iv p2, iv (0 : Int32), iv (0 : Int32), rv a_FALSE, rv a_FALSE, .unset, .unset, .unset, .unset] [(.ref a_TRUE), (.ref a_FALSE)]))
      refine own_st (fun _ k => Jvm.RoadKit.acmp (g := (mkF m 41 #[iv p1, iv p2, iv (0 : Int32), iv (0 : Int32), rv a_FALSE, rv a_FALSE, .unset, .unset, .unset, .unset] [(.ref a_TRUE), (.ref a_FALSE)])) X24 hx rfl rfl rfl (pc0 := 41) (pc' := 48) (same := false) rfl (hb hby at_41) rfl (decide_eq_false fun q => ne_a_FALSE_a_TRUE (Value.ref.inj q)) (by decide) (by decide) k) ?_
      show own_Fin p e below G (T24.setTop (mkF m 48 #[iv p1, iv p2, iv (0 : Int32), iv (0 : Int32), rv a_FALSE, rv a_FALSE, .unset, .unset, .unset, .unset] []))
      refine own_st (fun _ k => XS.iconst X24.here hx rfl (hb hby at_48) k) ?_
      show own_Fin p e below G (T24.setTop (mkF m 49 #[iv p1, iv p2, iv (0 : Int32), iv (0 : Int32), rv a_FALSE, rv a_FALSE, .unset, .unset, .unset, .unset] [(.int (0 : Int32))]))
      refine own_st (fun _ k => XS.iloadN X24.here hx rfl (hb hby at_49) rfl  k) ?_
      show own_Fin p e below G (T24.setTop (mkF m 50 #[iv p1, iv p2, iv (0 : Int32), iv (0 : Int32), rv a_FALSE, rv a_FALSE, .unset, .unset, .unset, .unset] [(.int (0 : Int32)), (.int (0 : Int32))]))
      refine own_st (fun _ k => XS.icmpNo X24.here hx rfl (hb hby at_50) rfl (teq (by decide : ((0 : Int32) = (0 : Int32)))).2 k) ?_
      show own_Fin p e below G (T24.setTop (mkF m 53 #[iv p1, iv p2, iv (0 : Int32), iv (0 : Int32), rv a_FALSE, rv a_FALSE, .unset, .unset, .unset, .unset] []))
      refine own_st (fun _ k => XS.aload X24.here hx rfl (hb hby at_53) rfl rfl k) ?_
      show own_Fin p e below G (T24.setTop (mkF m 55 #[iv p1, iv p2, iv (0 : Int32), iv (0 : Int32), rv a_FALSE, rv a_FALSE, .unset, .unset, .unset, .unset] [(.ref a_FALSE)]))
      obtain ⟨T25, X25, e25, st25⟩ := getS2 X24 hx hZ hown (host := "") (Or.inl (own_w hw 9 rfl)) Via.refl e24 Sa_FALSE (g := (mkF m 55 #[iv p1, iv p2, iv (0 : Int32), iv (0 : Int32), rv a_FALSE, rv a_FALSE, .unset, .unset, .unset, .unset] [(.ref a_FALSE)])) rfl (hb hby at_55)
      refine own_st st25 ?_
      show own_Fin p e below G (T25.setTop (mkF m 58 #[iv p1, iv p2, iv (0 : Int32), iv (0 : Int32), rv a_FALSE, rv a_FALSE, .unset, .unset, .unset, .unset] [(.ref a_FALSE), (.ref a_FALSE)]))
      refine own_st (fun _ k => Jvm.RoadKit.acmp (g := (mkF m 58 #[iv p1, iv p2, iv (0 : Int32), iv (0 : Int32), rv a_FALSE, rv a_FALSE, .unset, .unset, .unset, .unset] [(.ref a_FALSE), (.ref a_FALSE)])) X25 hx rfl rfl rfl (pc0 := 58) (pc' := 61) (same := true) rfl (hb hby at_58) rfl (decide_eq_true rfl) (by decide) (by decide) k) ?_
      show own_Fin p e below G (T25.setTop (mkF m 61 #[iv p1, iv p2, iv (0 : Int32), iv (0 : Int32), rv a_FALSE, rv a_FALSE, .unset, .unset, .unset, .unset] []))
      refine own_st (fun _ k => XS.iconst X25.here hx rfl (hb hby at_61) k) ?_
      show own_Fin p e below G (T25.setTop (mkF m 62 #[iv p1, iv p2, iv (0 : Int32), iv (0 : Int32), rv a_FALSE, rv a_FALSE, .unset, .unset, .unset, .unset] [(.int (1 : Int32))]))
      refine own_st (fun _ k => XS.goto X25.here hx rfl (pc0 := 62) (pc' := 66) rfl (hb hby at_62) (by decide) (by decide) k) ?_
      show own_Fin p e below G (T25.setTop (mkF m 66 #[iv p1, iv p2, iv (0 : Int32), iv (0 : Int32), rv a_FALSE, rv a_FALSE, .unset, .unset, .unset, .unset] [(.int (1 : Int32))]))
      refine own_st (fun _ k => XS.iloadN X25.here hx rfl (hb hby at_66) rfl  k) ?_
      show own_Fin p e below G (T25.setTop (mkF m 67 #[iv p1, iv p2, iv (0 : Int32), iv (0 : Int32), rv a_FALSE, rv a_FALSE, .unset, .unset, .unset, .unset] [(.int (0 : Int32)), (.int (1 : Int32))]))
      refine own_st (fun _ k => XS.ifNo X25.here hx rfl (hb hby at_67) rfl ((if0 _ _).trans (teq (by decide : ((0 : Int32) = (0 : Int32)))).2) k) ?_
      show own_Fin p e below G (T25.setTop (mkF m 70 #[iv p1, iv p2, iv (0 : Int32), iv (0 : Int32), rv a_FALSE, rv a_FALSE, .unset, .unset, .unset, .unset] [(.int (1 : Int32))]))
      refine own_st (fun _ k => XS.iconst X25.here hx rfl (hb hby at_70) k) ?_
      show own_Fin p e below G (T25.setTop (mkF m 71 #[iv p1, iv p2, iv (0 : Int32), iv (0 : Int32), rv a_FALSE, rv a_FALSE, .unset, .unset, .unset, .unset] [(.int (1 : Int32)), (.int (1 : Int32))]))
      refine own_st (fun _ k => XS.goto X25.here hx rfl (pc0 := 71) (pc' := 75) rfl (hb hby at_71) (by decide) (by decide) k) ?_
      show own_Fin p e below G (T25.setTop (mkF m 75 #[iv p1, iv p2, iv (0 : Int32), iv (0 : Int32), rv a_FALSE, rv a_FALSE, .unset, .unset, .unset, .unset] [(.int (1 : Int32)), (.int (1 : Int32))]))
      refine own_st (fun _ k => XS.icmpNo X25.here hx rfl (hb hby at_75) rfl (teq (by decide : ((1 : Int32) = (1 : Int32)))).2 k) ?_
      show own_Fin p e below G (T25.setTop (mkF m 78 #[iv p1, iv p2, iv (0 : Int32), iv (0 : Int32), rv a_FALSE, rv a_FALSE, .unset, .unset, .unset, .unset] []))
      refine own_st (fun _ k => XS.aload X25.here hx rfl (hb hby at_78) rfl rfl k) ?_
      show own_Fin p e below G (T25.setTop (mkF m 80 #[iv p1, iv p2, iv (0 : Int32), iv (0 : Int32), rv a_FALSE, rv a_FALSE, .unset, .unset, .unset, .unset] [(.ref a_FALSE)]))
      obtain ⟨T26, X26, e26, st26⟩ := getS2 X25 hx hZ hown (host := "") (Or.inl (own_w hw 10 rfl)) Via.refl e25 Sa_UNKNOWN (g := (mkF m 80 #[iv p1, iv p2, iv (0 : Int32), iv (0 : Int32), rv a_FALSE, rv a_FALSE, .unset, .unset, .unset, .unset] [(.ref a_FALSE)])) rfl (hb hby at_80)
      refine own_st st26 ?_
      show own_Fin p e below G (T26.setTop (mkF m 83 #[iv p1, iv p2, iv (0 : Int32), iv (0 : Int32), rv a_FALSE, rv a_FALSE, .unset, .unset, .unset, .unset] [(.ref a_UNKNOWN), (.ref a_FALSE)]))
      refine own_st (fun _ k => Jvm.RoadKit.acmp (g := (mkF m 83 #[iv p1, iv p2, iv (0 : Int32), iv (0 : Int32), rv a_FALSE, rv a_FALSE, .unset, .unset, .unset, .unset] [(.ref a_UNKNOWN), (.ref a_FALSE)])) X26 hx rfl rfl rfl (pc0 := 83) (pc' := 86) (same := false) rfl (hb hby at_83) rfl (decide_eq_false fun q => ne_a_FALSE_a_UNKNOWN (Value.ref.inj q)) (by decide) (by decide) k) ?_
      show own_Fin p e below G (T26.setTop (mkF m 86 #[iv p1, iv p2, iv (0 : Int32), iv (0 : Int32), rv a_FALSE, rv a_FALSE, .unset, .unset, .unset, .unset] []))
      refine own_st (fun _ k => XS.iconst X26.here hx rfl (hb hby at_86) k) ?_
      show own_Fin p e below G (T26.setTop (mkF m 87 #[iv p1, iv p2, iv (0 : Int32), iv (0 : Int32), rv a_FALSE, rv a_FALSE, .unset, .unset, .unset, .unset] [(.int (1 : Int32))]))
      refine own_st (fun _ k => XS.goto X26.here hx rfl (pc0 := 87) (pc' := 91) rfl (hb hby at_87) (by decide) (by decide) k) ?_
      show own_Fin p e below G (T26.setTop (mkF m 91 #[iv p1, iv p2, iv (0 : Int32), iv (0 : Int32), rv a_FALSE, rv a_FALSE, .unset, .unset, .unset, .unset] [(.int (1 : Int32))]))
      refine own_st (fun _ k => XS.istore X26.here hx rfl (hb hby at_91) rfl (l' := #[iv p1, iv p2, iv (0 : Int32), iv (0 : Int32), rv a_FALSE, rv a_FALSE, iv (1 : Int32), .unset, .unset, .unset]) rfl k) ?_
      show own_Fin p e below G (T26.setTop (mkF m 93 #[iv p1, iv p2, iv (0 : Int32), iv (0 : Int32), rv a_FALSE, rv a_FALSE, iv (1 : Int32), .unset, .unset, .unset] []))
      refine own_st (fun _ k => XS.iloadN X26.here hx rfl (hb hby at_93) rfl  k) ?_
      show own_Fin p e below G (T26.setTop (mkF m 94 #[iv p1, iv p2, iv (0 : Int32), iv (0 : Int32), rv a_FALSE, rv a_FALSE, iv (1 : Int32), .unset, .unset, .unset] [(.int (0 : Int32))]))
      refine own_st (fun _ k => XS.ifNo X26.here hx rfl (hb hby at_94) rfl ((if0 _ _).trans (teq (by decide : ((0 : Int32) = (0 : Int32)))).2) k) ?_
      show own_Fin p e below G (T26.setTop (mkF m 97 #[iv p1, iv p2, iv (0 : Int32), iv (0 : Int32), rv a_FALSE, rv a_FALSE, iv (1 : Int32), .unset, .unset, .unset] []))
      refine own_st (fun _ k => XS.iconst X26.here hx rfl (hb hby at_97) k) ?_
      show own_Fin p e below G (T26.setTop (mkF m 98 #[iv p1, iv p2, iv (0 : Int32), iv (0 : Int32), rv a_FALSE, rv a_FALSE, iv (1 : Int32), .unset, .unset, .unset] [(.int (1 : Int32))]))
      refine own_st (fun _ k => XS.goto X26.here hx rfl (pc0 := 98) (pc' := 102) rfl (hb hby at_98) (by decide) (by decide) k) ?_
      show own_Fin p e below G (T26.setTop (mkF m 102 #[iv p1, iv p2, iv (0 : Int32), iv (0 : Int32), rv a_FALSE, rv a_FALSE, iv (1 : Int32), .unset, .unset, .unset] [(.int (1 : Int32))]))
      obtain ⟨_, _, ⟨T27, L27, k27, n27⟩, -, X27, ⟨Lc27, hQ27, l27, y27, z27⟩, st27⟩ := Jvm.LawKit.callS X26 hx (y := own_y0) hown (mvT hZ (own_w hw 0 rfl)) (mvT hZ (own_w hw 1 rfl)) (mvT hZ (own_w hw 2 rfl)) (mvT hZ (own_w hw 3 rfl)) (by decide) (backOf (W := 0) (rm_of1 l Z a0 hw [] a_TRUE h0 n0 (Nat.le_trans Z0 K0.1) Sa_TRUE) hZ (own_w hw 3 rfl) (own_w hw 2 rfl) (by decide) (by decide)) (g := (mkF m 102 #[iv p1, iv p2, iv (0 : Int32), iv (0 : Int32), rv a_FALSE, rv a_FALSE, iv (1 : Int32), .unset, .unset, .unset] [(.int (1 : Int32))])) rfl (by rw [hml]; rfl) (argsL := [(.int (1 : Int32))]) (rest := []) (lenOf pd__Z_Lcom_example_attributes_to_entitlements_attributestoentitlements_Truth__567 rfl) rfl (by show 2 * 0 + _ ≤ _; exact Nat.le_of_eq rfl) (hb hby at_102) (fun _ _ => ⟨rfl, e26, (by decide : 0 + 0 ≤ _), (by decide : 0 + 0 ≤ _)⟩)
      dsimp only [Pt.U, Pt.locs, Pt.cells, Pt.slots] at X27 l27 y27 z27 st27 hQ27
      subst l27 y27 z27
      obtain ⟨rfl, N27q, e27⟩ := hQ27
      skip
      have N27 := Fr.app N23 N27q
      refine own_st st27 ?_
      show own_Fin p e below G (T27.setTop (mkF m 105 #[iv p1, iv p2, iv (0 : Int32), iv (0 : Int32), rv a_FALSE, rv a_FALSE, iv (1 : Int32), .unset, .unset, .unset] [(.ref a_TRUE)]))
      refine own_st (fun _ k => XS.aload X27.here hx rfl (hb hby at_105) rfl rfl k) ?_
      show own_Fin p e below G (T27.setTop (mkF m 107 #[iv p1, iv p2, iv (0 : Int32), iv (0 : Int32), rv a_FALSE, rv a_FALSE, iv (1 : Int32), .unset, .unset, .unset] [(.ref a_FALSE), (.ref a_TRUE)]))
      obtain ⟨cq28, kq28, q28a, q28b, q28c⟩ := isOf hZ e27 Ea_FALSE
      obtain ⟨_, _, ⟨T28, L28, k28, n28⟩, -, X28, ⟨Lc28, hQ28, l28, y28, z28⟩, st28⟩ := X27.virtualBack hx (y := own_y3) (z := own_y3) hown (mvT hZ (own_w hw 12 rfl)) (mvT hZ (own_w hw 13 rfl)) (notFace_of_selects (args := #[]) (mvT hZ (own_w hw 15 rfl))) (mvT hZ (own_w hw 15 rfl)) (mvT hZ (own_w hw 14 rfl)) (by decide) (backOf (W := 1) (rm_not0 l Z a0 hw [] a_FALSE a_TRUE h0 n0 (Nat.le_trans Z0 K0.1) Ea_FALSE Fa_FALSE_ordinal Sa_TRUE) hZ (own_w hw 16 rfl) (own_w hw 2 rfl) (by decide) (by decide)) q28a q28c (g := (mkF m 107 #[iv p1, iv p2, iv (0 : Int32), iv (0 : Int32), rv a_FALSE, rv a_FALSE, iv (1 : Int32), .unset, .unset, .unset] [(.ref a_FALSE), (.ref a_TRUE)])) rfl (by rw [hml]; rfl) (Steps.refl _) (argsL := []) (rest := [(.ref a_TRUE)]) (lenOf pd___Lcom_example_attributes_to_entitlements_attributestoentitlements_Truth__477 rfl) rfl (by show 2 * 0 + _ ≤ _; exact Nat.le_of_eq rfl) (hb hby at_107) (fun _ _ => ⟨rfl, e27, (by decide : 0 + 0 ≤ _), (by decide : 0 + 0 ≤ _)⟩)
      dsimp only [Pt.U, Pt.locs, Pt.cells, Pt.slots] at X28 l28 y28 z28 st28 hQ28
      subst l28 y28 z28
      obtain ⟨rfl, N28q, e28⟩ := hQ28
      skip
      have N28 := Fr.app N27 N28q
      refine own_tr st28 ?_
      show own_Fin p e below G (T28.setTop (mkF m 110 #[iv p1, iv p2, iv (0 : Int32), iv (0 : Int32), rv a_FALSE, rv a_FALSE, iv (1 : Int32), .unset, .unset, .unset] [(.ref a_TRUE), (.ref a_TRUE)]))
      refine own_st (fun _ k => Jvm.RoadKit.acmp (g := (mkF m 110 #[iv p1, iv p2, iv (0 : Int32), iv (0 : Int32), rv a_FALSE, rv a_FALSE, iv (1 : Int32), .unset, .unset, .unset] [(.ref a_TRUE), (.ref a_TRUE)])) X28 hx rfl rfl rfl (pc0 := 110) (pc' := 113) (same := true) rfl (hb hby at_110) rfl (decide_eq_true rfl) (by decide) (by decide) k) ?_
      show own_Fin p e below G (T28.setTop (mkF m 113 #[iv p1, iv p2, iv (0 : Int32), iv (0 : Int32), rv a_FALSE, rv a_FALSE, iv (1 : Int32), .unset, .unset, .unset] []))
      refine own_st (fun _ k => XS.iconst X28.here hx rfl (hb hby at_113) k) ?_
      show own_Fin p e below G (T28.setTop (mkF m 114 #[iv p1, iv p2, iv (0 : Int32), iv (0 : Int32), rv a_FALSE, rv a_FALSE, iv (1 : Int32), .unset, .unset, .unset] [(.int (1 : Int32))]))
      refine own_st (fun _ k => XS.goto X28.here hx rfl (pc0 := 114) (pc' := 118) rfl (hb hby at_114) (by decide) (by decide) k) ?_
      show own_Fin p e below G (T28.setTop (mkF m 118 #[iv p1, iv p2, iv (0 : Int32), iv (0 : Int32), rv a_FALSE, rv a_FALSE, iv (1 : Int32), .unset, .unset, .unset] [(.int (1 : Int32))]))
      refine own_st (fun _ k => XS.istore X28.here hx rfl (hb hby at_118) rfl (l' := #[iv p1, iv p2, iv (0 : Int32), iv (0 : Int32), rv a_FALSE, rv a_FALSE, iv (1 : Int32), iv (1 : Int32), .unset, .unset]) rfl k) ?_
      show own_Fin p e below G (T28.setTop (mkF m 120 #[iv p1, iv p2, iv (0 : Int32), iv (0 : Int32), rv a_FALSE, rv a_FALSE, iv (1 : Int32), iv (1 : Int32), .unset, .unset] []))
      refine own_st (fun _ k => XS.iloadN X28.here hx rfl (hb hby at_120) rfl  k) ?_
      show own_Fin p e below G (T28.setTop (mkF m 121 #[iv p1, iv p2, iv (0 : Int32), iv (0 : Int32), rv a_FALSE, rv a_FALSE, iv (1 : Int32), iv (1 : Int32), .unset, .unset] [(.int (0 : Int32))]))
      refine own_st (fun _ k => XS.ifYes X28.here hx rfl (pc0 := 121) (pc' := 132) rfl (hb hby at_121) rfl ((if0 _ _).trans (teq (by decide : ((0 : Int32) = (0 : Int32)))).1) (by decide) (by decide) k) ?_
      show own_Fin p e below G (T28.setTop (mkF m 132 #[iv p1, iv p2, iv (0 : Int32), iv (0 : Int32), rv a_FALSE, rv a_FALSE, iv (1 : Int32), iv (1 : Int32), .unset, .unset] []))
      refine own_st (fun _ k => XS.iconst X28.here hx rfl (hb hby at_132) k) ?_
      show own_Fin p e below G (T28.setTop (mkF m 133 #[iv p1, iv p2, iv (0 : Int32), iv (0 : Int32), rv a_FALSE, rv a_FALSE, iv (1 : Int32), iv (1 : Int32), .unset, .unset] [(.int (0 : Int32))]))
      obtain ⟨_, _, ⟨T29, L29, k29, n29⟩, -, X29, ⟨Lc29, hQ29, l29, y29, z29⟩, st29⟩ := Jvm.LawKit.callS X28 hx (y := own_y0) hown (mvT hZ (own_w hw 0 rfl)) (mvT hZ (own_w hw 1 rfl)) (mvT hZ (own_w hw 2 rfl)) (mvT hZ (own_w hw 3 rfl)) (by decide) (backOf (W := 0) (rm_of0 l Z a0 hw [] a_FALSE h0 n0 (Nat.le_trans Z0 K0.1) Sa_FALSE) hZ (own_w hw 3 rfl) (own_w hw 2 rfl) (by decide) (by decide)) (g := (mkF m 133 #[iv p1, iv p2, iv (0 : Int32), iv (0 : Int32), rv a_FALSE, rv a_FALSE, iv (1 : Int32), iv (1 : Int32), .unset, .unset] [(.int (0 : Int32))])) rfl (by rw [hml]; rfl) (argsL := [(.int (0 : Int32))]) (rest := []) (lenOf pd__Z_Lcom_example_attributes_to_entitlements_attributestoentitlements_Truth__567 rfl) rfl (by show 2 * 0 + _ ≤ _; exact Nat.le_of_eq rfl) (hb hby at_133) (fun _ _ => ⟨rfl, e28, (by decide : 0 + 0 ≤ _), (by decide : 0 + 0 ≤ _)⟩)
      dsimp only [Pt.U, Pt.locs, Pt.cells, Pt.slots] at X29 l29 y29 z29 st29 hQ29
      subst l29 y29 z29
      obtain ⟨rfl, N29q, e29⟩ := hQ29
      skip
      have N29 := Fr.app N28 N29q
      refine own_st st29 ?_
      show own_Fin p e below G (T29.setTop (mkF m 136 #[iv p1, iv p2, iv (0 : Int32), iv (0 : Int32), rv a_FALSE, rv a_FALSE, iv (1 : Int32), iv (1 : Int32), .unset, .unset] [(.ref a_FALSE)]))
      refine own_st (fun _ k => XS.aload X29.here hx rfl (hb hby at_136) rfl rfl k) ?_
      show own_Fin p e below G (T29.setTop (mkF m 138 #[iv p1, iv p2, iv (0 : Int32), iv (0 : Int32), rv a_FALSE, rv a_FALSE, iv (1 : Int32), iv (1 : Int32), .unset, .unset] [(.ref a_FALSE), (.ref a_FALSE)]))
      refine own_st (fun _ k => XS.aload X29.here hx rfl (hb hby at_138) rfl rfl k) ?_
      show own_Fin p e below G (T29.setTop (mkF m 140 #[iv p1, iv p2, iv (0 : Int32), iv (0 : Int32), rv a_FALSE, rv a_FALSE, iv (1 : Int32), iv (1 : Int32), .unset, .unset] [(.ref a_FALSE), (.ref a_FALSE), (.ref a_FALSE)]))
      obtain ⟨cq30, kq30, q30a, q30b, q30c⟩ := isOf hZ e29 Ea_FALSE
      obtain ⟨_, _, ⟨T30, L30, k30, n30⟩, -, X30, ⟨Lc30, hQ30, l30, y30, z30⟩, st30⟩ := X29.virtualBack hx (y := own_y6) (z := own_y6) hown (mvT hZ (own_w hw 26 rfl)) (mvT hZ (own_w hw 27 rfl)) (notFace_of_selects (args := #[]) (mvT hZ (own_w hw 29 rfl))) (mvT hZ (own_w hw 29 rfl)) (mvT hZ (own_w hw 28 rfl)) (by decide) (backOf (W := 1) (rm_and00 l Z a0 hw [] a_FALSE a_FALSE mr h0 n0 (Nat.le_trans Z0 K0.1) Ea_FALSE Ea_FALSE Fa_FALSE_ordinal Fa_FALSE_ordinal M) hZ (own_w hw 30 rfl) (own_w hw 2 rfl) (by decide) (by decide)) q30a q30c (g := (mkF m 140 #[iv p1, iv p2, iv (0 : Int32), iv (0 : Int32), rv a_FALSE, rv a_FALSE, iv (1 : Int32), iv (1 : Int32), .unset, .unset] [(.ref a_FALSE), (.ref a_FALSE), (.ref a_FALSE)])) rfl (by rw [hml]; rfl) (Steps.refl _) (argsL := [(.ref a_FALSE)]) (rest := [(.ref a_FALSE)]) (lenOf pd__Lcom_example_attributes_to_entitlements_attributestoentitlements_Truth__Lcom_example_attributes_to_entitlements_attributestoentitlements_Truth__873 rfl) rfl (by show 2 * 0 + _ ≤ _; exact Nat.le_of_eq rfl) (hb hby at_140) (fun _ _ => ⟨rfl, e29, (by decide : 0 + 0 ≤ _), (by decide : 0 + 0 ≤ _)⟩)
      dsimp only [Pt.U, Pt.locs, Pt.cells, Pt.slots] at X30 l30 y30 z30 st30 hQ30
      subst l30 y30 z30
      obtain ⟨rfl, N30q, e30⟩ := hQ30
      skip
      have N30 := Fr.app N29 N30q
      refine own_tr st30 ?_
      show own_Fin p e below G (T30.setTop (mkF m 143 #[iv p1, iv p2, iv (0 : Int32), iv (0 : Int32), rv a_FALSE, rv a_FALSE, iv (1 : Int32), iv (1 : Int32), .unset, .unset] [(.ref a_FALSE), (.ref a_FALSE)]))
      refine own_st (fun _ k => Jvm.RoadKit.acmp (g := (mkF m 143 #[iv p1, iv p2, iv (0 : Int32), iv (0 : Int32), rv a_FALSE, rv a_FALSE, iv (1 : Int32), iv (1 : Int32), .unset, .unset] [(.ref a_FALSE), (.ref a_FALSE)])) X30 hx rfl rfl rfl (pc0 := 143) (pc' := 146) (same := true) rfl (hb hby at_143) rfl (decide_eq_true rfl) (by decide) (by decide) k) ?_
      show own_Fin p e below G (T30.setTop (mkF m 146 #[iv p1, iv p2, iv (0 : Int32), iv (0 : Int32), rv a_FALSE, rv a_FALSE, iv (1 : Int32), iv (1 : Int32), .unset, .unset] []))
      refine own_st (fun _ k => XS.iconst X30.here hx rfl (hb hby at_146) k) ?_
      show own_Fin p e below G (T30.setTop (mkF m 147 #[iv p1, iv p2, iv (0 : Int32), iv (0 : Int32), rv a_FALSE, rv a_FALSE, iv (1 : Int32), iv (1 : Int32), .unset, .unset] [(.int (1 : Int32))]))
      refine own_st (fun _ k => XS.goto X30.here hx rfl (pc0 := 147) (pc' := 151) rfl (hb hby at_147) (by decide) (by decide) k) ?_
      show own_Fin p e below G (T30.setTop (mkF m 151 #[iv p1, iv p2, iv (0 : Int32), iv (0 : Int32), rv a_FALSE, rv a_FALSE, iv (1 : Int32), iv (1 : Int32), .unset, .unset] [(.int (1 : Int32))]))
      refine own_st (fun _ k => XS.istore X30.here hx rfl (hb hby at_151) rfl (l' := #[iv p1, iv p2, iv (0 : Int32), iv (0 : Int32), rv a_FALSE, rv a_FALSE, iv (1 : Int32), iv (1 : Int32), iv (1 : Int32), .unset]) rfl k) ?_
      show own_Fin p e below G (T30.setTop (mkF m 153 #[iv p1, iv p2, iv (0 : Int32), iv (0 : Int32), rv a_FALSE, rv a_FALSE, iv (1 : Int32), iv (1 : Int32), iv (1 : Int32), .unset] []))
      refine own_st (fun _ k => XS.iloadN X30.here hx rfl (hb hby at_153) rfl  k) ?_
      show own_Fin p e below G (T30.setTop (mkF m 154 #[iv p1, iv p2, iv (0 : Int32), iv (0 : Int32), rv a_FALSE, rv a_FALSE, iv (1 : Int32), iv (1 : Int32), iv (1 : Int32), .unset] [(.int (0 : Int32))]))
      refine own_st (fun _ k => XS.ifNo X30.here hx rfl (hb hby at_154) rfl ((if0 _ _).trans (teq (by decide : ((0 : Int32) = (0 : Int32)))).2) k) ?_
      show own_Fin p e below G (T30.setTop (mkF m 157 #[iv p1, iv p2, iv (0 : Int32), iv (0 : Int32), rv a_FALSE, rv a_FALSE, iv (1 : Int32), iv (1 : Int32), iv (1 : Int32), .unset] []))
      refine own_st (fun _ k => XS.iloadN X30.here hx rfl (hb hby at_157) rfl  k) ?_
      show own_Fin p e below G (T30.setTop (mkF m 158 #[iv p1, iv p2, iv (0 : Int32), iv (0 : Int32), rv a_FALSE, rv a_FALSE, iv (1 : Int32), iv (1 : Int32), iv (1 : Int32), .unset] [(.int (0 : Int32))]))
      refine own_st (fun _ k => XS.ifYes X30.here hx rfl (pc0 := 158) (pc' := 165) rfl (hb hby at_158) rfl ((if0 _ _).trans (teq (by decide : ((0 : Int32) = (0 : Int32)))).1) (by decide) (by decide) k) ?_
      show own_Fin p e below G (T30.setTop (mkF m 165 #[iv p1, iv p2, iv (0 : Int32), iv (0 : Int32), rv a_FALSE, rv a_FALSE, iv (1 : Int32), iv (1 : Int32), iv (1 : Int32), .unset] []))
      refine own_st (fun _ k => XS.iconst X30.here hx rfl (hb hby at_165) k) ?_
      show own_Fin p e below G (T30.setTop (mkF m 166 #[iv p1, iv p2, iv (0 : Int32), iv (0 : Int32), rv a_FALSE, rv a_FALSE, iv (1 : Int32), iv (1 : Int32), iv (1 : Int32), .unset] [(.int (0 : Int32))]))
      obtain ⟨_, _, ⟨T31, L31, k31, n31⟩, -, X31, ⟨Lc31, hQ31, l31, y31, z31⟩, st31⟩ := Jvm.LawKit.callS X30 hx (y := own_y0) hown (mvT hZ (own_w hw 0 rfl)) (mvT hZ (own_w hw 1 rfl)) (mvT hZ (own_w hw 2 rfl)) (mvT hZ (own_w hw 3 rfl)) (by decide) (backOf (W := 0) (rm_of0 l Z a0 hw [] a_FALSE h0 n0 (Nat.le_trans Z0 K0.1) Sa_FALSE) hZ (own_w hw 3 rfl) (own_w hw 2 rfl) (by decide) (by decide)) (g := (mkF m 166 #[iv p1, iv p2, iv (0 : Int32), iv (0 : Int32), rv a_FALSE, rv a_FALSE, iv (1 : Int32), iv (1 : Int32), iv (1 : Int32), .unset] [(.int (0 : Int32))])) rfl (by rw [hml]; rfl) (argsL := [(.int (0 : Int32))]) (rest := []) (lenOf pd__Z_Lcom_example_attributes_to_entitlements_attributestoentitlements_Truth__567 rfl) rfl (by show 2 * 0 + _ ≤ _; exact Nat.le_of_eq rfl) (hb hby at_166) (fun _ _ => ⟨rfl, e30, (by decide : 0 + 0 ≤ _), (by decide : 0 + 0 ≤ _)⟩)
      dsimp only [Pt.U, Pt.locs, Pt.cells, Pt.slots] at X31 l31 y31 z31 st31 hQ31
      subst l31 y31 z31
      obtain ⟨rfl, N31q, e31⟩ := hQ31
      skip
      have N31 := Fr.app N30 N31q
      refine own_st st31 ?_
      show own_Fin p e below G (T31.setTop (mkF m 169 #[iv p1, iv p2, iv (0 : Int32), iv (0 : Int32), rv a_FALSE, rv a_FALSE, iv (1 : Int32), iv (1 : Int32), iv (1 : Int32), .unset] [(.ref a_FALSE)]))
      refine own_st (fun _ k => XS.aload X31.here hx rfl (hb hby at_169) rfl rfl k) ?_
      show own_Fin p e below G (T31.setTop (mkF m 171 #[iv p1, iv p2, iv (0 : Int32), iv (0 : Int32), rv a_FALSE, rv a_FALSE, iv (1 : Int32), iv (1 : Int32), iv (1 : Int32), .unset] [(.ref a_FALSE), (.ref a_FALSE)]))
      refine own_st (fun _ k => XS.aload X31.here hx rfl (hb hby at_171) rfl rfl k) ?_
      show own_Fin p e below G (T31.setTop (mkF m 173 #[iv p1, iv p2, iv (0 : Int32), iv (0 : Int32), rv a_FALSE, rv a_FALSE, iv (1 : Int32), iv (1 : Int32), iv (1 : Int32), .unset] [(.ref a_FALSE), (.ref a_FALSE), (.ref a_FALSE)]))
      obtain ⟨cq32, kq32, q32a, q32b, q32c⟩ := isOf hZ e31 Ea_FALSE
      obtain ⟨_, _, ⟨T32, L32, k32, n32⟩, -, X32, ⟨Lc32, hQ32, l32, y32, z32⟩, st32⟩ := X31.virtualBack hx (y := own_y7) (z := own_y7) hown (mvT hZ (own_w hw 43 rfl)) (mvT hZ (own_w hw 44 rfl)) (notFace_of_selects (args := #[]) (mvT hZ (own_w hw 46 rfl))) (mvT hZ (own_w hw 46 rfl)) (mvT hZ (own_w hw 45 rfl)) (by decide) (backOf (W := 1) (rm_or00 l Z a0 hw [] a_FALSE a_FALSE mr h0 n0 (Nat.le_trans Z0 K0.1) Ea_FALSE Ea_FALSE Fa_FALSE_ordinal Fa_FALSE_ordinal M) hZ (own_w hw 47 rfl) (own_w hw 2 rfl) (by decide) (by decide)) q32a q32c (g := (mkF m 173 #[iv p1, iv p2, iv (0 : Int32), iv (0 : Int32), rv a_FALSE, rv a_FALSE, iv (1 : Int32), iv (1 : Int32), iv (1 : Int32), .unset] [(.ref a_FALSE), (.ref a_FALSE), (.ref a_FALSE)])) rfl (by rw [hml]; rfl) (Steps.refl _) (argsL := [(.ref a_FALSE)]) (rest := [(.ref a_FALSE)]) (lenOf pd__Lcom_example_attributes_to_entitlements_attributestoentitlements_Truth__Lcom_example_attributes_to_entitlements_attributestoentitlements_Truth__873 rfl) rfl (by show 2 * 0 + _ ≤ _; exact Nat.le_of_eq rfl) (hb hby at_173) (fun _ _ => ⟨rfl, e31, (by decide : 0 + 0 ≤ _), (by decide : 0 + 0 ≤ _)⟩)
      dsimp only [Pt.U, Pt.locs, Pt.cells, Pt.slots] at X32 l32 y32 z32 st32 hQ32
      subst l32 y32 z32
      obtain ⟨rfl, N32q, e32⟩ := hQ32
      skip
      have N32 := Fr.app N31 N32q
      refine own_tr st32 ?_
      show own_Fin p e below G (T32.setTop (mkF m 176 #[iv p1, iv p2, iv (0 : Int32), iv (0 : Int32), rv a_FALSE, rv a_FALSE, iv (1 : Int32), iv (1 : Int32), iv (1 : Int32), .unset] [(.ref a_FALSE), (.ref a_FALSE)]))
      refine own_st (fun _ k => Jvm.RoadKit.acmp (g := (mkF m 176 #[iv p1, iv p2, iv (0 : Int32), iv (0 : Int32), rv a_FALSE, rv a_FALSE, iv (1 : Int32), iv (1 : Int32), iv (1 : Int32), .unset] [(.ref a_FALSE), (.ref a_FALSE)])) X32 hx rfl rfl rfl (pc0 := 176) (pc' := 179) (same := true) rfl (hb hby at_176) rfl (decide_eq_true rfl) (by decide) (by decide) k) ?_
      show own_Fin p e below G (T32.setTop (mkF m 179 #[iv p1, iv p2, iv (0 : Int32), iv (0 : Int32), rv a_FALSE, rv a_FALSE, iv (1 : Int32), iv (1 : Int32), iv (1 : Int32), .unset] []))
      refine own_st (fun _ k => XS.iconst X32.here hx rfl (hb hby at_179) k) ?_
      show own_Fin p e below G (T32.setTop (mkF m 180 #[iv p1, iv p2, iv (0 : Int32), iv (0 : Int32), rv a_FALSE, rv a_FALSE, iv (1 : Int32), iv (1 : Int32), iv (1 : Int32), .unset] [(.int (1 : Int32))]))
      refine own_st (fun _ k => XS.goto X32.here hx rfl (pc0 := 180) (pc' := 184) rfl (hb hby at_180) (by decide) (by decide) k) ?_
      show own_Fin p e below G (T32.setTop (mkF m 184 #[iv p1, iv p2, iv (0 : Int32), iv (0 : Int32), rv a_FALSE, rv a_FALSE, iv (1 : Int32), iv (1 : Int32), iv (1 : Int32), .unset] [(.int (1 : Int32))]))
      refine own_st (fun _ k => XS.istore X32.here hx rfl (hb hby at_184) rfl (l' := #[iv p1, iv p2, iv (0 : Int32), iv (0 : Int32), rv a_FALSE, rv a_FALSE, iv (1 : Int32), iv (1 : Int32), iv (1 : Int32), iv (1 : Int32)]) rfl k) ?_
      show own_Fin p e below G (T32.setTop (mkF m 186 #[iv p1, iv p2, iv (0 : Int32), iv (0 : Int32), rv a_FALSE, rv a_FALSE, iv (1 : Int32), iv (1 : Int32), iv (1 : Int32), iv (1 : Int32)] []))
      refine own_st (fun _ k => XS.iload X32.here hx rfl (hb hby at_186) rfl  k) ?_
      show own_Fin p e below G (T32.setTop (mkF m 188 #[iv p1, iv p2, iv (0 : Int32), iv (0 : Int32), rv a_FALSE, rv a_FALSE, iv (1 : Int32), iv (1 : Int32), iv (1 : Int32), iv (1 : Int32)] [(.int (1 : Int32))]))
      refine own_st (fun _ k => XS.ifNo X32.here hx rfl (hb hby at_188) rfl ((if0 _ _).trans (feq (by decide : ¬ ((1 : Int32) = (0 : Int32)))).1) k) ?_
      show own_Fin p e below G (T32.setTop (mkF m 191 #[iv p1, iv p2, iv (0 : Int32), iv (0 : Int32), rv a_FALSE, rv a_FALSE, iv (1 : Int32), iv (1 : Int32), iv (1 : Int32), iv (1 : Int32)] []))
      refine own_st (fun _ k => XS.iload X32.here hx rfl (hb hby at_191) rfl  k) ?_
      show own_Fin p e below G (T32.setTop (mkF m 193 #[iv p1, iv p2, iv (0 : Int32), iv (0 : Int32), rv a_FALSE, rv a_FALSE, iv (1 : Int32), iv (1 : Int32), iv (1 : Int32), iv (1 : Int32)] [(.int (1 : Int32))]))
      refine own_st (fun _ k => XS.ifNo X32.here hx rfl (hb hby at_193) rfl ((if0 _ _).trans (feq (by decide : ¬ ((1 : Int32) = (0 : Int32)))).1) k) ?_
      show own_Fin p e below G (T32.setTop (mkF m 196 #[iv p1, iv p2, iv (0 : Int32), iv (0 : Int32), rv a_FALSE, rv a_FALSE, iv (1 : Int32), iv (1 : Int32), iv (1 : Int32), iv (1 : Int32)] []))
      refine own_st (fun _ k => XS.iload X32.here hx rfl (hb hby at_196) rfl  k) ?_
      show own_Fin p e below G (T32.setTop (mkF m 198 #[iv p1, iv p2, iv (0 : Int32), iv (0 : Int32), rv a_FALSE, rv a_FALSE, iv (1 : Int32), iv (1 : Int32), iv (1 : Int32), iv (1 : Int32)] [(.int (1 : Int32))]))
      refine own_st (fun _ k => XS.ifNo X32.here hx rfl (hb hby at_198) rfl ((if0 _ _).trans (feq (by decide : ¬ ((1 : Int32) = (0 : Int32)))).1) k) ?_
      show own_Fin p e below G (T32.setTop (mkF m 201 #[iv p1, iv p2, iv (0 : Int32), iv (0 : Int32), rv a_FALSE, rv a_FALSE, iv (1 : Int32), iv (1 : Int32), iv (1 : Int32), iv (1 : Int32)] []))
      refine own_st (fun _ k => XS.iload X32.here hx rfl (hb hby at_201) rfl  k) ?_
      show own_Fin p e below G (T32.setTop (mkF m 203 #[iv p1, iv p2, iv (0 : Int32), iv (0 : Int32), rv a_FALSE, rv a_FALSE, iv (1 : Int32), iv (1 : Int32), iv (1 : Int32), iv (1 : Int32)] [(.int (1 : Int32))]))
      refine own_st (fun _ k => XS.ifNo X32.here hx rfl (hb hby at_203) rfl ((if0 _ _).trans (feq (by decide : ¬ ((1 : Int32) = (0 : Int32)))).1) k) ?_
      show own_Fin p e below G (T32.setTop (mkF m 206 #[iv p1, iv p2, iv (0 : Int32), iv (0 : Int32), rv a_FALSE, rv a_FALSE, iv (1 : Int32), iv (1 : Int32), iv (1 : Int32), iv (1 : Int32)] []))
      refine own_st (fun _ k => XS.iconst X32.here hx rfl (hb hby at_206) k) ?_
      show own_Fin p e below G (T32.setTop (mkF m 207 #[iv p1, iv p2, iv (0 : Int32), iv (0 : Int32), rv a_FALSE, rv a_FALSE, iv (1 : Int32), iv (1 : Int32), iv (1 : Int32), iv (1 : Int32)] [(.int (1 : Int32))]))
      refine own_st (fun _ k => XS.goto X32.here hx rfl (pc0 := 207) (pc' := 211) rfl (hb hby at_207) (by decide) (by decide) k) ?_
      show own_Fin p e below G (T32.setTop (mkF m 211 #[iv p1, iv p2, iv (0 : Int32), iv (0 : Int32), rv a_FALSE, rv a_FALSE, iv (1 : Int32), iv (1 : Int32), iv (1 : Int32), iv (1 : Int32)] [(.int (1 : Int32))]))
      refine own_out X32 Bd.notSynchronized (v := (some (.int (1 : Int32)))) (fun h => by rw [Bd.returns] at h; cases h) hG (fun fs hr => retN X32 hx (t := .boolean) Bd.returns (by simp) (hb hby at_211) hr) (by decide) (by decide) ?_
      exact ⟨rfl, N32⟩
    · refine own_st (fun _ k => XS.ifNo X0.here hx rfl (hb hby at_15) rfl ((if0 _ _).trans (feq hc15_21).1) k) ?_
      show own_Fin p e below G (s₁.setTop (mkF m 18 #[iv p1, iv p2, iv (0 : Int32), .unset, .unset, .unset, .unset, .unset, .unset, .unset] []))
      refine own_st (fun _ k => XS.iconst X0.here hx rfl (hb hby at_18) k) ?_
      show own_Fin p e below G (s₁.setTop (mkF m 19 #[iv p1, iv p2, iv (0 : Int32), .unset, .unset, .unset, .unset, .unset, .unset, .unset] [(.int (1 : Int32))]))
      refine own_st (fun _ k => XS.goto X0.here hx rfl (pc0 := 19) (pc' := 23) rfl (hb hby at_19) (by decide) (by decide) k) ?_
      show own_Fin p e below G (s₁.setTop (mkF m 23 #[iv p1, iv p2, iv (0 : Int32), .unset, .unset, .unset, .unset, .unset, .unset, .unset] [(.int (1 : Int32))]))
      refine own_st (fun _ k => XS.istoreN X0.here hx rfl (hb hby at_23) rfl (l' := #[iv p1, iv p2, iv (0 : Int32), iv (1 : Int32), .unset, .unset, .unset, .unset, .unset, .unset]) rfl k) ?_
      show own_Fin p e below G (s₁.setTop (mkF m 24 #[iv p1, iv p2, iv (0 : Int32), iv (1 : Int32), .unset, .unset, .unset, .unset, .unset, .unset] []))
      refine own_st (fun _ k => XS.iloadN X0.here hx rfl (hb hby at_24) rfl  k) ?_
      show own_Fin p e below G (s₁.setTop (mkF m 25 #[iv p1, iv p2, iv (0 : Int32), iv (1 : Int32), .unset, .unset, .unset, .unset, .unset, .unset] [(.int (0 : Int32))]))
      obtain ⟨_, _, ⟨T33, L33, k33, n33⟩, -, X33, ⟨Lc33, hQ33, l33, y33, z33⟩, st33⟩ := Jvm.LawKit.callS X0 hx (y := own_y0) hown (mvT hZ (own_w hw 0 rfl)) (mvT hZ (own_w hw 1 rfl)) (mvT hZ (own_w hw 2 rfl)) (mvT hZ (own_w hw 3 rfl)) (by decide) (backOf (W := 0) (rm_of0 l Z a0 hw [] a_FALSE h0 n0 (Nat.le_trans Z0 K0.1) Sa_FALSE) hZ (own_w hw 3 rfl) (own_w hw 2 rfl) (by decide) (by decide)) (g := (mkF m 25 #[iv p1, iv p2, iv (0 : Int32), iv (1 : Int32), .unset, .unset, .unset, .unset, .unset, .unset] [(.int (0 : Int32))])) rfl (by rw [hml]; rfl) (argsL := [(.int (0 : Int32))]) (rest := []) (lenOf pd__Z_Lcom_example_attributes_to_entitlements_attributestoentitlements_Truth__567 rfl) rfl (by show 2 * 0 + _ ≤ _; exact Nat.le_of_eq rfl) (hb hby at_25) (fun _ _ => ⟨rfl, e0, (by decide : 0 + 0 ≤ _), (by decide : 0 + 0 ≤ _)⟩)
      dsimp only [Pt.U, Pt.locs, Pt.cells, Pt.slots] at X33 l33 y33 z33 st33 hQ33
      subst l33 y33 z33
      obtain ⟨rfl, N33q, e33⟩ := hQ33
      skip
      have N33 := Fr.app N0 N33q
      refine own_st st33 ?_
      show own_Fin p e below G (T33.setTop (mkF m 28 #[iv p1, iv p2, iv (0 : Int32), iv (1 : Int32), .unset, .unset, .unset, .unset, .unset, .unset] [(.ref a_FALSE)]))
      refine own_st (fun _ k => XS.astore X33.here hx rfl (hb hby at_28) rfl rfl (l' := #[iv p1, iv p2, iv (0 : Int32), iv (1 : Int32), rv a_FALSE, .unset, .unset, .unset, .unset, .unset]) rfl k) ?_
      show own_Fin p e below G (T33.setTop (mkF m 30 #[iv p1, iv p2, iv (0 : Int32), iv (1 : Int32), rv a_FALSE, .unset, .unset, .unset, .unset, .unset] []))
      refine own_st (fun _ k => XS.iloadN X33.here hx rfl (hb hby at_30) rfl  k) ?_
      show own_Fin p e below G (T33.setTop (mkF m 31 #[iv p1, iv p2, iv (0 : Int32), iv (1 : Int32), rv a_FALSE, .unset, .unset, .unset, .unset, .unset] [(.int (1 : Int32))]))
      obtain ⟨_, _, ⟨T34, L34, k34, n34⟩, -, X34, ⟨Lc34, hQ34, l34, y34, z34⟩, st34⟩ := Jvm.LawKit.callS X33 hx (y := own_y0) hown (mvT hZ (own_w hw 0 rfl)) (mvT hZ (own_w hw 1 rfl)) (mvT hZ (own_w hw 2 rfl)) (mvT hZ (own_w hw 3 rfl)) (by decide) (backOf (W := 0) (rm_of1 l Z a0 hw [] a_TRUE h0 n0 (Nat.le_trans Z0 K0.1) Sa_TRUE) hZ (own_w hw 3 rfl) (own_w hw 2 rfl) (by decide) (by decide)) (g := (mkF m 31 #[iv p1, iv p2, iv (0 : Int32), iv (1 : Int32), rv a_FALSE, .unset, .unset, .unset, .unset, .unset] [(.int (1 : Int32))])) rfl (by rw [hml]; rfl) (argsL := [(.int (1 : Int32))]) (rest := []) (lenOf pd__Z_Lcom_example_attributes_to_entitlements_attributestoentitlements_Truth__567 rfl) rfl (by show 2 * 0 + _ ≤ _; exact Nat.le_of_eq rfl) (hb hby at_31) (fun _ _ => ⟨rfl, e33, (by decide : 0 + 0 ≤ _), (by decide : 0 + 0 ≤ _)⟩)
      dsimp only [Pt.U, Pt.locs, Pt.cells, Pt.slots] at X34 l34 y34 z34 st34 hQ34
      subst l34 y34 z34
      obtain ⟨rfl, N34q, e34⟩ := hQ34
      skip
      have N34 := Fr.app N33 N34q
      refine own_st st34 ?_
      show own_Fin p e below G (T34.setTop (mkF m 34 #[iv p1, iv p2, iv (0 : Int32), iv (1 : Int32), rv a_FALSE, .unset, .unset, .unset, .unset, .unset] [(.ref a_TRUE)]))
      refine own_st (fun _ k => XS.astore X34.here hx rfl (hb hby at_34) rfl rfl (l' := #[iv p1, iv p2, iv (0 : Int32), iv (1 : Int32), rv a_FALSE, rv a_TRUE, .unset, .unset, .unset, .unset]) rfl k) ?_
      show own_Fin p e below G (T34.setTop (mkF m 36 #[iv p1, iv p2, iv (0 : Int32), iv (1 : Int32), rv a_FALSE, rv a_TRUE, .unset, .unset, .unset, .unset] []))
      refine own_st (fun _ k => XS.aload X34.here hx rfl (hb hby at_36) rfl rfl k) ?_
      show own_Fin p e below G (T34.setTop (mkF m 38 #[iv p1, iv p2, iv (0 : Int32), iv (1 : Int32), rv a_FALSE, rv a_TRUE, .unset, .unset, .unset, .unset] [(.ref a_FALSE)]))
      obtain ⟨T35, X35, e35, st35⟩ := getS2 X34 hx hZ hown (host := "") (Or.inl (own_w hw 8 rfl)) Via.refl e34 Sa_TRUE (g := (mkF m 38 #[iv p1, iv p2, iv (0 : Int32), iv (1 : Int32), rv a_FALSE, rv a_TRUE, .unset, .unset, .unset, .unset] [(.ref a_FALSE)])) rfl (hb hby at_38)
      refine own_st st35 ?_
      show own_Fin p e below G (T35.setTop (mkF m 41 #[iv p1, iv p2, iv (0 : Int32), iv (1 : Int32), rv a_FALSE, rv a_TRUE, .unset, .unset, .unset, .unset] [(.ref a_TRUE), (.ref a_FALSE)]))
      refine own_st (fun _ k => Jvm.RoadKit.acmp (g := (mkF m 41 #[iv p1, iv p2, iv (0 : Int32), iv (1 : Int32), rv a_FALSE, rv a_TRUE, .unset, .unset, .unset, .unset] [(.ref a_TRUE), (.ref a_FALSE)])) X35 hx rfl rfl rfl (pc0 := 41) (pc' := 48) (same := false) rfl (hb hby at_41) rfl (decide_eq_false fun q => ne_a_FALSE_a_TRUE (Value.ref.inj q)) (by decide) (by decide) k) ?_
      show own_Fin p e below G (T35.setTop (mkF m 48 #[iv p1, iv p2, iv (0 : Int32), iv (1 : Int32), rv a_FALSE, rv a_TRUE, .unset, .unset, .unset, .unset] []))
      refine own_st (fun _ k => XS.iconst X35.here hx rfl (hb hby at_48) k) ?_
      show own_Fin p e below G (T35.setTop (mkF m 49 #[iv p1, iv p2, iv (0 : Int32), iv (1 : Int32), rv a_FALSE, rv a_TRUE, .unset, .unset, .unset, .unset] [(.int (0 : Int32))]))
      refine own_st (fun _ k => XS.iloadN X35.here hx rfl (hb hby at_49) rfl  k) ?_
      show own_Fin p e below G (T35.setTop (mkF m 50 #[iv p1, iv p2, iv (0 : Int32), iv (1 : Int32), rv a_FALSE, rv a_TRUE, .unset, .unset, .unset, .unset] [(.int (0 : Int32)), (.int (0 : Int32))]))
      refine own_st (fun _ k => XS.icmpNo X35.here hx rfl (hb hby at_50) rfl (teq (by decide : ((0 : Int32) = (0 : Int32)))).2 k) ?_
      show own_Fin p e below G (T35.setTop (mkF m 53 #[iv p1, iv p2, iv (0 : Int32), iv (1 : Int32), rv a_FALSE, rv a_TRUE, .unset, .unset, .unset, .unset] []))
      refine own_st (fun _ k => XS.aload X35.here hx rfl (hb hby at_53) rfl rfl k) ?_
      show own_Fin p e below G (T35.setTop (mkF m 55 #[iv p1, iv p2, iv (0 : Int32), iv (1 : Int32), rv a_FALSE, rv a_TRUE, .unset, .unset, .unset, .unset] [(.ref a_FALSE)]))
      obtain ⟨T36, X36, e36, st36⟩ := getS2 X35 hx hZ hown (host := "") (Or.inl (own_w hw 9 rfl)) Via.refl e35 Sa_FALSE (g := (mkF m 55 #[iv p1, iv p2, iv (0 : Int32), iv (1 : Int32), rv a_FALSE, rv a_TRUE, .unset, .unset, .unset, .unset] [(.ref a_FALSE)])) rfl (hb hby at_55)
      refine own_st st36 ?_
      show own_Fin p e below G (T36.setTop (mkF m 58 #[iv p1, iv p2, iv (0 : Int32), iv (1 : Int32), rv a_FALSE, rv a_TRUE, .unset, .unset, .unset, .unset] [(.ref a_FALSE), (.ref a_FALSE)]))
      refine own_st (fun _ k => Jvm.RoadKit.acmp (g := (mkF m 58 #[iv p1, iv p2, iv (0 : Int32), iv (1 : Int32), rv a_FALSE, rv a_TRUE, .unset, .unset, .unset, .unset] [(.ref a_FALSE), (.ref a_FALSE)])) X36 hx rfl rfl rfl (pc0 := 58) (pc' := 61) (same := true) rfl (hb hby at_58) rfl (decide_eq_true rfl) (by decide) (by decide) k) ?_
      show own_Fin p e below G (T36.setTop (mkF m 61 #[iv p1, iv p2, iv (0 : Int32), iv (1 : Int32), rv a_FALSE, rv a_TRUE, .unset, .unset, .unset, .unset] []))
      refine own_st (fun _ k => XS.iconst X36.here hx rfl (hb hby at_61) k) ?_
      show own_Fin p e below G (T36.setTop (mkF m 62 #[iv p1, iv p2, iv (0 : Int32), iv (1 : Int32), rv a_FALSE, rv a_TRUE, .unset, .unset, .unset, .unset] [(.int (1 : Int32))]))
      refine own_st (fun _ k => XS.goto X36.here hx rfl (pc0 := 62) (pc' := 66) rfl (hb hby at_62) (by decide) (by decide) k) ?_
      show own_Fin p e below G (T36.setTop (mkF m 66 #[iv p1, iv p2, iv (0 : Int32), iv (1 : Int32), rv a_FALSE, rv a_TRUE, .unset, .unset, .unset, .unset] [(.int (1 : Int32))]))
      refine own_st (fun _ k => XS.iloadN X36.here hx rfl (hb hby at_66) rfl  k) ?_
      show own_Fin p e below G (T36.setTop (mkF m 67 #[iv p1, iv p2, iv (0 : Int32), iv (1 : Int32), rv a_FALSE, rv a_TRUE, .unset, .unset, .unset, .unset] [(.int (0 : Int32)), (.int (1 : Int32))]))
      refine own_st (fun _ k => XS.ifNo X36.here hx rfl (hb hby at_67) rfl ((if0 _ _).trans (teq (by decide : ((0 : Int32) = (0 : Int32)))).2) k) ?_
      show own_Fin p e below G (T36.setTop (mkF m 70 #[iv p1, iv p2, iv (0 : Int32), iv (1 : Int32), rv a_FALSE, rv a_TRUE, .unset, .unset, .unset, .unset] [(.int (1 : Int32))]))
      refine own_st (fun _ k => XS.iconst X36.here hx rfl (hb hby at_70) k) ?_
      show own_Fin p e below G (T36.setTop (mkF m 71 #[iv p1, iv p2, iv (0 : Int32), iv (1 : Int32), rv a_FALSE, rv a_TRUE, .unset, .unset, .unset, .unset] [(.int (1 : Int32)), (.int (1 : Int32))]))
      refine own_st (fun _ k => XS.goto X36.here hx rfl (pc0 := 71) (pc' := 75) rfl (hb hby at_71) (by decide) (by decide) k) ?_
      show own_Fin p e below G (T36.setTop (mkF m 75 #[iv p1, iv p2, iv (0 : Int32), iv (1 : Int32), rv a_FALSE, rv a_TRUE, .unset, .unset, .unset, .unset] [(.int (1 : Int32)), (.int (1 : Int32))]))
      refine own_st (fun _ k => XS.icmpNo X36.here hx rfl (hb hby at_75) rfl (teq (by decide : ((1 : Int32) = (1 : Int32)))).2 k) ?_
      show own_Fin p e below G (T36.setTop (mkF m 78 #[iv p1, iv p2, iv (0 : Int32), iv (1 : Int32), rv a_FALSE, rv a_TRUE, .unset, .unset, .unset, .unset] []))
      refine own_st (fun _ k => XS.aload X36.here hx rfl (hb hby at_78) rfl rfl k) ?_
      show own_Fin p e below G (T36.setTop (mkF m 80 #[iv p1, iv p2, iv (0 : Int32), iv (1 : Int32), rv a_FALSE, rv a_TRUE, .unset, .unset, .unset, .unset] [(.ref a_FALSE)]))
      obtain ⟨T37, X37, e37, st37⟩ := getS2 X36 hx hZ hown (host := "") (Or.inl (own_w hw 10 rfl)) Via.refl e36 Sa_UNKNOWN (g := (mkF m 80 #[iv p1, iv p2, iv (0 : Int32), iv (1 : Int32), rv a_FALSE, rv a_TRUE, .unset, .unset, .unset, .unset] [(.ref a_FALSE)])) rfl (hb hby at_80)
      refine own_st st37 ?_
      show own_Fin p e below G (T37.setTop (mkF m 83 #[iv p1, iv p2, iv (0 : Int32), iv (1 : Int32), rv a_FALSE, rv a_TRUE, .unset, .unset, .unset, .unset] [(.ref a_UNKNOWN), (.ref a_FALSE)]))
      refine own_st (fun _ k => Jvm.RoadKit.acmp (g := (mkF m 83 #[iv p1, iv p2, iv (0 : Int32), iv (1 : Int32), rv a_FALSE, rv a_TRUE, .unset, .unset, .unset, .unset] [(.ref a_UNKNOWN), (.ref a_FALSE)])) X37 hx rfl rfl rfl (pc0 := 83) (pc' := 86) (same := false) rfl (hb hby at_83) rfl (decide_eq_false fun q => ne_a_FALSE_a_UNKNOWN (Value.ref.inj q)) (by decide) (by decide) k) ?_
      show own_Fin p e below G (T37.setTop (mkF m 86 #[iv p1, iv p2, iv (0 : Int32), iv (1 : Int32), rv a_FALSE, rv a_TRUE, .unset, .unset, .unset, .unset] []))
      refine own_st (fun _ k => XS.iconst X37.here hx rfl (hb hby at_86) k) ?_
      show own_Fin p e below G (T37.setTop (mkF m 87 #[iv p1, iv p2, iv (0 : Int32), iv (1 : Int32), rv a_FALSE, rv a_TRUE, .unset, .unset, .unset, .unset] [(.int (1 : Int32))]))
      refine own_st (fun _ k => XS.goto X37.here hx rfl (pc0 := 87) (pc' := 91) rfl (hb hby at_87) (by decide) (by decide) k) ?_
      show own_Fin p e below G (T37.setTop (mkF m 91 #[iv p1, iv p2, iv (0 : Int32), iv (1 : Int32), rv a_FALSE, rv a_TRUE, .unset, .unset, .unset, .unset] [(.int (1 : Int32))]))
      refine own_st (fun _ k => XS.istore X37.here hx rfl (hb hby at_91) rfl (l' := #[iv p1, iv p2, iv (0 : Int32), iv (1 : Int32), rv a_FALSE, rv a_TRUE, iv (1 : Int32), .unset, .unset, .unset]) rfl k) ?_
      show own_Fin p e below G (T37.setTop (mkF m 93 #[iv p1, iv p2, iv (0 : Int32), iv (1 : Int32), rv a_FALSE, rv a_TRUE, iv (1 : Int32), .unset, .unset, .unset] []))
      refine own_st (fun _ k => XS.iloadN X37.here hx rfl (hb hby at_93) rfl  k) ?_
      show own_Fin p e below G (T37.setTop (mkF m 94 #[iv p1, iv p2, iv (0 : Int32), iv (1 : Int32), rv a_FALSE, rv a_TRUE, iv (1 : Int32), .unset, .unset, .unset] [(.int (0 : Int32))]))
      refine own_st (fun _ k => XS.ifNo X37.here hx rfl (hb hby at_94) rfl ((if0 _ _).trans (teq (by decide : ((0 : Int32) = (0 : Int32)))).2) k) ?_
      show own_Fin p e below G (T37.setTop (mkF m 97 #[iv p1, iv p2, iv (0 : Int32), iv (1 : Int32), rv a_FALSE, rv a_TRUE, iv (1 : Int32), .unset, .unset, .unset] []))
      refine own_st (fun _ k => XS.iconst X37.here hx rfl (hb hby at_97) k) ?_
      show own_Fin p e below G (T37.setTop (mkF m 98 #[iv p1, iv p2, iv (0 : Int32), iv (1 : Int32), rv a_FALSE, rv a_TRUE, iv (1 : Int32), .unset, .unset, .unset] [(.int (1 : Int32))]))
      refine own_st (fun _ k => XS.goto X37.here hx rfl (pc0 := 98) (pc' := 102) rfl (hb hby at_98) (by decide) (by decide) k) ?_
      show own_Fin p e below G (T37.setTop (mkF m 102 #[iv p1, iv p2, iv (0 : Int32), iv (1 : Int32), rv a_FALSE, rv a_TRUE, iv (1 : Int32), .unset, .unset, .unset] [(.int (1 : Int32))]))
      obtain ⟨_, _, ⟨T38, L38, k38, n38⟩, -, X38, ⟨Lc38, hQ38, l38, y38, z38⟩, st38⟩ := Jvm.LawKit.callS X37 hx (y := own_y0) hown (mvT hZ (own_w hw 0 rfl)) (mvT hZ (own_w hw 1 rfl)) (mvT hZ (own_w hw 2 rfl)) (mvT hZ (own_w hw 3 rfl)) (by decide) (backOf (W := 0) (rm_of1 l Z a0 hw [] a_TRUE h0 n0 (Nat.le_trans Z0 K0.1) Sa_TRUE) hZ (own_w hw 3 rfl) (own_w hw 2 rfl) (by decide) (by decide)) (g := (mkF m 102 #[iv p1, iv p2, iv (0 : Int32), iv (1 : Int32), rv a_FALSE, rv a_TRUE, iv (1 : Int32), .unset, .unset, .unset] [(.int (1 : Int32))])) rfl (by rw [hml]; rfl) (argsL := [(.int (1 : Int32))]) (rest := []) (lenOf pd__Z_Lcom_example_attributes_to_entitlements_attributestoentitlements_Truth__567 rfl) rfl (by show 2 * 0 + _ ≤ _; exact Nat.le_of_eq rfl) (hb hby at_102) (fun _ _ => ⟨rfl, e37, (by decide : 0 + 0 ≤ _), (by decide : 0 + 0 ≤ _)⟩)
      dsimp only [Pt.U, Pt.locs, Pt.cells, Pt.slots] at X38 l38 y38 z38 st38 hQ38
      subst l38 y38 z38
      obtain ⟨rfl, N38q, e38⟩ := hQ38
      skip
      have N38 := Fr.app N34 N38q
      refine own_st st38 ?_
      show own_Fin p e below G (T38.setTop (mkF m 105 #[iv p1, iv p2, iv (0 : Int32), iv (1 : Int32), rv a_FALSE, rv a_TRUE, iv (1 : Int32), .unset, .unset, .unset] [(.ref a_TRUE)]))
      refine own_st (fun _ k => XS.aload X38.here hx rfl (hb hby at_105) rfl rfl k) ?_
      show own_Fin p e below G (T38.setTop (mkF m 107 #[iv p1, iv p2, iv (0 : Int32), iv (1 : Int32), rv a_FALSE, rv a_TRUE, iv (1 : Int32), .unset, .unset, .unset] [(.ref a_FALSE), (.ref a_TRUE)]))
      obtain ⟨cq39, kq39, q39a, q39b, q39c⟩ := isOf hZ e38 Ea_FALSE
      obtain ⟨_, _, ⟨T39, L39, k39, n39⟩, -, X39, ⟨Lc39, hQ39, l39, y39, z39⟩, st39⟩ := X38.virtualBack hx (y := own_y3) (z := own_y3) hown (mvT hZ (own_w hw 12 rfl)) (mvT hZ (own_w hw 13 rfl)) (notFace_of_selects (args := #[]) (mvT hZ (own_w hw 15 rfl))) (mvT hZ (own_w hw 15 rfl)) (mvT hZ (own_w hw 14 rfl)) (by decide) (backOf (W := 1) (rm_not0 l Z a0 hw [] a_FALSE a_TRUE h0 n0 (Nat.le_trans Z0 K0.1) Ea_FALSE Fa_FALSE_ordinal Sa_TRUE) hZ (own_w hw 16 rfl) (own_w hw 2 rfl) (by decide) (by decide)) q39a q39c (g := (mkF m 107 #[iv p1, iv p2, iv (0 : Int32), iv (1 : Int32), rv a_FALSE, rv a_TRUE, iv (1 : Int32), .unset, .unset, .unset] [(.ref a_FALSE), (.ref a_TRUE)])) rfl (by rw [hml]; rfl) (Steps.refl _) (argsL := []) (rest := [(.ref a_TRUE)]) (lenOf pd___Lcom_example_attributes_to_entitlements_attributestoentitlements_Truth__477 rfl) rfl (by show 2 * 0 + _ ≤ _; exact Nat.le_of_eq rfl) (hb hby at_107) (fun _ _ => ⟨rfl, e38, (by decide : 0 + 0 ≤ _), (by decide : 0 + 0 ≤ _)⟩)
      dsimp only [Pt.U, Pt.locs, Pt.cells, Pt.slots] at X39 l39 y39 z39 st39 hQ39
      subst l39 y39 z39
      obtain ⟨rfl, N39q, e39⟩ := hQ39
      skip
      have N39 := Fr.app N38 N39q
      refine own_tr st39 ?_
      show own_Fin p e below G (T39.setTop (mkF m 110 #[iv p1, iv p2, iv (0 : Int32), iv (1 : Int32), rv a_FALSE, rv a_TRUE, iv (1 : Int32), .unset, .unset, .unset] [(.ref a_TRUE), (.ref a_TRUE)]))
      refine own_st (fun _ k => Jvm.RoadKit.acmp (g := (mkF m 110 #[iv p1, iv p2, iv (0 : Int32), iv (1 : Int32), rv a_FALSE, rv a_TRUE, iv (1 : Int32), .unset, .unset, .unset] [(.ref a_TRUE), (.ref a_TRUE)])) X39 hx rfl rfl rfl (pc0 := 110) (pc' := 113) (same := true) rfl (hb hby at_110) rfl (decide_eq_true rfl) (by decide) (by decide) k) ?_
      show own_Fin p e below G (T39.setTop (mkF m 113 #[iv p1, iv p2, iv (0 : Int32), iv (1 : Int32), rv a_FALSE, rv a_TRUE, iv (1 : Int32), .unset, .unset, .unset] []))
      refine own_st (fun _ k => XS.iconst X39.here hx rfl (hb hby at_113) k) ?_
      show own_Fin p e below G (T39.setTop (mkF m 114 #[iv p1, iv p2, iv (0 : Int32), iv (1 : Int32), rv a_FALSE, rv a_TRUE, iv (1 : Int32), .unset, .unset, .unset] [(.int (1 : Int32))]))
      refine own_st (fun _ k => XS.goto X39.here hx rfl (pc0 := 114) (pc' := 118) rfl (hb hby at_114) (by decide) (by decide) k) ?_
      show own_Fin p e below G (T39.setTop (mkF m 118 #[iv p1, iv p2, iv (0 : Int32), iv (1 : Int32), rv a_FALSE, rv a_TRUE, iv (1 : Int32), .unset, .unset, .unset] [(.int (1 : Int32))]))
      refine own_st (fun _ k => XS.istore X39.here hx rfl (hb hby at_118) rfl (l' := #[iv p1, iv p2, iv (0 : Int32), iv (1 : Int32), rv a_FALSE, rv a_TRUE, iv (1 : Int32), iv (1 : Int32), .unset, .unset]) rfl k) ?_
      show own_Fin p e below G (T39.setTop (mkF m 120 #[iv p1, iv p2, iv (0 : Int32), iv (1 : Int32), rv a_FALSE, rv a_TRUE, iv (1 : Int32), iv (1 : Int32), .unset, .unset] []))
      refine own_st (fun _ k => XS.iloadN X39.here hx rfl (hb hby at_120) rfl  k) ?_
      show own_Fin p e below G (T39.setTop (mkF m 121 #[iv p1, iv p2, iv (0 : Int32), iv (1 : Int32), rv a_FALSE, rv a_TRUE, iv (1 : Int32), iv (1 : Int32), .unset, .unset] [(.int (0 : Int32))]))
      refine own_st (fun _ k => XS.ifYes X39.here hx rfl (pc0 := 121) (pc' := 132) rfl (hb hby at_121) rfl ((if0 _ _).trans (teq (by decide : ((0 : Int32) = (0 : Int32)))).1) (by decide) (by decide) k) ?_
      show own_Fin p e below G (T39.setTop (mkF m 132 #[iv p1, iv p2, iv (0 : Int32), iv (1 : Int32), rv a_FALSE, rv a_TRUE, iv (1 : Int32), iv (1 : Int32), .unset, .unset] []))
      refine own_st (fun _ k => XS.iconst X39.here hx rfl (hb hby at_132) k) ?_
      show own_Fin p e below G (T39.setTop (mkF m 133 #[iv p1, iv p2, iv (0 : Int32), iv (1 : Int32), rv a_FALSE, rv a_TRUE, iv (1 : Int32), iv (1 : Int32), .unset, .unset] [(.int (0 : Int32))]))
      obtain ⟨_, _, ⟨T40, L40, k40, n40⟩, -, X40, ⟨Lc40, hQ40, l40, y40, z40⟩, st40⟩ := Jvm.LawKit.callS X39 hx (y := own_y0) hown (mvT hZ (own_w hw 0 rfl)) (mvT hZ (own_w hw 1 rfl)) (mvT hZ (own_w hw 2 rfl)) (mvT hZ (own_w hw 3 rfl)) (by decide) (backOf (W := 0) (rm_of0 l Z a0 hw [] a_FALSE h0 n0 (Nat.le_trans Z0 K0.1) Sa_FALSE) hZ (own_w hw 3 rfl) (own_w hw 2 rfl) (by decide) (by decide)) (g := (mkF m 133 #[iv p1, iv p2, iv (0 : Int32), iv (1 : Int32), rv a_FALSE, rv a_TRUE, iv (1 : Int32), iv (1 : Int32), .unset, .unset] [(.int (0 : Int32))])) rfl (by rw [hml]; rfl) (argsL := [(.int (0 : Int32))]) (rest := []) (lenOf pd__Z_Lcom_example_attributes_to_entitlements_attributestoentitlements_Truth__567 rfl) rfl (by show 2 * 0 + _ ≤ _; exact Nat.le_of_eq rfl) (hb hby at_133) (fun _ _ => ⟨rfl, e39, (by decide : 0 + 0 ≤ _), (by decide : 0 + 0 ≤ _)⟩)
      dsimp only [Pt.U, Pt.locs, Pt.cells, Pt.slots] at X40 l40 y40 z40 st40 hQ40
      subst l40 y40 z40
      obtain ⟨rfl, N40q, e40⟩ := hQ40
      skip
      have N40 := Fr.app N39 N40q
      refine own_st st40 ?_
      show own_Fin p e below G (T40.setTop (mkF m 136 #[iv p1, iv p2, iv (0 : Int32), iv (1 : Int32), rv a_FALSE, rv a_TRUE, iv (1 : Int32), iv (1 : Int32), .unset, .unset] [(.ref a_FALSE)]))
      refine own_st (fun _ k => XS.aload X40.here hx rfl (hb hby at_136) rfl rfl k) ?_
      show own_Fin p e below G (T40.setTop (mkF m 138 #[iv p1, iv p2, iv (0 : Int32), iv (1 : Int32), rv a_FALSE, rv a_TRUE, iv (1 : Int32), iv (1 : Int32), .unset, .unset] [(.ref a_FALSE), (.ref a_FALSE)]))
      refine own_st (fun _ k => XS.aload X40.here hx rfl (hb hby at_138) rfl rfl k) ?_
      show own_Fin p e below G (T40.setTop (mkF m 140 #[iv p1, iv p2, iv (0 : Int32), iv (1 : Int32), rv a_FALSE, rv a_TRUE, iv (1 : Int32), iv (1 : Int32), .unset, .unset] [(.ref a_TRUE), (.ref a_FALSE), (.ref a_FALSE)]))
      obtain ⟨cq41, kq41, q41a, q41b, q41c⟩ := isOf hZ e40 Ea_FALSE
      obtain ⟨_, _, ⟨T41, L41, k41, n41⟩, -, X41, ⟨Lc41, hQ41, l41, y41, z41⟩, st41⟩ := X40.virtualBack hx (y := own_y6) (z := own_y6) hown (mvT hZ (own_w hw 26 rfl)) (mvT hZ (own_w hw 27 rfl)) (notFace_of_selects (args := #[]) (mvT hZ (own_w hw 29 rfl))) (mvT hZ (own_w hw 29 rfl)) (mvT hZ (own_w hw 28 rfl)) (by decide) (backOf (W := 1) (rm_and02 l Z a0 hw [] a_FALSE a_TRUE mr h0 n0 (Nat.le_trans Z0 K0.1) Ea_FALSE Ea_TRUE Fa_FALSE_ordinal Fa_TRUE_ordinal M) hZ (own_w hw 30 rfl) (own_w hw 2 rfl) (by decide) (by decide)) q41a q41c (g := (mkF m 140 #[iv p1, iv p2, iv (0 : Int32), iv (1 : Int32), rv a_FALSE, rv a_TRUE, iv (1 : Int32), iv (1 : Int32), .unset, .unset] [(.ref a_TRUE), (.ref a_FALSE), (.ref a_FALSE)])) rfl (by rw [hml]; rfl) (Steps.refl _) (argsL := [(.ref a_TRUE)]) (rest := [(.ref a_FALSE)]) (lenOf pd__Lcom_example_attributes_to_entitlements_attributestoentitlements_Truth__Lcom_example_attributes_to_entitlements_attributestoentitlements_Truth__873 rfl) rfl (by show 2 * 0 + _ ≤ _; exact Nat.le_of_eq rfl) (hb hby at_140) (fun _ _ => ⟨rfl, e40, (by decide : 0 + 0 ≤ _), (by decide : 0 + 0 ≤ _)⟩)
      dsimp only [Pt.U, Pt.locs, Pt.cells, Pt.slots] at X41 l41 y41 z41 st41 hQ41
      subst l41 y41 z41
      obtain ⟨rfl, N41q, e41⟩ := hQ41
      skip
      have N41 := Fr.app N40 N41q
      refine own_tr st41 ?_
      show own_Fin p e below G (T41.setTop (mkF m 143 #[iv p1, iv p2, iv (0 : Int32), iv (1 : Int32), rv a_FALSE, rv a_TRUE, iv (1 : Int32), iv (1 : Int32), .unset, .unset] [(.ref a_FALSE), (.ref a_FALSE)]))
      refine own_st (fun _ k => Jvm.RoadKit.acmp (g := (mkF m 143 #[iv p1, iv p2, iv (0 : Int32), iv (1 : Int32), rv a_FALSE, rv a_TRUE, iv (1 : Int32), iv (1 : Int32), .unset, .unset] [(.ref a_FALSE), (.ref a_FALSE)])) X41 hx rfl rfl rfl (pc0 := 143) (pc' := 146) (same := true) rfl (hb hby at_143) rfl (decide_eq_true rfl) (by decide) (by decide) k) ?_
      show own_Fin p e below G (T41.setTop (mkF m 146 #[iv p1, iv p2, iv (0 : Int32), iv (1 : Int32), rv a_FALSE, rv a_TRUE, iv (1 : Int32), iv (1 : Int32), .unset, .unset] []))
      refine own_st (fun _ k => XS.iconst X41.here hx rfl (hb hby at_146) k) ?_
      show own_Fin p e below G (T41.setTop (mkF m 147 #[iv p1, iv p2, iv (0 : Int32), iv (1 : Int32), rv a_FALSE, rv a_TRUE, iv (1 : Int32), iv (1 : Int32), .unset, .unset] [(.int (1 : Int32))]))
      refine own_st (fun _ k => XS.goto X41.here hx rfl (pc0 := 147) (pc' := 151) rfl (hb hby at_147) (by decide) (by decide) k) ?_
      show own_Fin p e below G (T41.setTop (mkF m 151 #[iv p1, iv p2, iv (0 : Int32), iv (1 : Int32), rv a_FALSE, rv a_TRUE, iv (1 : Int32), iv (1 : Int32), .unset, .unset] [(.int (1 : Int32))]))
      refine own_st (fun _ k => XS.istore X41.here hx rfl (hb hby at_151) rfl (l' := #[iv p1, iv p2, iv (0 : Int32), iv (1 : Int32), rv a_FALSE, rv a_TRUE, iv (1 : Int32), iv (1 : Int32), iv (1 : Int32), .unset]) rfl k) ?_
      show own_Fin p e below G (T41.setTop (mkF m 153 #[iv p1, iv p2, iv (0 : Int32), iv (1 : Int32), rv a_FALSE, rv a_TRUE, iv (1 : Int32), iv (1 : Int32), iv (1 : Int32), .unset] []))
      refine own_st (fun _ k => XS.iloadN X41.here hx rfl (hb hby at_153) rfl  k) ?_
      show own_Fin p e below G (T41.setTop (mkF m 154 #[iv p1, iv p2, iv (0 : Int32), iv (1 : Int32), rv a_FALSE, rv a_TRUE, iv (1 : Int32), iv (1 : Int32), iv (1 : Int32), .unset] [(.int (0 : Int32))]))
      refine own_st (fun _ k => XS.ifNo X41.here hx rfl (hb hby at_154) rfl ((if0 _ _).trans (teq (by decide : ((0 : Int32) = (0 : Int32)))).2) k) ?_
      show own_Fin p e below G (T41.setTop (mkF m 157 #[iv p1, iv p2, iv (0 : Int32), iv (1 : Int32), rv a_FALSE, rv a_TRUE, iv (1 : Int32), iv (1 : Int32), iv (1 : Int32), .unset] []))
      refine own_st (fun _ k => XS.iloadN X41.here hx rfl (hb hby at_157) rfl  k) ?_
      show own_Fin p e below G (T41.setTop (mkF m 158 #[iv p1, iv p2, iv (0 : Int32), iv (1 : Int32), rv a_FALSE, rv a_TRUE, iv (1 : Int32), iv (1 : Int32), iv (1 : Int32), .unset] [(.int (1 : Int32))]))
      refine own_st (fun _ k => XS.ifNo X41.here hx rfl (hb hby at_158) rfl ((if0 _ _).trans (feq (by decide : ¬ ((1 : Int32) = (0 : Int32)))).1) k) ?_
      show own_Fin p e below G (T41.setTop (mkF m 161 #[iv p1, iv p2, iv (0 : Int32), iv (1 : Int32), rv a_FALSE, rv a_TRUE, iv (1 : Int32), iv (1 : Int32), iv (1 : Int32), .unset] []))
      refine own_st (fun _ k => XS.iconst X41.here hx rfl (hb hby at_161) k) ?_
      show own_Fin p e below G (T41.setTop (mkF m 162 #[iv p1, iv p2, iv (0 : Int32), iv (1 : Int32), rv a_FALSE, rv a_TRUE, iv (1 : Int32), iv (1 : Int32), iv (1 : Int32), .unset] [(.int (1 : Int32))]))
      refine own_st (fun _ k => XS.goto X41.here hx rfl (pc0 := 162) (pc' := 166) rfl (hb hby at_162) (by decide) (by decide) k) ?_
      show own_Fin p e below G (T41.setTop (mkF m 166 #[iv p1, iv p2, iv (0 : Int32), iv (1 : Int32), rv a_FALSE, rv a_TRUE, iv (1 : Int32), iv (1 : Int32), iv (1 : Int32), .unset] [(.int (1 : Int32))]))
      obtain ⟨_, _, ⟨T42, L42, k42, n42⟩, -, X42, ⟨Lc42, hQ42, l42, y42, z42⟩, st42⟩ := Jvm.LawKit.callS X41 hx (y := own_y0) hown (mvT hZ (own_w hw 0 rfl)) (mvT hZ (own_w hw 1 rfl)) (mvT hZ (own_w hw 2 rfl)) (mvT hZ (own_w hw 3 rfl)) (by decide) (backOf (W := 0) (rm_of1 l Z a0 hw [] a_TRUE h0 n0 (Nat.le_trans Z0 K0.1) Sa_TRUE) hZ (own_w hw 3 rfl) (own_w hw 2 rfl) (by decide) (by decide)) (g := (mkF m 166 #[iv p1, iv p2, iv (0 : Int32), iv (1 : Int32), rv a_FALSE, rv a_TRUE, iv (1 : Int32), iv (1 : Int32), iv (1 : Int32), .unset] [(.int (1 : Int32))])) rfl (by rw [hml]; rfl) (argsL := [(.int (1 : Int32))]) (rest := []) (lenOf pd__Z_Lcom_example_attributes_to_entitlements_attributestoentitlements_Truth__567 rfl) rfl (by show 2 * 0 + _ ≤ _; exact Nat.le_of_eq rfl) (hb hby at_166) (fun _ _ => ⟨rfl, e41, (by decide : 0 + 0 ≤ _), (by decide : 0 + 0 ≤ _)⟩)
      dsimp only [Pt.U, Pt.locs, Pt.cells, Pt.slots] at X42 l42 y42 z42 st42 hQ42
      subst l42 y42 z42
      obtain ⟨rfl, N42q, e42⟩ := hQ42
      skip
      have N42 := Fr.app N41 N42q
      refine own_st st42 ?_
      show own_Fin p e below G (T42.setTop (mkF m 169 #[iv p1, iv p2, iv (0 : Int32), iv (1 : Int32), rv a_FALSE, rv a_TRUE, iv (1 : Int32), iv (1 : Int32), iv (1 : Int32), .unset] [(.ref a_TRUE)]))
      refine own_st (fun _ k => XS.aload X42.here hx rfl (hb hby at_169) rfl rfl k) ?_
      show own_Fin p e below G (T42.setTop (mkF m 171 #[iv p1, iv p2, iv (0 : Int32), iv (1 : Int32), rv a_FALSE, rv a_TRUE, iv (1 : Int32), iv (1 : Int32), iv (1 : Int32), .unset] [(.ref a_FALSE), (.ref a_TRUE)]))
      refine own_st (fun _ k => XS.aload X42.here hx rfl (hb hby at_171) rfl rfl k) ?_
      show own_Fin p e below G (T42.setTop (mkF m 173 #[iv p1, iv p2, iv (0 : Int32), iv (1 : Int32), rv a_FALSE, rv a_TRUE, iv (1 : Int32), iv (1 : Int32), iv (1 : Int32), .unset] [(.ref a_TRUE), (.ref a_FALSE), (.ref a_TRUE)]))
      obtain ⟨cq43, kq43, q43a, q43b, q43c⟩ := isOf hZ e42 Ea_FALSE
      obtain ⟨_, _, ⟨T43, L43, k43, n43⟩, -, X43, ⟨Lc43, hQ43, l43, y43, z43⟩, st43⟩ := X42.virtualBack hx (y := own_y7) (z := own_y7) hown (mvT hZ (own_w hw 43 rfl)) (mvT hZ (own_w hw 44 rfl)) (notFace_of_selects (args := #[]) (mvT hZ (own_w hw 46 rfl))) (mvT hZ (own_w hw 46 rfl)) (mvT hZ (own_w hw 45 rfl)) (by decide) (backOf (W := 1) (rm_or02 l Z a0 hw [] a_FALSE a_TRUE mr h0 n0 (Nat.le_trans Z0 K0.1) Ea_FALSE Ea_TRUE Fa_FALSE_ordinal Fa_TRUE_ordinal M) hZ (own_w hw 47 rfl) (own_w hw 2 rfl) (by decide) (by decide)) q43a q43c (g := (mkF m 173 #[iv p1, iv p2, iv (0 : Int32), iv (1 : Int32), rv a_FALSE, rv a_TRUE, iv (1 : Int32), iv (1 : Int32), iv (1 : Int32), .unset] [(.ref a_TRUE), (.ref a_FALSE), (.ref a_TRUE)])) rfl (by rw [hml]; rfl) (Steps.refl _) (argsL := [(.ref a_TRUE)]) (rest := [(.ref a_TRUE)]) (lenOf pd__Lcom_example_attributes_to_entitlements_attributestoentitlements_Truth__Lcom_example_attributes_to_entitlements_attributestoentitlements_Truth__873 rfl) rfl (by show 2 * 0 + _ ≤ _; exact Nat.le_of_eq rfl) (hb hby at_173) (fun _ _ => ⟨rfl, e42, (by decide : 0 + 0 ≤ _), (by decide : 0 + 0 ≤ _)⟩)
      dsimp only [Pt.U, Pt.locs, Pt.cells, Pt.slots] at X43 l43 y43 z43 st43 hQ43
      subst l43 y43 z43
      obtain ⟨rfl, N43q, e43⟩ := hQ43
      skip
      have N43 := Fr.app N42 N43q
      refine own_tr st43 ?_
      show own_Fin p e below G (T43.setTop (mkF m 176 #[iv p1, iv p2, iv (0 : Int32), iv (1 : Int32), rv a_FALSE, rv a_TRUE, iv (1 : Int32), iv (1 : Int32), iv (1 : Int32), .unset] [(.ref a_TRUE), (.ref a_TRUE)]))
      refine own_st (fun _ k => Jvm.RoadKit.acmp (g := (mkF m 176 #[iv p1, iv p2, iv (0 : Int32), iv (1 : Int32), rv a_FALSE, rv a_TRUE, iv (1 : Int32), iv (1 : Int32), iv (1 : Int32), .unset] [(.ref a_TRUE), (.ref a_TRUE)])) X43 hx rfl rfl rfl (pc0 := 176) (pc' := 179) (same := true) rfl (hb hby at_176) rfl (decide_eq_true rfl) (by decide) (by decide) k) ?_
      show own_Fin p e below G (T43.setTop (mkF m 179 #[iv p1, iv p2, iv (0 : Int32), iv (1 : Int32), rv a_FALSE, rv a_TRUE, iv (1 : Int32), iv (1 : Int32), iv (1 : Int32), .unset] []))
      refine own_st (fun _ k => XS.iconst X43.here hx rfl (hb hby at_179) k) ?_
      show own_Fin p e below G (T43.setTop (mkF m 180 #[iv p1, iv p2, iv (0 : Int32), iv (1 : Int32), rv a_FALSE, rv a_TRUE, iv (1 : Int32), iv (1 : Int32), iv (1 : Int32), .unset] [(.int (1 : Int32))]))
      refine own_st (fun _ k => XS.goto X43.here hx rfl (pc0 := 180) (pc' := 184) rfl (hb hby at_180) (by decide) (by decide) k) ?_
      show own_Fin p e below G (T43.setTop (mkF m 184 #[iv p1, iv p2, iv (0 : Int32), iv (1 : Int32), rv a_FALSE, rv a_TRUE, iv (1 : Int32), iv (1 : Int32), iv (1 : Int32), .unset] [(.int (1 : Int32))]))
      refine own_st (fun _ k => XS.istore X43.here hx rfl (hb hby at_184) rfl (l' := #[iv p1, iv p2, iv (0 : Int32), iv (1 : Int32), rv a_FALSE, rv a_TRUE, iv (1 : Int32), iv (1 : Int32), iv (1 : Int32), iv (1 : Int32)]) rfl k) ?_
      show own_Fin p e below G (T43.setTop (mkF m 186 #[iv p1, iv p2, iv (0 : Int32), iv (1 : Int32), rv a_FALSE, rv a_TRUE, iv (1 : Int32), iv (1 : Int32), iv (1 : Int32), iv (1 : Int32)] []))
      refine own_st (fun _ k => XS.iload X43.here hx rfl (hb hby at_186) rfl  k) ?_
      show own_Fin p e below G (T43.setTop (mkF m 188 #[iv p1, iv p2, iv (0 : Int32), iv (1 : Int32), rv a_FALSE, rv a_TRUE, iv (1 : Int32), iv (1 : Int32), iv (1 : Int32), iv (1 : Int32)] [(.int (1 : Int32))]))
      refine own_st (fun _ k => XS.ifNo X43.here hx rfl (hb hby at_188) rfl ((if0 _ _).trans (feq (by decide : ¬ ((1 : Int32) = (0 : Int32)))).1) k) ?_
      show own_Fin p e below G (T43.setTop (mkF m 191 #[iv p1, iv p2, iv (0 : Int32), iv (1 : Int32), rv a_FALSE, rv a_TRUE, iv (1 : Int32), iv (1 : Int32), iv (1 : Int32), iv (1 : Int32)] []))
      refine own_st (fun _ k => XS.iload X43.here hx rfl (hb hby at_191) rfl  k) ?_
      show own_Fin p e below G (T43.setTop (mkF m 193 #[iv p1, iv p2, iv (0 : Int32), iv (1 : Int32), rv a_FALSE, rv a_TRUE, iv (1 : Int32), iv (1 : Int32), iv (1 : Int32), iv (1 : Int32)] [(.int (1 : Int32))]))
      refine own_st (fun _ k => XS.ifNo X43.here hx rfl (hb hby at_193) rfl ((if0 _ _).trans (feq (by decide : ¬ ((1 : Int32) = (0 : Int32)))).1) k) ?_
      show own_Fin p e below G (T43.setTop (mkF m 196 #[iv p1, iv p2, iv (0 : Int32), iv (1 : Int32), rv a_FALSE, rv a_TRUE, iv (1 : Int32), iv (1 : Int32), iv (1 : Int32), iv (1 : Int32)] []))
      refine own_st (fun _ k => XS.iload X43.here hx rfl (hb hby at_196) rfl  k) ?_
      show own_Fin p e below G (T43.setTop (mkF m 198 #[iv p1, iv p2, iv (0 : Int32), iv (1 : Int32), rv a_FALSE, rv a_TRUE, iv (1 : Int32), iv (1 : Int32), iv (1 : Int32), iv (1 : Int32)] [(.int (1 : Int32))]))
      refine own_st (fun _ k => XS.ifNo X43.here hx rfl (hb hby at_198) rfl ((if0 _ _).trans (feq (by decide : ¬ ((1 : Int32) = (0 : Int32)))).1) k) ?_
      show own_Fin p e below G (T43.setTop (mkF m 201 #[iv p1, iv p2, iv (0 : Int32), iv (1 : Int32), rv a_FALSE, rv a_TRUE, iv (1 : Int32), iv (1 : Int32), iv (1 : Int32), iv (1 : Int32)] []))
      refine own_st (fun _ k => XS.iload X43.here hx rfl (hb hby at_201) rfl  k) ?_
      show own_Fin p e below G (T43.setTop (mkF m 203 #[iv p1, iv p2, iv (0 : Int32), iv (1 : Int32), rv a_FALSE, rv a_TRUE, iv (1 : Int32), iv (1 : Int32), iv (1 : Int32), iv (1 : Int32)] [(.int (1 : Int32))]))
      refine own_st (fun _ k => XS.ifNo X43.here hx rfl (hb hby at_203) rfl ((if0 _ _).trans (feq (by decide : ¬ ((1 : Int32) = (0 : Int32)))).1) k) ?_
      show own_Fin p e below G (T43.setTop (mkF m 206 #[iv p1, iv p2, iv (0 : Int32), iv (1 : Int32), rv a_FALSE, rv a_TRUE, iv (1 : Int32), iv (1 : Int32), iv (1 : Int32), iv (1 : Int32)] []))
      refine own_st (fun _ k => XS.iconst X43.here hx rfl (hb hby at_206) k) ?_
      show own_Fin p e below G (T43.setTop (mkF m 207 #[iv p1, iv p2, iv (0 : Int32), iv (1 : Int32), rv a_FALSE, rv a_TRUE, iv (1 : Int32), iv (1 : Int32), iv (1 : Int32), iv (1 : Int32)] [(.int (1 : Int32))]))
      refine own_st (fun _ k => XS.goto X43.here hx rfl (pc0 := 207) (pc' := 211) rfl (hb hby at_207) (by decide) (by decide) k) ?_
      show own_Fin p e below G (T43.setTop (mkF m 211 #[iv p1, iv p2, iv (0 : Int32), iv (1 : Int32), rv a_FALSE, rv a_TRUE, iv (1 : Int32), iv (1 : Int32), iv (1 : Int32), iv (1 : Int32)] [(.int (1 : Int32))]))
      refine own_out X43 Bd.notSynchronized (v := (some (.int (1 : Int32)))) (fun h => by rw [Bd.returns] at h; cases h) hG (fun fs hr => retN X43 hx (t := .boolean) Bd.returns (by simp) (hb hby at_211) hr) (by decide) (by decide) ?_
      exact ⟨rfl, N43⟩
  · refine own_st (fun _ k => XS.ifNo X0.here hx rfl (hb hby at_3) rfl ((if0 _ _).trans (feq hc3_20).1) k) ?_
    show own_Fin p e below G (s₁.setTop (mkF m 6 #[iv p1, iv p2, .unset, .unset, .unset, .unset, .unset, .unset, .unset, .unset] []))
    refine own_st (fun _ k => XS.iconst X0.here hx rfl (hb hby at_6) k) ?_
    show own_Fin p e below G (s₁.setTop (mkF m 7 #[iv p1, iv p2, .unset, .unset, .unset, .unset, .unset, .unset, .unset, .unset] [(.int (1 : Int32))]))
    refine own_st (fun _ k => XS.goto X0.here hx rfl (pc0 := 7) (pc' := 11) rfl (hb hby at_7) (by decide) (by decide) k) ?_
    show own_Fin p e below G (s₁.setTop (mkF m 11 #[iv p1, iv p2, .unset, .unset, .unset, .unset, .unset, .unset, .unset, .unset] [(.int (1 : Int32))]))
    refine own_st (fun _ k => XS.istoreN X0.here hx rfl (hb hby at_11) rfl (l' := #[iv p1, iv p2, iv (1 : Int32), .unset, .unset, .unset, .unset, .unset, .unset, .unset]) rfl k) ?_
    show own_Fin p e below G (s₁.setTop (mkF m 12 #[iv p1, iv p2, iv (1 : Int32), .unset, .unset, .unset, .unset, .unset, .unset, .unset] []))
    refine own_st (fun _ k => XS.iloadN X0.here hx rfl (hb hby at_12) rfl  k) ?_
    show own_Fin p e below G (s₁.setTop (mkF m 13 #[iv p1, iv p2, iv (1 : Int32), .unset, .unset, .unset, .unset, .unset, .unset, .unset] [(.int p2)]))
    refine own_st (fun _ k => XS.iconst X0.here hx rfl (hb hby at_13) k) ?_
    show own_Fin p e below G (s₁.setTop (mkF m 14 #[iv p1, iv p2, iv (1 : Int32), .unset, .unset, .unset, .unset, .unset, .unset, .unset] [(.int (1 : Int32)), (.int p2)]))
    refine own_st (fun _ k => XS.iand X0.here hx rfl (hb hby at_14) rfl k) ?_
    show own_Fin p e below G (s₁.setTop (mkF m 15 #[iv p1, iv p2, iv (1 : Int32), .unset, .unset, .unset, .unset, .unset, .unset, .unset] [(.int (p2 &&& (1 : Int32)))]))
    by_cases hc15_44 : (p2 &&& (1 : Int32)) = (0 : Int32)
    · refine own_st (fun _ k => XS.ifYes X0.here hx rfl (pc0 := 15) (pc' := 22) rfl (hb hby at_15) rfl ((if0 _ _).trans (teq hc15_44).1) (by decide) (by decide) k) ?_
      show own_Fin p e below G (s₁.setTop (mkF m 22 #[iv p1, iv p2, iv (1 : Int32), .unset, .unset, .unset, .unset, .unset, .unset, .unset] []))
      refine own_st (fun _ k => XS.iconst X0.here hx rfl (hb hby at_22) k) ?_
      show own_Fin p e below G (s₁.setTop (mkF m 23 #[iv p1, iv p2, iv (1 : Int32), .unset, .unset, .unset, .unset, .unset, .unset, .unset] [(.int (0 : Int32))]))
      refine own_st (fun _ k => XS.istoreN X0.here hx rfl (hb hby at_23) rfl (l' := #[iv p1, iv p2, iv (1 : Int32), iv (0 : Int32), .unset, .unset, .unset, .unset, .unset, .unset]) rfl k) ?_
      show own_Fin p e below G (s₁.setTop (mkF m 24 #[iv p1, iv p2, iv (1 : Int32), iv (0 : Int32), .unset, .unset, .unset, .unset, .unset, .unset] []))
      refine own_st (fun _ k => XS.iloadN X0.here hx rfl (hb hby at_24) rfl  k) ?_
      show own_Fin p e below G (s₁.setTop (mkF m 25 #[iv p1, iv p2, iv (1 : Int32), iv (0 : Int32), .unset, .unset, .unset, .unset, .unset, .unset] [(.int (1 : Int32))]))
      obtain ⟨_, _, ⟨T45, L45, k45, n45⟩, -, X45, ⟨Lc45, hQ45, l45, y45, z45⟩, st45⟩ := Jvm.LawKit.callS X0 hx (y := own_y0) hown (mvT hZ (own_w hw 0 rfl)) (mvT hZ (own_w hw 1 rfl)) (mvT hZ (own_w hw 2 rfl)) (mvT hZ (own_w hw 3 rfl)) (by decide) (backOf (W := 0) (rm_of1 l Z a0 hw [] a_TRUE h0 n0 (Nat.le_trans Z0 K0.1) Sa_TRUE) hZ (own_w hw 3 rfl) (own_w hw 2 rfl) (by decide) (by decide)) (g := (mkF m 25 #[iv p1, iv p2, iv (1 : Int32), iv (0 : Int32), .unset, .unset, .unset, .unset, .unset, .unset] [(.int (1 : Int32))])) rfl (by rw [hml]; rfl) (argsL := [(.int (1 : Int32))]) (rest := []) (lenOf pd__Z_Lcom_example_attributes_to_entitlements_attributestoentitlements_Truth__567 rfl) rfl (by show 2 * 0 + _ ≤ _; exact Nat.le_of_eq rfl) (hb hby at_25) (fun _ _ => ⟨rfl, e0, (by decide : 0 + 0 ≤ _), (by decide : 0 + 0 ≤ _)⟩)
      dsimp only [Pt.U, Pt.locs, Pt.cells, Pt.slots] at X45 l45 y45 z45 st45 hQ45
      subst l45 y45 z45
      obtain ⟨rfl, N45q, e45⟩ := hQ45
      skip
      have N45 := Fr.app N0 N45q
      refine own_st st45 ?_
      show own_Fin p e below G (T45.setTop (mkF m 28 #[iv p1, iv p2, iv (1 : Int32), iv (0 : Int32), .unset, .unset, .unset, .unset, .unset, .unset] [(.ref a_TRUE)]))
      refine own_st (fun _ k => XS.astore X45.here hx rfl (hb hby at_28) rfl rfl (l' := #[iv p1, iv p2, iv (1 : Int32), iv (0 : Int32), rv a_TRUE, .unset, .unset, .unset, .unset, .unset]) rfl k) ?_
      show own_Fin p e below G (T45.setTop (mkF m 30 #[iv p1, iv p2, iv (1 : Int32), iv (0 : Int32), rv a_TRUE, .unset, .unset, .unset, .unset, .unset] []))
      refine own_st (fun _ k => XS.iloadN X45.here hx rfl (hb hby at_30) rfl  k) ?_
      show own_Fin p e below G (T45.setTop (mkF m 31 #[iv p1, iv p2, iv (1 : Int32), iv (0 : Int32), rv a_TRUE, .unset, .unset, .unset, .unset, .unset] [(.int (0 : Int32))]))
      obtain ⟨_, _, ⟨T46, L46, k46, n46⟩, -, X46, ⟨Lc46, hQ46, l46, y46, z46⟩, st46⟩ := Jvm.LawKit.callS X45 hx (y := own_y0) hown (mvT hZ (own_w hw 0 rfl)) (mvT hZ (own_w hw 1 rfl)) (mvT hZ (own_w hw 2 rfl)) (mvT hZ (own_w hw 3 rfl)) (by decide) (backOf (W := 0) (rm_of0 l Z a0 hw [] a_FALSE h0 n0 (Nat.le_trans Z0 K0.1) Sa_FALSE) hZ (own_w hw 3 rfl) (own_w hw 2 rfl) (by decide) (by decide)) (g := (mkF m 31 #[iv p1, iv p2, iv (1 : Int32), iv (0 : Int32), rv a_TRUE, .unset, .unset, .unset, .unset, .unset] [(.int (0 : Int32))])) rfl (by rw [hml]; rfl) (argsL := [(.int (0 : Int32))]) (rest := []) (lenOf pd__Z_Lcom_example_attributes_to_entitlements_attributestoentitlements_Truth__567 rfl) rfl (by show 2 * 0 + _ ≤ _; exact Nat.le_of_eq rfl) (hb hby at_31) (fun _ _ => ⟨rfl, e45, (by decide : 0 + 0 ≤ _), (by decide : 0 + 0 ≤ _)⟩)
      dsimp only [Pt.U, Pt.locs, Pt.cells, Pt.slots] at X46 l46 y46 z46 st46 hQ46
      subst l46 y46 z46
      obtain ⟨rfl, N46q, e46⟩ := hQ46
      skip
      have N46 := Fr.app N45 N46q
      refine own_st st46 ?_
      show own_Fin p e below G (T46.setTop (mkF m 34 #[iv p1, iv p2, iv (1 : Int32), iv (0 : Int32), rv a_TRUE, .unset, .unset, .unset, .unset, .unset] [(.ref a_FALSE)]))
      refine own_st (fun _ k => XS.astore X46.here hx rfl (hb hby at_34) rfl rfl (l' := #[iv p1, iv p2, iv (1 : Int32), iv (0 : Int32), rv a_TRUE, rv a_FALSE, .unset, .unset, .unset, .unset]) rfl k) ?_
      show own_Fin p e below G (T46.setTop (mkF m 36 #[iv p1, iv p2, iv (1 : Int32), iv (0 : Int32), rv a_TRUE, rv a_FALSE, .unset, .unset, .unset, .unset] []))
      refine own_st (fun _ k => XS.aload X46.here hx rfl (hb hby at_36) rfl rfl k) ?_
      show own_Fin p e below G (T46.setTop (mkF m 38 #[iv p1, iv p2, iv (1 : Int32), iv (0 : Int32), rv a_TRUE, rv a_FALSE, .unset, .unset, .unset, .unset] [(.ref a_TRUE)]))
      obtain ⟨T47, X47, e47, st47⟩ := getS2 X46 hx hZ hown (host := "") (Or.inl (own_w hw 8 rfl)) Via.refl e46 Sa_TRUE (g := (mkF m 38 #[iv p1, iv p2, iv (1 : Int32), iv (0 : Int32), rv a_TRUE, rv a_FALSE, .unset, .unset, .unset, .unset] [(.ref a_TRUE)])) rfl (hb hby at_38)
      refine own_st st47 ?_
      show own_Fin p e below G (T47.setTop (mkF m 41 #[iv p1, iv p2, iv (1 : Int32), iv (0 : Int32), rv a_TRUE, rv a_FALSE, .unset, .unset, .unset, .unset] [(.ref a_TRUE), (.ref a_TRUE)]))
      refine own_st (fun _ k => Jvm.RoadKit.acmp (g := (mkF m 41 #[iv p1, iv p2, iv (1 : Int32), iv (0 : Int32), rv a_TRUE, rv a_FALSE, .unset, .unset, .unset, .unset] [(.ref a_TRUE), (.ref a_TRUE)])) X47 hx rfl rfl rfl (pc0 := 41) (pc' := 44) (same := true) rfl (hb hby at_41) rfl (decide_eq_true rfl) (by decide) (by decide) k) ?_
      show own_Fin p e below G (T47.setTop (mkF m 44 #[iv p1, iv p2, iv (1 : Int32), iv (0 : Int32), rv a_TRUE, rv a_FALSE, .unset, .unset, .unset, .unset] []))
      refine own_st (fun _ k => XS.iconst X47.here hx rfl (hb hby at_44) k) ?_
      show own_Fin p e below G (T47.setTop (mkF m 45 #[iv p1, iv p2, iv (1 : Int32), iv (0 : Int32), rv a_TRUE, rv a_FALSE, .unset, .unset, .unset, .unset] [(.int (1 : Int32))]))
      refine own_st (fun _ k => XS.goto X47.here hx rfl (pc0 := 45) (pc' := 49) rfl (hb hby at_45) (by decide) (by decide) k) ?_
      show own_Fin p e below G (T47.setTop (mkF m 49 #[iv p1, iv p2, iv (1 : Int32), iv (0 : Int32), rv a_TRUE, rv a_FALSE, .unset, .unset, .unset, .unset] [(.int (1 : Int32))]))
      refine own_st (fun _ k => XS.iloadN X47.here hx rfl (hb hby at_49) rfl  k) ?_
      show own_Fin p e below G (T47.setTop (mkF m 50 #[iv p1, iv p2, iv (1 : Int32), iv (0 : Int32), rv a_TRUE, rv a_FALSE, .unset, .unset, .unset, .unset] [(.int (1 : Int32)), (.int (1 : Int32))]))
      refine own_st (fun _ k => XS.icmpNo X47.here hx rfl (hb hby at_50) rfl (teq (by decide : ((1 : Int32) = (1 : Int32)))).2 k) ?_
      show own_Fin p e below G (T47.setTop (mkF m 53 #[iv p1, iv p2, iv (1 : Int32), iv (0 : Int32), rv a_TRUE, rv a_FALSE, .unset, .unset, .unset, .unset] []))
      refine own_st (fun _ k => XS.aload X47.here hx rfl (hb hby at_53) rfl rfl k) ?_
      show own_Fin p e below G (T47.setTop (mkF m 55 #[iv p1, iv p2, iv (1 : Int32), iv (0 : Int32), rv a_TRUE, rv a_FALSE, .unset, .unset, .unset, .unset] [(.ref a_TRUE)]))
      obtain ⟨T48, X48, e48, st48⟩ := getS2 X47 hx hZ hown (host := "") (Or.inl (own_w hw 9 rfl)) Via.refl e47 Sa_FALSE (g := (mkF m 55 #[iv p1, iv p2, iv (1 : Int32), iv (0 : Int32), rv a_TRUE, rv a_FALSE, .unset, .unset, .unset, .unset] [(.ref a_TRUE)])) rfl (hb hby at_55)
      refine own_st st48 ?_
      show own_Fin p e below G (T48.setTop (mkF m 58 #[iv p1, iv p2, iv (1 : Int32), iv (0 : Int32), rv a_TRUE, rv a_FALSE, .unset, .unset, .unset, .unset] [(.ref a_FALSE), (.ref a_TRUE)]))
      refine own_st (fun _ k => Jvm.RoadKit.acmp (g := (mkF m 58 #[iv p1, iv p2, iv (1 : Int32), iv (0 : Int32), rv a_TRUE, rv a_FALSE, .unset, .unset, .unset, .unset] [(.ref a_FALSE), (.ref a_TRUE)])) X48 hx rfl rfl rfl (pc0 := 58) (pc' := 65) (same := false) rfl (hb hby at_58) rfl (decide_eq_false fun q => (Ne.symm ne_a_FALSE_a_TRUE) (Value.ref.inj q)) (by decide) (by decide) k) ?_
      show own_Fin p e below G (T48.setTop (mkF m 65 #[iv p1, iv p2, iv (1 : Int32), iv (0 : Int32), rv a_TRUE, rv a_FALSE, .unset, .unset, .unset, .unset] []))
      refine own_st (fun _ k => XS.iconst X48.here hx rfl (hb hby at_65) k) ?_
      show own_Fin p e below G (T48.setTop (mkF m 66 #[iv p1, iv p2, iv (1 : Int32), iv (0 : Int32), rv a_TRUE, rv a_FALSE, .unset, .unset, .unset, .unset] [(.int (0 : Int32))]))
      refine own_st (fun _ k => XS.iloadN X48.here hx rfl (hb hby at_66) rfl  k) ?_
      show own_Fin p e below G (T48.setTop (mkF m 67 #[iv p1, iv p2, iv (1 : Int32), iv (0 : Int32), rv a_TRUE, rv a_FALSE, .unset, .unset, .unset, .unset] [(.int (1 : Int32)), (.int (0 : Int32))]))
      refine own_st (fun _ k => XS.ifYes X48.here hx rfl (pc0 := 67) (pc' := 74) rfl (hb hby at_67) rfl ((if0 _ _).trans (feq (by decide : ¬ ((1 : Int32) = (0 : Int32)))).2) (by decide) (by decide) k) ?_
      show own_Fin p e below G (T48.setTop (mkF m 74 #[iv p1, iv p2, iv (1 : Int32), iv (0 : Int32), rv a_TRUE, rv a_FALSE, .unset, .unset, .unset, .unset] [(.int (0 : Int32))]))
      refine own_st (fun _ k => XS.iconst X48.here hx rfl (hb hby at_74) k) ?_
      show own_Fin p e below G (T48.setTop (mkF m 75 #[iv p1, iv p2, iv (1 : Int32), iv (0 : Int32), rv a_TRUE, rv a_FALSE, .unset, .unset, .unset, .unset] [(.int (0 : Int32)), (.int (0 : Int32))]))
      refine own_st (fun _ k => XS.icmpNo X48.here hx rfl (hb hby at_75) rfl (teq (by decide : ((0 : Int32) = (0 : Int32)))).2 k) ?_
      show own_Fin p e below G (T48.setTop (mkF m 78 #[iv p1, iv p2, iv (1 : Int32), iv (0 : Int32), rv a_TRUE, rv a_FALSE, .unset, .unset, .unset, .unset] []))
      refine own_st (fun _ k => XS.aload X48.here hx rfl (hb hby at_78) rfl rfl k) ?_
      show own_Fin p e below G (T48.setTop (mkF m 80 #[iv p1, iv p2, iv (1 : Int32), iv (0 : Int32), rv a_TRUE, rv a_FALSE, .unset, .unset, .unset, .unset] [(.ref a_TRUE)]))
      obtain ⟨T49, X49, e49, st49⟩ := getS2 X48 hx hZ hown (host := "") (Or.inl (own_w hw 10 rfl)) Via.refl e48 Sa_UNKNOWN (g := (mkF m 80 #[iv p1, iv p2, iv (1 : Int32), iv (0 : Int32), rv a_TRUE, rv a_FALSE, .unset, .unset, .unset, .unset] [(.ref a_TRUE)])) rfl (hb hby at_80)
      refine own_st st49 ?_
      show own_Fin p e below G (T49.setTop (mkF m 83 #[iv p1, iv p2, iv (1 : Int32), iv (0 : Int32), rv a_TRUE, rv a_FALSE, .unset, .unset, .unset, .unset] [(.ref a_UNKNOWN), (.ref a_TRUE)]))
      refine own_st (fun _ k => Jvm.RoadKit.acmp (g := (mkF m 83 #[iv p1, iv p2, iv (1 : Int32), iv (0 : Int32), rv a_TRUE, rv a_FALSE, .unset, .unset, .unset, .unset] [(.ref a_UNKNOWN), (.ref a_TRUE)])) X49 hx rfl rfl rfl (pc0 := 83) (pc' := 86) (same := false) rfl (hb hby at_83) rfl (decide_eq_false fun q => ne_a_TRUE_a_UNKNOWN (Value.ref.inj q)) (by decide) (by decide) k) ?_
      show own_Fin p e below G (T49.setTop (mkF m 86 #[iv p1, iv p2, iv (1 : Int32), iv (0 : Int32), rv a_TRUE, rv a_FALSE, .unset, .unset, .unset, .unset] []))
      refine own_st (fun _ k => XS.iconst X49.here hx rfl (hb hby at_86) k) ?_
      show own_Fin p e below G (T49.setTop (mkF m 87 #[iv p1, iv p2, iv (1 : Int32), iv (0 : Int32), rv a_TRUE, rv a_FALSE, .unset, .unset, .unset, .unset] [(.int (1 : Int32))]))
      refine own_st (fun _ k => XS.goto X49.here hx rfl (pc0 := 87) (pc' := 91) rfl (hb hby at_87) (by decide) (by decide) k) ?_
      show own_Fin p e below G (T49.setTop (mkF m 91 #[iv p1, iv p2, iv (1 : Int32), iv (0 : Int32), rv a_TRUE, rv a_FALSE, .unset, .unset, .unset, .unset] [(.int (1 : Int32))]))
      refine own_st (fun _ k => XS.istore X49.here hx rfl (hb hby at_91) rfl (l' := #[iv p1, iv p2, iv (1 : Int32), iv (0 : Int32), rv a_TRUE, rv a_FALSE, iv (1 : Int32), .unset, .unset, .unset]) rfl k) ?_
      show own_Fin p e below G (T49.setTop (mkF m 93 #[iv p1, iv p2, iv (1 : Int32), iv (0 : Int32), rv a_TRUE, rv a_FALSE, iv (1 : Int32), .unset, .unset, .unset] []))
      refine own_st (fun _ k => XS.iloadN X49.here hx rfl (hb hby at_93) rfl  k) ?_
      show own_Fin p e below G (T49.setTop (mkF m 94 #[iv p1, iv p2, iv (1 : Int32), iv (0 : Int32), rv a_TRUE, rv a_FALSE, iv (1 : Int32), .unset, .unset, .unset] [(.int (1 : Int32))]))
      refine own_st (fun _ k => XS.ifYes X49.here hx rfl (pc0 := 94) (pc' := 101) rfl (hb hby at_94) rfl ((if0 _ _).trans (feq (by decide : ¬ ((1 : Int32) = (0 : Int32)))).2) (by decide) (by decide) k) ?_
      show own_Fin p e below G (T49.setTop (mkF m 101 #[iv p1, iv p2, iv (1 : Int32), iv (0 : Int32), rv a_TRUE, rv a_FALSE, iv (1 : Int32), .unset, .unset, .unset] []))
      refine own_st (fun _ k => XS.iconst X49.here hx rfl (hb hby at_101) k) ?_
      show own_Fin p e below G (T49.setTop (mkF m 102 #[iv p1, iv p2, iv (1 : Int32), iv (0 : Int32), rv a_TRUE, rv a_FALSE, iv (1 : Int32), .unset, .unset, .unset] [(.int (0 : Int32))]))
      obtain ⟨_, _, ⟨T50, L50, k50, n50⟩, -, X50, ⟨Lc50, hQ50, l50, y50, z50⟩, st50⟩ := Jvm.LawKit.callS X49 hx (y := own_y0) hown (mvT hZ (own_w hw 0 rfl)) (mvT hZ (own_w hw 1 rfl)) (mvT hZ (own_w hw 2 rfl)) (mvT hZ (own_w hw 3 rfl)) (by decide) (backOf (W := 0) (rm_of0 l Z a0 hw [] a_FALSE h0 n0 (Nat.le_trans Z0 K0.1) Sa_FALSE) hZ (own_w hw 3 rfl) (own_w hw 2 rfl) (by decide) (by decide)) (g := (mkF m 102 #[iv p1, iv p2, iv (1 : Int32), iv (0 : Int32), rv a_TRUE, rv a_FALSE, iv (1 : Int32), .unset, .unset, .unset] [(.int (0 : Int32))])) rfl (by rw [hml]; rfl) (argsL := [(.int (0 : Int32))]) (rest := []) (lenOf pd__Z_Lcom_example_attributes_to_entitlements_attributestoentitlements_Truth__567 rfl) rfl (by show 2 * 0 + _ ≤ _; exact Nat.le_of_eq rfl) (hb hby at_102) (fun _ _ => ⟨rfl, e49, (by decide : 0 + 0 ≤ _), (by decide : 0 + 0 ≤ _)⟩)
      dsimp only [Pt.U, Pt.locs, Pt.cells, Pt.slots] at X50 l50 y50 z50 st50 hQ50
      subst l50 y50 z50
      obtain ⟨rfl, N50q, e50⟩ := hQ50
      skip
      have N50 := Fr.app N46 N50q
      refine own_st st50 ?_
      show own_Fin p e below G (T50.setTop (mkF m 105 #[iv p1, iv p2, iv (1 : Int32), iv (0 : Int32), rv a_TRUE, rv a_FALSE, iv (1 : Int32), .unset, .unset, .unset] [(.ref a_FALSE)]))
      refine own_st (fun _ k => XS.aload X50.here hx rfl (hb hby at_105) rfl rfl k) ?_
      show own_Fin p e below G (T50.setTop (mkF m 107 #[iv p1, iv p2, iv (1 : Int32), iv (0 : Int32), rv a_TRUE, rv a_FALSE, iv (1 : Int32), .unset, .unset, .unset] [(.ref a_TRUE), (.ref a_FALSE)]))
      obtain ⟨cq51, kq51, q51a, q51b, q51c⟩ := isOf hZ e50 Ea_TRUE
      obtain ⟨_, _, ⟨T51, L51, k51, n51⟩, -, X51, ⟨Lc51, hQ51, l51, y51, z51⟩, st51⟩ := X50.virtualBack hx (y := own_y3) (z := own_y3) hown (mvT hZ (own_w hw 12 rfl)) (mvT hZ (own_w hw 13 rfl)) (notFace_of_selects (args := #[]) (mvT hZ (own_w hw 15 rfl))) (mvT hZ (own_w hw 15 rfl)) (mvT hZ (own_w hw 14 rfl)) (by decide) (backOf (W := 1) (rm_not2 l Z a0 hw [] a_TRUE a_FALSE h0 n0 (Nat.le_trans Z0 K0.1) Ea_TRUE Fa_TRUE_ordinal Sa_FALSE) hZ (own_w hw 16 rfl) (own_w hw 2 rfl) (by decide) (by decide)) q51a q51c (g := (mkF m 107 #[iv p1, iv p2, iv (1 : Int32), iv (0 : Int32), rv a_TRUE, rv a_FALSE, iv (1 : Int32), .unset, .unset, .unset] [(.ref a_TRUE), (.ref a_FALSE)])) rfl (by rw [hml]; rfl) (Steps.refl _) (argsL := []) (rest := [(.ref a_FALSE)]) (lenOf pd___Lcom_example_attributes_to_entitlements_attributestoentitlements_Truth__477 rfl) rfl (by show 2 * 0 + _ ≤ _; exact Nat.le_of_eq rfl) (hb hby at_107) (fun _ _ => ⟨rfl, e50, (by decide : 0 + 0 ≤ _), (by decide : 0 + 0 ≤ _)⟩)
      dsimp only [Pt.U, Pt.locs, Pt.cells, Pt.slots] at X51 l51 y51 z51 st51 hQ51
      subst l51 y51 z51
      obtain ⟨rfl, N51q, e51⟩ := hQ51
      skip
      have N51 := Fr.app N50 N51q
      refine own_tr st51 ?_
      show own_Fin p e below G (T51.setTop (mkF m 110 #[iv p1, iv p2, iv (1 : Int32), iv (0 : Int32), rv a_TRUE, rv a_FALSE, iv (1 : Int32), .unset, .unset, .unset] [(.ref a_FALSE), (.ref a_FALSE)]))
      refine own_st (fun _ k => Jvm.RoadKit.acmp (g := (mkF m 110 #[iv p1, iv p2, iv (1 : Int32), iv (0 : Int32), rv a_TRUE, rv a_FALSE, iv (1 : Int32), .unset, .unset, .unset] [(.ref a_FALSE), (.ref a_FALSE)])) X51 hx rfl rfl rfl (pc0 := 110) (pc' := 113) (same := true) rfl (hb hby at_110) rfl (decide_eq_true rfl) (by decide) (by decide) k) ?_
      show own_Fin p e below G (T51.setTop (mkF m 113 #[iv p1, iv p2, iv (1 : Int32), iv (0 : Int32), rv a_TRUE, rv a_FALSE, iv (1 : Int32), .unset, .unset, .unset] []))
      refine own_st (fun _ k => XS.iconst X51.here hx rfl (hb hby at_113) k) ?_
      show own_Fin p e below G (T51.setTop (mkF m 114 #[iv p1, iv p2, iv (1 : Int32), iv (0 : Int32), rv a_TRUE, rv a_FALSE, iv (1 : Int32), .unset, .unset, .unset] [(.int (1 : Int32))]))
      refine own_st (fun _ k => XS.goto X51.here hx rfl (pc0 := 114) (pc' := 118) rfl (hb hby at_114) (by decide) (by decide) k) ?_
      show own_Fin p e below G (T51.setTop (mkF m 118 #[iv p1, iv p2, iv (1 : Int32), iv (0 : Int32), rv a_TRUE, rv a_FALSE, iv (1 : Int32), .unset, .unset, .unset] [(.int (1 : Int32))]))
      refine own_st (fun _ k => XS.istore X51.here hx rfl (hb hby at_118) rfl (l' := #[iv p1, iv p2, iv (1 : Int32), iv (0 : Int32), rv a_TRUE, rv a_FALSE, iv (1 : Int32), iv (1 : Int32), .unset, .unset]) rfl k) ?_
      show own_Fin p e below G (T51.setTop (mkF m 120 #[iv p1, iv p2, iv (1 : Int32), iv (0 : Int32), rv a_TRUE, rv a_FALSE, iv (1 : Int32), iv (1 : Int32), .unset, .unset] []))
      refine own_st (fun _ k => XS.iloadN X51.here hx rfl (hb hby at_120) rfl  k) ?_
      show own_Fin p e below G (T51.setTop (mkF m 121 #[iv p1, iv p2, iv (1 : Int32), iv (0 : Int32), rv a_TRUE, rv a_FALSE, iv (1 : Int32), iv (1 : Int32), .unset, .unset] [(.int (1 : Int32))]))
      refine own_st (fun _ k => XS.ifNo X51.here hx rfl (hb hby at_121) rfl ((if0 _ _).trans (feq (by decide : ¬ ((1 : Int32) = (0 : Int32)))).1) k) ?_
      show own_Fin p e below G (T51.setTop (mkF m 124 #[iv p1, iv p2, iv (1 : Int32), iv (0 : Int32), rv a_TRUE, rv a_FALSE, iv (1 : Int32), iv (1 : Int32), .unset, .unset] []))
      refine own_st (fun _ k => XS.iloadN X51.here hx rfl (hb hby at_124) rfl  k) ?_
      show own_Fin p e below G (T51.setTop (mkF m 125 #[iv p1, iv p2, iv (1 : Int32), iv (0 : Int32), rv a_TRUE, rv a_FALSE, iv (1 : Int32), iv (1 : Int32), .unset, .unset] [(.int (0 : Int32))]))
      refine own_st (fun _ k => XS.ifYes X51.here hx rfl (pc0 := 125) (pc' := 132) rfl (hb hby at_125) rfl ((if0 _ _).trans (teq (by decide : ((0 : Int32) = (0 : Int32)))).1) (by decide) (by decide) k) ?_
      show own_Fin p e below G (T51.setTop (mkF m 132 #[iv p1, iv p2, iv (1 : Int32), iv (0 : Int32), rv a_TRUE, rv a_FALSE, iv (1 : Int32), iv (1 : Int32), .unset, .unset] []))
      refine own_st (fun _ k => XS.iconst X51.here hx rfl (hb hby at_132) k) ?_
      show own_Fin p e below G (T51.setTop (mkF m 133 #[iv p1, iv p2, iv (1 : Int32), iv (0 : Int32), rv a_TRUE, rv a_FALSE, iv (1 : Int32), iv (1 : Int32), .unset, .unset] [(.int (0 : Int32))]))
      obtain ⟨_, _, ⟨T52, L52, k52, n52⟩, -, X52, ⟨Lc52, hQ52, l52, y52, z52⟩, st52⟩ := Jvm.LawKit.callS X51 hx (y := own_y0) hown (mvT hZ (own_w hw 0 rfl)) (mvT hZ (own_w hw 1 rfl)) (mvT hZ (own_w hw 2 rfl)) (mvT hZ (own_w hw 3 rfl)) (by decide) (backOf (W := 0) (rm_of0 l Z a0 hw [] a_FALSE h0 n0 (Nat.le_trans Z0 K0.1) Sa_FALSE) hZ (own_w hw 3 rfl) (own_w hw 2 rfl) (by decide) (by decide)) (g := (mkF m 133 #[iv p1, iv p2, iv (1 : Int32), iv (0 : Int32), rv a_TRUE, rv a_FALSE, iv (1 : Int32), iv (1 : Int32), .unset, .unset] [(.int (0 : Int32))])) rfl (by rw [hml]; rfl) (argsL := [(.int (0 : Int32))]) (rest := []) (lenOf pd__Z_Lcom_example_attributes_to_entitlements_attributestoentitlements_Truth__567 rfl) rfl (by show 2 * 0 + _ ≤ _; exact Nat.le_of_eq rfl) (hb hby at_133) (fun _ _ => ⟨rfl, e51, (by decide : 0 + 0 ≤ _), (by decide : 0 + 0 ≤ _)⟩)
      dsimp only [Pt.U, Pt.locs, Pt.cells, Pt.slots] at X52 l52 y52 z52 st52 hQ52
      subst l52 y52 z52
      obtain ⟨rfl, N52q, e52⟩ := hQ52
      skip
      have N52 := Fr.app N51 N52q
      refine own_st st52 ?_
      show own_Fin p e below G (T52.setTop (mkF m 136 #[iv p1, iv p2, iv (1 : Int32), iv (0 : Int32), rv a_TRUE, rv a_FALSE, iv (1 : Int32), iv (1 : Int32), .unset, .unset] [(.ref a_FALSE)]))
      refine own_st (fun _ k => XS.aload X52.here hx rfl (hb hby at_136) rfl rfl k) ?_
      show own_Fin p e below G (T52.setTop (mkF m 138 #[iv p1, iv p2, iv (1 : Int32), iv (0 : Int32), rv a_TRUE, rv a_FALSE, iv (1 : Int32), iv (1 : Int32), .unset, .unset] [(.ref a_TRUE), (.ref a_FALSE)]))
      refine own_st (fun _ k => XS.aload X52.here hx rfl (hb hby at_138) rfl rfl k) ?_
      show own_Fin p e below G (T52.setTop (mkF m 140 #[iv p1, iv p2, iv (1 : Int32), iv (0 : Int32), rv a_TRUE, rv a_FALSE, iv (1 : Int32), iv (1 : Int32), .unset, .unset] [(.ref a_FALSE), (.ref a_TRUE), (.ref a_FALSE)]))
      obtain ⟨cq53, kq53, q53a, q53b, q53c⟩ := isOf hZ e52 Ea_TRUE
      obtain ⟨_, _, ⟨T53, L53, k53, n53⟩, -, X53, ⟨Lc53, hQ53, l53, y53, z53⟩, st53⟩ := X52.virtualBack hx (y := own_y6) (z := own_y6) hown (mvT hZ (own_w hw 26 rfl)) (mvT hZ (own_w hw 27 rfl)) (notFace_of_selects (args := #[]) (mvT hZ (own_w hw 29 rfl))) (mvT hZ (own_w hw 29 rfl)) (mvT hZ (own_w hw 28 rfl)) (by decide) (backOf (W := 1) (rm_and20 l Z a0 hw [] a_TRUE a_FALSE mr h0 n0 (Nat.le_trans Z0 K0.1) Ea_TRUE Ea_FALSE Fa_TRUE_ordinal Fa_FALSE_ordinal M) hZ (own_w hw 30 rfl) (own_w hw 2 rfl) (by decide) (by decide)) q53a q53c (g := (mkF m 140 #[iv p1, iv p2, iv (1 : Int32), iv (0 : Int32), rv a_TRUE, rv a_FALSE, iv (1 : Int32), iv (1 : Int32), .unset, .unset] [(.ref a_FALSE), (.ref a_TRUE), (.ref a_FALSE)])) rfl (by rw [hml]; rfl) (Steps.refl _) (argsL := [(.ref a_FALSE)]) (rest := [(.ref a_FALSE)]) (lenOf pd__Lcom_example_attributes_to_entitlements_attributestoentitlements_Truth__Lcom_example_attributes_to_entitlements_attributestoentitlements_Truth__873 rfl) rfl (by show 2 * 0 + _ ≤ _; exact Nat.le_of_eq rfl) (hb hby at_140) (fun _ _ => ⟨rfl, e52, (by decide : 0 + 0 ≤ _), (by decide : 0 + 0 ≤ _)⟩)
      dsimp only [Pt.U, Pt.locs, Pt.cells, Pt.slots] at X53 l53 y53 z53 st53 hQ53
      subst l53 y53 z53
      obtain ⟨rfl, N53q, e53⟩ := hQ53
      skip
      have N53 := Fr.app N52 N53q
      refine own_tr st53 ?_
      show own_Fin p e below G (T53.setTop (mkF m 143 #[iv p1, iv p2, iv (1 : Int32), iv (0 : Int32), rv a_TRUE, rv a_FALSE, iv (1 : Int32), iv (1 : Int32), .unset, .unset] [(.ref a_FALSE), (.ref a_FALSE)]))
      refine own_st (fun _ k => Jvm.RoadKit.acmp (g := (mkF m 143 #[iv p1, iv p2, iv (1 : Int32), iv (0 : Int32), rv a_TRUE, rv a_FALSE, iv (1 : Int32), iv (1 : Int32), .unset, .unset] [(.ref a_FALSE), (.ref a_FALSE)])) X53 hx rfl rfl rfl (pc0 := 143) (pc' := 146) (same := true) rfl (hb hby at_143) rfl (decide_eq_true rfl) (by decide) (by decide) k) ?_
      show own_Fin p e below G (T53.setTop (mkF m 146 #[iv p1, iv p2, iv (1 : Int32), iv (0 : Int32), rv a_TRUE, rv a_FALSE, iv (1 : Int32), iv (1 : Int32), .unset, .unset] []))
      refine own_st (fun _ k => XS.iconst X53.here hx rfl (hb hby at_146) k) ?_
      show own_Fin p e below G (T53.setTop (mkF m 147 #[iv p1, iv p2, iv (1 : Int32), iv (0 : Int32), rv a_TRUE, rv a_FALSE, iv (1 : Int32), iv (1 : Int32), .unset, .unset] [(.int (1 : Int32))]))
      refine own_st (fun _ k => XS.goto X53.here hx rfl (pc0 := 147) (pc' := 151) rfl (hb hby at_147) (by decide) (by decide) k) ?_
      show own_Fin p e below G (T53.setTop (mkF m 151 #[iv p1, iv p2, iv (1 : Int32), iv (0 : Int32), rv a_TRUE, rv a_FALSE, iv (1 : Int32), iv (1 : Int32), .unset, .unset] [(.int (1 : Int32))]))
      refine own_st (fun _ k => XS.istore X53.here hx rfl (hb hby at_151) rfl (l' := #[iv p1, iv p2, iv (1 : Int32), iv (0 : Int32), rv a_TRUE, rv a_FALSE, iv (1 : Int32), iv (1 : Int32), iv (1 : Int32), .unset]) rfl k) ?_
      show own_Fin p e below G (T53.setTop (mkF m 153 #[iv p1, iv p2, iv (1 : Int32), iv (0 : Int32), rv a_TRUE, rv a_FALSE, iv (1 : Int32), iv (1 : Int32), iv (1 : Int32), .unset] []))
      refine own_st (fun _ k => XS.iloadN X53.here hx rfl (hb hby at_153) rfl  k) ?_
      show own_Fin p e below G (T53.setTop (mkF m 154 #[iv p1, iv p2, iv (1 : Int32), iv (0 : Int32), rv a_TRUE, rv a_FALSE, iv (1 : Int32), iv (1 : Int32), iv (1 : Int32), .unset] [(.int (1 : Int32))]))
      refine own_st (fun _ k => XS.ifYes X53.here hx rfl (pc0 := 154) (pc' := 161) rfl (hb hby at_154) rfl ((if0 _ _).trans (feq (by decide : ¬ ((1 : Int32) = (0 : Int32)))).2) (by decide) (by decide) k) ?_
      show own_Fin p e below G (T53.setTop (mkF m 161 #[iv p1, iv p2, iv (1 : Int32), iv (0 : Int32), rv a_TRUE, rv a_FALSE, iv (1 : Int32), iv (1 : Int32), iv (1 : Int32), .unset] []))
      refine own_st (fun _ k => XS.iconst X53.here hx rfl (hb hby at_161) k) ?_
      show own_Fin p e below G (T53.setTop (mkF m 162 #[iv p1, iv p2, iv (1 : Int32), iv (0 : Int32), rv a_TRUE, rv a_FALSE, iv (1 : Int32), iv (1 : Int32), iv (1 : Int32), .unset] [(.int (1 : Int32))]))
      refine own_st (fun _ k => XS.goto X53.here hx rfl (pc0 := 162) (pc' := 166) rfl (hb hby at_162) (by decide) (by decide) k) ?_
      show own_Fin p e below G (T53.setTop (mkF m 166 #[iv p1, iv p2, iv (1 : Int32), iv (0 : Int32), rv a_TRUE, rv a_FALSE, iv (1 : Int32), iv (1 : Int32), iv (1 : Int32), .unset] [(.int (1 : Int32))]))
      obtain ⟨_, _, ⟨T54, L54, k54, n54⟩, -, X54, ⟨Lc54, hQ54, l54, y54, z54⟩, st54⟩ := Jvm.LawKit.callS X53 hx (y := own_y0) hown (mvT hZ (own_w hw 0 rfl)) (mvT hZ (own_w hw 1 rfl)) (mvT hZ (own_w hw 2 rfl)) (mvT hZ (own_w hw 3 rfl)) (by decide) (backOf (W := 0) (rm_of1 l Z a0 hw [] a_TRUE h0 n0 (Nat.le_trans Z0 K0.1) Sa_TRUE) hZ (own_w hw 3 rfl) (own_w hw 2 rfl) (by decide) (by decide)) (g := (mkF m 166 #[iv p1, iv p2, iv (1 : Int32), iv (0 : Int32), rv a_TRUE, rv a_FALSE, iv (1 : Int32), iv (1 : Int32), iv (1 : Int32), .unset] [(.int (1 : Int32))])) rfl (by rw [hml]; rfl) (argsL := [(.int (1 : Int32))]) (rest := []) (lenOf pd__Z_Lcom_example_attributes_to_entitlements_attributestoentitlements_Truth__567 rfl) rfl (by show 2 * 0 + _ ≤ _; exact Nat.le_of_eq rfl) (hb hby at_166) (fun _ _ => ⟨rfl, e53, (by decide : 0 + 0 ≤ _), (by decide : 0 + 0 ≤ _)⟩)
      dsimp only [Pt.U, Pt.locs, Pt.cells, Pt.slots] at X54 l54 y54 z54 st54 hQ54
      subst l54 y54 z54
      obtain ⟨rfl, N54q, e54⟩ := hQ54
      skip
      have N54 := Fr.app N53 N54q
      refine own_st st54 ?_
      show own_Fin p e below G (T54.setTop (mkF m 169 #[iv p1, iv p2, iv (1 : Int32), iv (0 : Int32), rv a_TRUE, rv a_FALSE, iv (1 : Int32), iv (1 : Int32), iv (1 : Int32), .unset] [(.ref a_TRUE)]))
      refine own_st (fun _ k => XS.aload X54.here hx rfl (hb hby at_169) rfl rfl k) ?_
      show own_Fin p e below G (T54.setTop (mkF m 171 #[iv p1, iv p2, iv (1 : Int32), iv (0 : Int32), rv a_TRUE, rv a_FALSE, iv (1 : Int32), iv (1 : Int32), iv (1 : Int32), .unset] [(.ref a_TRUE), (.ref a_TRUE)]))
      refine own_st (fun _ k => XS.aload X54.here hx rfl (hb hby at_171) rfl rfl k) ?_
      show own_Fin p e below G (T54.setTop (mkF m 173 #[iv p1, iv p2, iv (1 : Int32), iv (0 : Int32), rv a_TRUE, rv a_FALSE, iv (1 : Int32), iv (1 : Int32), iv (1 : Int32), .unset] [(.ref a_FALSE), (.ref a_TRUE), (.ref a_TRUE)]))
      obtain ⟨cq55, kq55, q55a, q55b, q55c⟩ := isOf hZ e54 Ea_TRUE
      obtain ⟨_, _, ⟨T55, L55, k55, n55⟩, -, X55, ⟨Lc55, hQ55, l55, y55, z55⟩, st55⟩ := X54.virtualBack hx (y := own_y7) (z := own_y7) hown (mvT hZ (own_w hw 43 rfl)) (mvT hZ (own_w hw 44 rfl)) (notFace_of_selects (args := #[]) (mvT hZ (own_w hw 46 rfl))) (mvT hZ (own_w hw 46 rfl)) (mvT hZ (own_w hw 45 rfl)) (by decide) (backOf (W := 1) (rm_or20 l Z a0 hw [] a_TRUE a_FALSE mr h0 n0 (Nat.le_trans Z0 K0.1) Ea_TRUE Ea_FALSE Fa_TRUE_ordinal Fa_FALSE_ordinal M) hZ (own_w hw 47 rfl) (own_w hw 2 rfl) (by decide) (by decide)) q55a q55c (g := (mkF m 173 #[iv p1, iv p2, iv (1 : Int32), iv (0 : Int32), rv a_TRUE, rv a_FALSE, iv (1 : Int32), iv (1 : Int32), iv (1 : Int32), .unset] [(.ref a_FALSE), (.ref a_TRUE), (.ref a_TRUE)])) rfl (by rw [hml]; rfl) (Steps.refl _) (argsL := [(.ref a_FALSE)]) (rest := [(.ref a_TRUE)]) (lenOf pd__Lcom_example_attributes_to_entitlements_attributestoentitlements_Truth__Lcom_example_attributes_to_entitlements_attributestoentitlements_Truth__873 rfl) rfl (by show 2 * 0 + _ ≤ _; exact Nat.le_of_eq rfl) (hb hby at_173) (fun _ _ => ⟨rfl, e54, (by decide : 0 + 0 ≤ _), (by decide : 0 + 0 ≤ _)⟩)
      dsimp only [Pt.U, Pt.locs, Pt.cells, Pt.slots] at X55 l55 y55 z55 st55 hQ55
      subst l55 y55 z55
      obtain ⟨rfl, N55q, e55⟩ := hQ55
      skip
      have N55 := Fr.app N54 N55q
      refine own_tr st55 ?_
      show own_Fin p e below G (T55.setTop (mkF m 176 #[iv p1, iv p2, iv (1 : Int32), iv (0 : Int32), rv a_TRUE, rv a_FALSE, iv (1 : Int32), iv (1 : Int32), iv (1 : Int32), .unset] [(.ref a_TRUE), (.ref a_TRUE)]))
      refine own_st (fun _ k => Jvm.RoadKit.acmp (g := (mkF m 176 #[iv p1, iv p2, iv (1 : Int32), iv (0 : Int32), rv a_TRUE, rv a_FALSE, iv (1 : Int32), iv (1 : Int32), iv (1 : Int32), .unset] [(.ref a_TRUE), (.ref a_TRUE)])) X55 hx rfl rfl rfl (pc0 := 176) (pc' := 179) (same := true) rfl (hb hby at_176) rfl (decide_eq_true rfl) (by decide) (by decide) k) ?_
      show own_Fin p e below G (T55.setTop (mkF m 179 #[iv p1, iv p2, iv (1 : Int32), iv (0 : Int32), rv a_TRUE, rv a_FALSE, iv (1 : Int32), iv (1 : Int32), iv (1 : Int32), .unset] []))
      refine own_st (fun _ k => XS.iconst X55.here hx rfl (hb hby at_179) k) ?_
      show own_Fin p e below G (T55.setTop (mkF m 180 #[iv p1, iv p2, iv (1 : Int32), iv (0 : Int32), rv a_TRUE, rv a_FALSE, iv (1 : Int32), iv (1 : Int32), iv (1 : Int32), .unset] [(.int (1 : Int32))]))
      refine own_st (fun _ k => XS.goto X55.here hx rfl (pc0 := 180) (pc' := 184) rfl (hb hby at_180) (by decide) (by decide) k) ?_
      show own_Fin p e below G (T55.setTop (mkF m 184 #[iv p1, iv p2, iv (1 : Int32), iv (0 : Int32), rv a_TRUE, rv a_FALSE, iv (1 : Int32), iv (1 : Int32), iv (1 : Int32), .unset] [(.int (1 : Int32))]))
      refine own_st (fun _ k => XS.istore X55.here hx rfl (hb hby at_184) rfl (l' := #[iv p1, iv p2, iv (1 : Int32), iv (0 : Int32), rv a_TRUE, rv a_FALSE, iv (1 : Int32), iv (1 : Int32), iv (1 : Int32), iv (1 : Int32)]) rfl k) ?_
      show own_Fin p e below G (T55.setTop (mkF m 186 #[iv p1, iv p2, iv (1 : Int32), iv (0 : Int32), rv a_TRUE, rv a_FALSE, iv (1 : Int32), iv (1 : Int32), iv (1 : Int32), iv (1 : Int32)] []))
      refine own_st (fun _ k => XS.iload X55.here hx rfl (hb hby at_186) rfl  k) ?_
      show own_Fin p e below G (T55.setTop (mkF m 188 #[iv p1, iv p2, iv (1 : Int32), iv (0 : Int32), rv a_TRUE, rv a_FALSE, iv (1 : Int32), iv (1 : Int32), iv (1 : Int32), iv (1 : Int32)] [(.int (1 : Int32))]))
      refine own_st (fun _ k => XS.ifNo X55.here hx rfl (hb hby at_188) rfl ((if0 _ _).trans (feq (by decide : ¬ ((1 : Int32) = (0 : Int32)))).1) k) ?_
      show own_Fin p e below G (T55.setTop (mkF m 191 #[iv p1, iv p2, iv (1 : Int32), iv (0 : Int32), rv a_TRUE, rv a_FALSE, iv (1 : Int32), iv (1 : Int32), iv (1 : Int32), iv (1 : Int32)] []))
      refine own_st (fun _ k => XS.iload X55.here hx rfl (hb hby at_191) rfl  k) ?_
      show own_Fin p e below G (T55.setTop (mkF m 193 #[iv p1, iv p2, iv (1 : Int32), iv (0 : Int32), rv a_TRUE, rv a_FALSE, iv (1 : Int32), iv (1 : Int32), iv (1 : Int32), iv (1 : Int32)] [(.int (1 : Int32))]))
      refine own_st (fun _ k => XS.ifNo X55.here hx rfl (hb hby at_193) rfl ((if0 _ _).trans (feq (by decide : ¬ ((1 : Int32) = (0 : Int32)))).1) k) ?_
      show own_Fin p e below G (T55.setTop (mkF m 196 #[iv p1, iv p2, iv (1 : Int32), iv (0 : Int32), rv a_TRUE, rv a_FALSE, iv (1 : Int32), iv (1 : Int32), iv (1 : Int32), iv (1 : Int32)] []))
      refine own_st (fun _ k => XS.iload X55.here hx rfl (hb hby at_196) rfl  k) ?_
      show own_Fin p e below G (T55.setTop (mkF m 198 #[iv p1, iv p2, iv (1 : Int32), iv (0 : Int32), rv a_TRUE, rv a_FALSE, iv (1 : Int32), iv (1 : Int32), iv (1 : Int32), iv (1 : Int32)] [(.int (1 : Int32))]))
      refine own_st (fun _ k => XS.ifNo X55.here hx rfl (hb hby at_198) rfl ((if0 _ _).trans (feq (by decide : ¬ ((1 : Int32) = (0 : Int32)))).1) k) ?_
      show own_Fin p e below G (T55.setTop (mkF m 201 #[iv p1, iv p2, iv (1 : Int32), iv (0 : Int32), rv a_TRUE, rv a_FALSE, iv (1 : Int32), iv (1 : Int32), iv (1 : Int32), iv (1 : Int32)] []))
      refine own_st (fun _ k => XS.iload X55.here hx rfl (hb hby at_201) rfl  k) ?_
      show own_Fin p e below G (T55.setTop (mkF m 203 #[iv p1, iv p2, iv (1 : Int32), iv (0 : Int32), rv a_TRUE, rv a_FALSE, iv (1 : Int32), iv (1 : Int32), iv (1 : Int32), iv (1 : Int32)] [(.int (1 : Int32))]))
      refine own_st (fun _ k => XS.ifNo X55.here hx rfl (hb hby at_203) rfl ((if0 _ _).trans (feq (by decide : ¬ ((1 : Int32) = (0 : Int32)))).1) k) ?_
      show own_Fin p e below G (T55.setTop (mkF m 206 #[iv p1, iv p2, iv (1 : Int32), iv (0 : Int32), rv a_TRUE, rv a_FALSE, iv (1 : Int32), iv (1 : Int32), iv (1 : Int32), iv (1 : Int32)] []))
      refine own_st (fun _ k => XS.iconst X55.here hx rfl (hb hby at_206) k) ?_
      show own_Fin p e below G (T55.setTop (mkF m 207 #[iv p1, iv p2, iv (1 : Int32), iv (0 : Int32), rv a_TRUE, rv a_FALSE, iv (1 : Int32), iv (1 : Int32), iv (1 : Int32), iv (1 : Int32)] [(.int (1 : Int32))]))
      refine own_st (fun _ k => XS.goto X55.here hx rfl (pc0 := 207) (pc' := 211) rfl (hb hby at_207) (by decide) (by decide) k) ?_
      show own_Fin p e below G (T55.setTop (mkF m 211 #[iv p1, iv p2, iv (1 : Int32), iv (0 : Int32), rv a_TRUE, rv a_FALSE, iv (1 : Int32), iv (1 : Int32), iv (1 : Int32), iv (1 : Int32)] [(.int (1 : Int32))]))
      refine own_out X55 Bd.notSynchronized (v := (some (.int (1 : Int32)))) (fun h => by rw [Bd.returns] at h; cases h) hG (fun fs hr => retN X55 hx (t := .boolean) Bd.returns (by simp) (hb hby at_211) hr) (by decide) (by decide) ?_
      exact ⟨rfl, N55⟩
    · refine own_st (fun _ k => XS.ifNo X0.here hx rfl (hb hby at_15) rfl ((if0 _ _).trans (feq hc15_44).1) k) ?_
      show own_Fin p e below G (s₁.setTop (mkF m 18 #[iv p1, iv p2, iv (1 : Int32), .unset, .unset, .unset, .unset, .unset, .unset, .unset] []))
      refine own_st (fun _ k => XS.iconst X0.here hx rfl (hb hby at_18) k) ?_
      show own_Fin p e below G (s₁.setTop (mkF m 19 #[iv p1, iv p2, iv (1 : Int32), .unset, .unset, .unset, .unset, .unset, .unset, .unset] [(.int (1 : Int32))]))
      refine own_st (fun _ k => XS.goto X0.here hx rfl (pc0 := 19) (pc' := 23) rfl (hb hby at_19) (by decide) (by decide) k) ?_
      show own_Fin p e below G (s₁.setTop (mkF m 23 #[iv p1, iv p2, iv (1 : Int32), .unset, .unset, .unset, .unset, .unset, .unset, .unset] [(.int (1 : Int32))]))
      refine own_st (fun _ k => XS.istoreN X0.here hx rfl (hb hby at_23) rfl (l' := #[iv p1, iv p2, iv (1 : Int32), iv (1 : Int32), .unset, .unset, .unset, .unset, .unset, .unset]) rfl k) ?_
      show own_Fin p e below G (s₁.setTop (mkF m 24 #[iv p1, iv p2, iv (1 : Int32), iv (1 : Int32), .unset, .unset, .unset, .unset, .unset, .unset] []))
      refine own_st (fun _ k => XS.iloadN X0.here hx rfl (hb hby at_24) rfl  k) ?_
      show own_Fin p e below G (s₁.setTop (mkF m 25 #[iv p1, iv p2, iv (1 : Int32), iv (1 : Int32), .unset, .unset, .unset, .unset, .unset, .unset] [(.int (1 : Int32))]))
      obtain ⟨_, _, ⟨T56, L56, k56, n56⟩, -, X56, ⟨Lc56, hQ56, l56, y56, z56⟩, st56⟩ := Jvm.LawKit.callS X0 hx (y := own_y0) hown (mvT hZ (own_w hw 0 rfl)) (mvT hZ (own_w hw 1 rfl)) (mvT hZ (own_w hw 2 rfl)) (mvT hZ (own_w hw 3 rfl)) (by decide) (backOf (W := 0) (rm_of1 l Z a0 hw [] a_TRUE h0 n0 (Nat.le_trans Z0 K0.1) Sa_TRUE) hZ (own_w hw 3 rfl) (own_w hw 2 rfl) (by decide) (by decide)) (g := (mkF m 25 #[iv p1, iv p2, iv (1 : Int32), iv (1 : Int32), .unset, .unset, .unset, .unset, .unset, .unset] [(.int (1 : Int32))])) rfl (by rw [hml]; rfl) (argsL := [(.int (1 : Int32))]) (rest := []) (lenOf pd__Z_Lcom_example_attributes_to_entitlements_attributestoentitlements_Truth__567 rfl) rfl (by show 2 * 0 + _ ≤ _; exact Nat.le_of_eq rfl) (hb hby at_25) (fun _ _ => ⟨rfl, e0, (by decide : 0 + 0 ≤ _), (by decide : 0 + 0 ≤ _)⟩)
      dsimp only [Pt.U, Pt.locs, Pt.cells, Pt.slots] at X56 l56 y56 z56 st56 hQ56
      subst l56 y56 z56
      obtain ⟨rfl, N56q, e56⟩ := hQ56
      skip
      have N56 := Fr.app N0 N56q
      refine own_st st56 ?_
      show own_Fin p e below G (T56.setTop (mkF m 28 #[iv p1, iv p2, iv (1 : Int32), iv (1 : Int32), .unset, .unset, .unset, .unset, .unset, .unset] [(.ref a_TRUE)]))
      refine own_st (fun _ k => XS.astore X56.here hx rfl (hb hby at_28) rfl rfl (l' := #[iv p1, iv p2, iv (1 : Int32), iv (1 : Int32), rv a_TRUE, .unset, .unset, .unset, .unset, .unset]) rfl k) ?_
      show own_Fin p e below G (T56.setTop (mkF m 30 #[iv p1, iv p2, iv (1 : Int32), iv (1 : Int32), rv a_TRUE, .unset, .unset, .unset, .unset, .unset] []))
      refine own_st (fun _ k => XS.iloadN X56.here hx rfl (hb hby at_30) rfl  k) ?_
      show own_Fin p e below G (T56.setTop (mkF m 31 #[iv p1, iv p2, iv (1 : Int32), iv (1 : Int32), rv a_TRUE, .unset, .unset, .unset, .unset, .unset] [(.int (1 : Int32))]))
      obtain ⟨_, _, ⟨T57, L57, k57, n57⟩, -, X57, ⟨Lc57, hQ57, l57, y57, z57⟩, st57⟩ := Jvm.LawKit.callS X56 hx (y := own_y0) hown (mvT hZ (own_w hw 0 rfl)) (mvT hZ (own_w hw 1 rfl)) (mvT hZ (own_w hw 2 rfl)) (mvT hZ (own_w hw 3 rfl)) (by decide) (backOf (W := 0) (rm_of1 l Z a0 hw [] a_TRUE h0 n0 (Nat.le_trans Z0 K0.1) Sa_TRUE) hZ (own_w hw 3 rfl) (own_w hw 2 rfl) (by decide) (by decide)) (g := (mkF m 31 #[iv p1, iv p2, iv (1 : Int32), iv (1 : Int32), rv a_TRUE, .unset, .unset, .unset, .unset, .unset] [(.int (1 : Int32))])) rfl (by rw [hml]; rfl) (argsL := [(.int (1 : Int32))]) (rest := []) (lenOf pd__Z_Lcom_example_attributes_to_entitlements_attributestoentitlements_Truth__567 rfl) rfl (by show 2 * 0 + _ ≤ _; exact Nat.le_of_eq rfl) (hb hby at_31) (fun _ _ => ⟨rfl, e56, (by decide : 0 + 0 ≤ _), (by decide : 0 + 0 ≤ _)⟩)
      dsimp only [Pt.U, Pt.locs, Pt.cells, Pt.slots] at X57 l57 y57 z57 st57 hQ57
      subst l57 y57 z57
      obtain ⟨rfl, N57q, e57⟩ := hQ57
      skip
      have N57 := Fr.app N56 N57q
      refine own_st st57 ?_
      show own_Fin p e below G (T57.setTop (mkF m 34 #[iv p1, iv p2, iv (1 : Int32), iv (1 : Int32), rv a_TRUE, .unset, .unset, .unset, .unset, .unset] [(.ref a_TRUE)]))
      refine own_st (fun _ k => XS.astore X57.here hx rfl (hb hby at_34) rfl rfl (l' := #[iv p1, iv p2, iv (1 : Int32), iv (1 : Int32), rv a_TRUE, rv a_TRUE, .unset, .unset, .unset, .unset]) rfl k) ?_
      show own_Fin p e below G (T57.setTop (mkF m 36 #[iv p1, iv p2, iv (1 : Int32), iv (1 : Int32), rv a_TRUE, rv a_TRUE, .unset, .unset, .unset, .unset] []))
      refine own_st (fun _ k => XS.aload X57.here hx rfl (hb hby at_36) rfl rfl k) ?_
      show own_Fin p e below G (T57.setTop (mkF m 38 #[iv p1, iv p2, iv (1 : Int32), iv (1 : Int32), rv a_TRUE, rv a_TRUE, .unset, .unset, .unset, .unset] [(.ref a_TRUE)]))
      obtain ⟨T58, X58, e58, st58⟩ := getS2 X57 hx hZ hown (host := "") (Or.inl (own_w hw 8 rfl)) Via.refl e57 Sa_TRUE (g := (mkF m 38 #[iv p1, iv p2, iv (1 : Int32), iv (1 : Int32), rv a_TRUE, rv a_TRUE, .unset, .unset, .unset, .unset] [(.ref a_TRUE)])) rfl (hb hby at_38)
      refine own_st st58 ?_
      show own_Fin p e below G (T58.setTop (mkF m 41 #[iv p1, iv p2, iv (1 : Int32), iv (1 : Int32), rv a_TRUE, rv a_TRUE, .unset, .unset, .unset, .unset] [(.ref a_TRUE), (.ref a_TRUE)]))
      refine own_st (fun _ k => Jvm.RoadKit.acmp (g := (mkF m 41 #[iv p1, iv p2, iv (1 : Int32), iv (1 : Int32), rv a_TRUE, rv a_TRUE, .unset, .unset, .unset, .unset] [(.ref a_TRUE), (.ref a_TRUE)])) X58 hx rfl rfl rfl (pc0 := 41) (pc' := 44) (same := true) rfl (hb hby at_41) rfl (decide_eq_true rfl) (by decide) (by decide) k) ?_
      show own_Fin p e below G (T58.setTop (mkF m 44 #[iv p1, iv p2, iv (1 : Int32), iv (1 : Int32), rv a_TRUE, rv a_TRUE, .unset, .unset, .unset, .unset] []))
      refine own_st (fun _ k => XS.iconst X58.here hx rfl (hb hby at_44) k) ?_
      show own_Fin p e below G (T58.setTop (mkF m 45 #[iv p1, iv p2, iv (1 : Int32), iv (1 : Int32), rv a_TRUE, rv a_TRUE, .unset, .unset, .unset, .unset] [(.int (1 : Int32))]))
      refine own_st (fun _ k => XS.goto X58.here hx rfl (pc0 := 45) (pc' := 49) rfl (hb hby at_45) (by decide) (by decide) k) ?_
      show own_Fin p e below G (T58.setTop (mkF m 49 #[iv p1, iv p2, iv (1 : Int32), iv (1 : Int32), rv a_TRUE, rv a_TRUE, .unset, .unset, .unset, .unset] [(.int (1 : Int32))]))
      refine own_st (fun _ k => XS.iloadN X58.here hx rfl (hb hby at_49) rfl  k) ?_
      show own_Fin p e below G (T58.setTop (mkF m 50 #[iv p1, iv p2, iv (1 : Int32), iv (1 : Int32), rv a_TRUE, rv a_TRUE, .unset, .unset, .unset, .unset] [(.int (1 : Int32)), (.int (1 : Int32))]))
      refine own_st (fun _ k => XS.icmpNo X58.here hx rfl (hb hby at_50) rfl (teq (by decide : ((1 : Int32) = (1 : Int32)))).2 k) ?_
      show own_Fin p e below G (T58.setTop (mkF m 53 #[iv p1, iv p2, iv (1 : Int32), iv (1 : Int32), rv a_TRUE, rv a_TRUE, .unset, .unset, .unset, .unset] []))
      refine own_st (fun _ k => XS.aload X58.here hx rfl (hb hby at_53) rfl rfl k) ?_
      show own_Fin p e below G (T58.setTop (mkF m 55 #[iv p1, iv p2, iv (1 : Int32), iv (1 : Int32), rv a_TRUE, rv a_TRUE, .unset, .unset, .unset, .unset] [(.ref a_TRUE)]))
      obtain ⟨T59, X59, e59, st59⟩ := getS2 X58 hx hZ hown (host := "") (Or.inl (own_w hw 9 rfl)) Via.refl e58 Sa_FALSE (g := (mkF m 55 #[iv p1, iv p2, iv (1 : Int32), iv (1 : Int32), rv a_TRUE, rv a_TRUE, .unset, .unset, .unset, .unset] [(.ref a_TRUE)])) rfl (hb hby at_55)
      refine own_st st59 ?_
      show own_Fin p e below G (T59.setTop (mkF m 58 #[iv p1, iv p2, iv (1 : Int32), iv (1 : Int32), rv a_TRUE, rv a_TRUE, .unset, .unset, .unset, .unset] [(.ref a_FALSE), (.ref a_TRUE)]))
      refine own_st (fun _ k => Jvm.RoadKit.acmp (g := (mkF m 58 #[iv p1, iv p2, iv (1 : Int32), iv (1 : Int32), rv a_TRUE, rv a_TRUE, .unset, .unset, .unset, .unset] [(.ref a_FALSE), (.ref a_TRUE)])) X59 hx rfl rfl rfl (pc0 := 58) (pc' := 65) (same := false) rfl (hb hby at_58) rfl (decide_eq_false fun q => (Ne.symm ne_a_FALSE_a_TRUE) (Value.ref.inj q)) (by decide) (by decide) k) ?_
      show own_Fin p e below G (T59.setTop (mkF m 65 #[iv p1, iv p2, iv (1 : Int32), iv (1 : Int32), rv a_TRUE, rv a_TRUE, .unset, .unset, .unset, .unset] []))
      refine own_st (fun _ k => XS.iconst X59.here hx rfl (hb hby at_65) k) ?_
      show own_Fin p e below G (T59.setTop (mkF m 66 #[iv p1, iv p2, iv (1 : Int32), iv (1 : Int32), rv a_TRUE, rv a_TRUE, .unset, .unset, .unset, .unset] [(.int (0 : Int32))]))
      refine own_st (fun _ k => XS.iloadN X59.here hx rfl (hb hby at_66) rfl  k) ?_
      show own_Fin p e below G (T59.setTop (mkF m 67 #[iv p1, iv p2, iv (1 : Int32), iv (1 : Int32), rv a_TRUE, rv a_TRUE, .unset, .unset, .unset, .unset] [(.int (1 : Int32)), (.int (0 : Int32))]))
      refine own_st (fun _ k => XS.ifYes X59.here hx rfl (pc0 := 67) (pc' := 74) rfl (hb hby at_67) rfl ((if0 _ _).trans (feq (by decide : ¬ ((1 : Int32) = (0 : Int32)))).2) (by decide) (by decide) k) ?_
      show own_Fin p e below G (T59.setTop (mkF m 74 #[iv p1, iv p2, iv (1 : Int32), iv (1 : Int32), rv a_TRUE, rv a_TRUE, .unset, .unset, .unset, .unset] [(.int (0 : Int32))]))
      refine own_st (fun _ k => XS.iconst X59.here hx rfl (hb hby at_74) k) ?_
      show own_Fin p e below G (T59.setTop (mkF m 75 #[iv p1, iv p2, iv (1 : Int32), iv (1 : Int32), rv a_TRUE, rv a_TRUE, .unset, .unset, .unset, .unset] [(.int (0 : Int32)), (.int (0 : Int32))]))
      refine own_st (fun _ k => XS.icmpNo X59.here hx rfl (hb hby at_75) rfl (teq (by decide : ((0 : Int32) = (0 : Int32)))).2 k) ?_
      show own_Fin p e below G (T59.setTop (mkF m 78 #[iv p1, iv p2, iv (1 : Int32), iv (1 : Int32), rv a_TRUE, rv a_TRUE, .unset, .unset, .unset, .unset] []))
      refine own_st (fun _ k => XS.aload X59.here hx rfl (hb hby at_78) rfl rfl k) ?_
      show own_Fin p e below G (T59.setTop (mkF m 80 #[iv p1, iv p2, iv (1 : Int32), iv (1 : Int32), rv a_TRUE, rv a_TRUE, .unset, .unset, .unset, .unset] [(.ref a_TRUE)]))
      obtain ⟨T60, X60, e60, st60⟩ := getS2 X59 hx hZ hown (host := "") (Or.inl (own_w hw 10 rfl)) Via.refl e59 Sa_UNKNOWN (g := (mkF m 80 #[iv p1, iv p2, iv (1 : Int32), iv (1 : Int32), rv a_TRUE, rv a_TRUE, .unset, .unset, .unset, .unset] [(.ref a_TRUE)])) rfl (hb hby at_80)
      refine own_st st60 ?_
      show own_Fin p e below G (T60.setTop (mkF m 83 #[iv p1, iv p2, iv (1 : Int32), iv (1 : Int32), rv a_TRUE, rv a_TRUE, .unset, .unset, .unset, .unset] [(.ref a_UNKNOWN), (.ref a_TRUE)]))
      refine own_st (fun _ k => Jvm.RoadKit.acmp (g := (mkF m 83 #[iv p1, iv p2, iv (1 : Int32), iv (1 : Int32), rv a_TRUE, rv a_TRUE, .unset, .unset, .unset, .unset] [(.ref a_UNKNOWN), (.ref a_TRUE)])) X60 hx rfl rfl rfl (pc0 := 83) (pc' := 86) (same := false) rfl (hb hby at_83) rfl (decide_eq_false fun q => ne_a_TRUE_a_UNKNOWN (Value.ref.inj q)) (by decide) (by decide) k) ?_
      show own_Fin p e below G (T60.setTop (mkF m 86 #[iv p1, iv p2, iv (1 : Int32), iv (1 : Int32), rv a_TRUE, rv a_TRUE, .unset, .unset, .unset, .unset] []))
      refine own_st (fun _ k => XS.iconst X60.here hx rfl (hb hby at_86) k) ?_
      show own_Fin p e below G (T60.setTop (mkF m 87 #[iv p1, iv p2, iv (1 : Int32), iv (1 : Int32), rv a_TRUE, rv a_TRUE, .unset, .unset, .unset, .unset] [(.int (1 : Int32))]))
      refine own_st (fun _ k => XS.goto X60.here hx rfl (pc0 := 87) (pc' := 91) rfl (hb hby at_87) (by decide) (by decide) k) ?_
      show own_Fin p e below G (T60.setTop (mkF m 91 #[iv p1, iv p2, iv (1 : Int32), iv (1 : Int32), rv a_TRUE, rv a_TRUE, .unset, .unset, .unset, .unset] [(.int (1 : Int32))]))
      refine own_st (fun _ k => XS.istore X60.here hx rfl (hb hby at_91) rfl (l' := #[iv p1, iv p2, iv (1 : Int32), iv (1 : Int32), rv a_TRUE, rv a_TRUE, iv (1 : Int32), .unset, .unset, .unset]) rfl k) ?_
      show own_Fin p e below G (T60.setTop (mkF m 93 #[iv p1, iv p2, iv (1 : Int32), iv (1 : Int32), rv a_TRUE, rv a_TRUE, iv (1 : Int32), .unset, .unset, .unset] []))
      refine own_st (fun _ k => XS.iloadN X60.here hx rfl (hb hby at_93) rfl  k) ?_
      show own_Fin p e below G (T60.setTop (mkF m 94 #[iv p1, iv p2, iv (1 : Int32), iv (1 : Int32), rv a_TRUE, rv a_TRUE, iv (1 : Int32), .unset, .unset, .unset] [(.int (1 : Int32))]))
      refine own_st (fun _ k => XS.ifYes X60.here hx rfl (pc0 := 94) (pc' := 101) rfl (hb hby at_94) rfl ((if0 _ _).trans (feq (by decide : ¬ ((1 : Int32) = (0 : Int32)))).2) (by decide) (by decide) k) ?_
      show own_Fin p e below G (T60.setTop (mkF m 101 #[iv p1, iv p2, iv (1 : Int32), iv (1 : Int32), rv a_TRUE, rv a_TRUE, iv (1 : Int32), .unset, .unset, .unset] []))
      refine own_st (fun _ k => XS.iconst X60.here hx rfl (hb hby at_101) k) ?_
      show own_Fin p e below G (T60.setTop (mkF m 102 #[iv p1, iv p2, iv (1 : Int32), iv (1 : Int32), rv a_TRUE, rv a_TRUE, iv (1 : Int32), .unset, .unset, .unset] [(.int (0 : Int32))]))
      obtain ⟨_, _, ⟨T61, L61, k61, n61⟩, -, X61, ⟨Lc61, hQ61, l61, y61, z61⟩, st61⟩ := Jvm.LawKit.callS X60 hx (y := own_y0) hown (mvT hZ (own_w hw 0 rfl)) (mvT hZ (own_w hw 1 rfl)) (mvT hZ (own_w hw 2 rfl)) (mvT hZ (own_w hw 3 rfl)) (by decide) (backOf (W := 0) (rm_of0 l Z a0 hw [] a_FALSE h0 n0 (Nat.le_trans Z0 K0.1) Sa_FALSE) hZ (own_w hw 3 rfl) (own_w hw 2 rfl) (by decide) (by decide)) (g := (mkF m 102 #[iv p1, iv p2, iv (1 : Int32), iv (1 : Int32), rv a_TRUE, rv a_TRUE, iv (1 : Int32), .unset, .unset, .unset] [(.int (0 : Int32))])) rfl (by rw [hml]; rfl) (argsL := [(.int (0 : Int32))]) (rest := []) (lenOf pd__Z_Lcom_example_attributes_to_entitlements_attributestoentitlements_Truth__567 rfl) rfl (by show 2 * 0 + _ ≤ _; exact Nat.le_of_eq rfl) (hb hby at_102) (fun _ _ => ⟨rfl, e60, (by decide : 0 + 0 ≤ _), (by decide : 0 + 0 ≤ _)⟩)
      dsimp only [Pt.U, Pt.locs, Pt.cells, Pt.slots] at X61 l61 y61 z61 st61 hQ61
      subst l61 y61 z61
      obtain ⟨rfl, N61q, e61⟩ := hQ61
      skip
      have N61 := Fr.app N57 N61q
      refine own_st st61 ?_
      show own_Fin p e below G (T61.setTop (mkF m 105 #[iv p1, iv p2, iv (1 : Int32), iv (1 : Int32), rv a_TRUE, rv a_TRUE, iv (1 : Int32), .unset, .unset, .unset] [(.ref a_FALSE)]))
      refine own_st (fun _ k => XS.aload X61.here hx rfl (hb hby at_105) rfl rfl k) ?_
      show own_Fin p e below G (T61.setTop (mkF m 107 #[iv p1, iv p2, iv (1 : Int32), iv (1 : Int32), rv a_TRUE, rv a_TRUE, iv (1 : Int32), .unset, .unset, .unset] [(.ref a_TRUE), (.ref a_FALSE)]))
      obtain ⟨cq62, kq62, q62a, q62b, q62c⟩ := isOf hZ e61 Ea_TRUE
      obtain ⟨_, _, ⟨T62, L62, k62, n62⟩, -, X62, ⟨Lc62, hQ62, l62, y62, z62⟩, st62⟩ := X61.virtualBack hx (y := own_y3) (z := own_y3) hown (mvT hZ (own_w hw 12 rfl)) (mvT hZ (own_w hw 13 rfl)) (notFace_of_selects (args := #[]) (mvT hZ (own_w hw 15 rfl))) (mvT hZ (own_w hw 15 rfl)) (mvT hZ (own_w hw 14 rfl)) (by decide) (backOf (W := 1) (rm_not2 l Z a0 hw [] a_TRUE a_FALSE h0 n0 (Nat.le_trans Z0 K0.1) Ea_TRUE Fa_TRUE_ordinal Sa_FALSE) hZ (own_w hw 16 rfl) (own_w hw 2 rfl) (by decide) (by decide)) q62a q62c (g := (mkF m 107 #[iv p1, iv p2, iv (1 : Int32), iv (1 : Int32), rv a_TRUE, rv a_TRUE, iv (1 : Int32), .unset, .unset, .unset] [(.ref a_TRUE), (.ref a_FALSE)])) rfl (by rw [hml]; rfl) (Steps.refl _) (argsL := []) (rest := [(.ref a_FALSE)]) (lenOf pd___Lcom_example_attributes_to_entitlements_attributestoentitlements_Truth__477 rfl) rfl (by show 2 * 0 + _ ≤ _; exact Nat.le_of_eq rfl) (hb hby at_107) (fun _ _ => ⟨rfl, e61, (by decide : 0 + 0 ≤ _), (by decide : 0 + 0 ≤ _)⟩)
      dsimp only [Pt.U, Pt.locs, Pt.cells, Pt.slots] at X62 l62 y62 z62 st62 hQ62
      subst l62 y62 z62
      obtain ⟨rfl, N62q, e62⟩ := hQ62
      skip
      have N62 := Fr.app N61 N62q
      refine own_tr st62 ?_
      show own_Fin p e below G (T62.setTop (mkF m 110 #[iv p1, iv p2, iv (1 : Int32), iv (1 : Int32), rv a_TRUE, rv a_TRUE, iv (1 : Int32), .unset, .unset, .unset] [(.ref a_FALSE), (.ref a_FALSE)]))
      refine own_st (fun _ k => Jvm.RoadKit.acmp (g := (mkF m 110 #[iv p1, iv p2, iv (1 : Int32), iv (1 : Int32), rv a_TRUE, rv a_TRUE, iv (1 : Int32), .unset, .unset, .unset] [(.ref a_FALSE), (.ref a_FALSE)])) X62 hx rfl rfl rfl (pc0 := 110) (pc' := 113) (same := true) rfl (hb hby at_110) rfl (decide_eq_true rfl) (by decide) (by decide) k) ?_
      show own_Fin p e below G (T62.setTop (mkF m 113 #[iv p1, iv p2, iv (1 : Int32), iv (1 : Int32), rv a_TRUE, rv a_TRUE, iv (1 : Int32), .unset, .unset, .unset] []))
      refine own_st (fun _ k => XS.iconst X62.here hx rfl (hb hby at_113) k) ?_
      show own_Fin p e below G (T62.setTop (mkF m 114 #[iv p1, iv p2, iv (1 : Int32), iv (1 : Int32), rv a_TRUE, rv a_TRUE, iv (1 : Int32), .unset, .unset, .unset] [(.int (1 : Int32))]))
      refine own_st (fun _ k => XS.goto X62.here hx rfl (pc0 := 114) (pc' := 118) rfl (hb hby at_114) (by decide) (by decide) k) ?_
      show own_Fin p e below G (T62.setTop (mkF m 118 #[iv p1, iv p2, iv (1 : Int32), iv (1 : Int32), rv a_TRUE, rv a_TRUE, iv (1 : Int32), .unset, .unset, .unset] [(.int (1 : Int32))]))
      refine own_st (fun _ k => XS.istore X62.here hx rfl (hb hby at_118) rfl (l' := #[iv p1, iv p2, iv (1 : Int32), iv (1 : Int32), rv a_TRUE, rv a_TRUE, iv (1 : Int32), iv (1 : Int32), .unset, .unset]) rfl k) ?_
      show own_Fin p e below G (T62.setTop (mkF m 120 #[iv p1, iv p2, iv (1 : Int32), iv (1 : Int32), rv a_TRUE, rv a_TRUE, iv (1 : Int32), iv (1 : Int32), .unset, .unset] []))
      refine own_st (fun _ k => XS.iloadN X62.here hx rfl (hb hby at_120) rfl  k) ?_
      show own_Fin p e below G (T62.setTop (mkF m 121 #[iv p1, iv p2, iv (1 : Int32), iv (1 : Int32), rv a_TRUE, rv a_TRUE, iv (1 : Int32), iv (1 : Int32), .unset, .unset] [(.int (1 : Int32))]))
      refine own_st (fun _ k => XS.ifNo X62.here hx rfl (hb hby at_121) rfl ((if0 _ _).trans (feq (by decide : ¬ ((1 : Int32) = (0 : Int32)))).1) k) ?_
      show own_Fin p e below G (T62.setTop (mkF m 124 #[iv p1, iv p2, iv (1 : Int32), iv (1 : Int32), rv a_TRUE, rv a_TRUE, iv (1 : Int32), iv (1 : Int32), .unset, .unset] []))
      refine own_st (fun _ k => XS.iloadN X62.here hx rfl (hb hby at_124) rfl  k) ?_
      show own_Fin p e below G (T62.setTop (mkF m 125 #[iv p1, iv p2, iv (1 : Int32), iv (1 : Int32), rv a_TRUE, rv a_TRUE, iv (1 : Int32), iv (1 : Int32), .unset, .unset] [(.int (1 : Int32))]))
      refine own_st (fun _ k => XS.ifNo X62.here hx rfl (hb hby at_125) rfl ((if0 _ _).trans (feq (by decide : ¬ ((1 : Int32) = (0 : Int32)))).1) k) ?_
      show own_Fin p e below G (T62.setTop (mkF m 128 #[iv p1, iv p2, iv (1 : Int32), iv (1 : Int32), rv a_TRUE, rv a_TRUE, iv (1 : Int32), iv (1 : Int32), .unset, .unset] []))
      refine own_st (fun _ k => XS.iconst X62.here hx rfl (hb hby at_128) k) ?_
      show own_Fin p e below G (T62.setTop (mkF m 129 #[iv p1, iv p2, iv (1 : Int32), iv (1 : Int32), rv a_TRUE, rv a_TRUE, iv (1 : Int32), iv (1 : Int32), .unset, .unset] [(.int (1 : Int32))]))
      refine own_st (fun _ k => XS.goto X62.here hx rfl (pc0 := 129) (pc' := 133) rfl (hb hby at_129) (by decide) (by decide) k) ?_
      show own_Fin p e below G (T62.setTop (mkF m 133 #[iv p1, iv p2, iv (1 : Int32), iv (1 : Int32), rv a_TRUE, rv a_TRUE, iv (1 : Int32), iv (1 : Int32), .unset, .unset] [(.int (1 : Int32))]))
      obtain ⟨_, _, ⟨T63, L63, k63, n63⟩, -, X63, ⟨Lc63, hQ63, l63, y63, z63⟩, st63⟩ := Jvm.LawKit.callS X62 hx (y := own_y0) hown (mvT hZ (own_w hw 0 rfl)) (mvT hZ (own_w hw 1 rfl)) (mvT hZ (own_w hw 2 rfl)) (mvT hZ (own_w hw 3 rfl)) (by decide) (backOf (W := 0) (rm_of1 l Z a0 hw [] a_TRUE h0 n0 (Nat.le_trans Z0 K0.1) Sa_TRUE) hZ (own_w hw 3 rfl) (own_w hw 2 rfl) (by decide) (by decide)) (g := (mkF m 133 #[iv p1, iv p2, iv (1 : Int32), iv (1 : Int32), rv a_TRUE, rv a_TRUE, iv (1 : Int32), iv (1 : Int32), .unset, .unset] [(.int (1 : Int32))])) rfl (by rw [hml]; rfl) (argsL := [(.int (1 : Int32))]) (rest := []) (lenOf pd__Z_Lcom_example_attributes_to_entitlements_attributestoentitlements_Truth__567 rfl) rfl (by show 2 * 0 + _ ≤ _; exact Nat.le_of_eq rfl) (hb hby at_133) (fun _ _ => ⟨rfl, e62, (by decide : 0 + 0 ≤ _), (by decide : 0 + 0 ≤ _)⟩)
      dsimp only [Pt.U, Pt.locs, Pt.cells, Pt.slots] at X63 l63 y63 z63 st63 hQ63
      subst l63 y63 z63
      obtain ⟨rfl, N63q, e63⟩ := hQ63
      skip
      have N63 := Fr.app N62 N63q
      refine own_st st63 ?_
      show own_Fin p e below G (T63.setTop (mkF m 136 #[iv p1, iv p2, iv (1 : Int32), iv (1 : Int32), rv a_TRUE, rv a_TRUE, iv (1 : Int32), iv (1 : Int32), .unset, .unset] [(.ref a_TRUE)]))
      refine own_st (fun _ k => XS.aload X63.here hx rfl (hb hby at_136) rfl rfl k) ?_
      show own_Fin p e below G (T63.setTop (mkF m 138 #[iv p1, iv p2, iv (1 : Int32), iv (1 : Int32), rv a_TRUE, rv a_TRUE, iv (1 : Int32), iv (1 : Int32), .unset, .unset] [(.ref a_TRUE), (.ref a_TRUE)]))
      refine own_st (fun _ k => XS.aload X63.here hx rfl (hb hby at_138) rfl rfl k) ?_
      show own_Fin p e below G (T63.setTop (mkF m 140 #[iv p1, iv p2, iv (1 : Int32), iv (1 : Int32), rv a_TRUE, rv a_TRUE, iv (1 : Int32), iv (1 : Int32), .unset, .unset] [(.ref a_TRUE), (.ref a_TRUE), (.ref a_TRUE)]))
      obtain ⟨cq64, kq64, q64a, q64b, q64c⟩ := isOf hZ e63 Ea_TRUE
      obtain ⟨_, _, ⟨T64, L64, k64, n64⟩, -, X64, ⟨Lc64, hQ64, l64, y64, z64⟩, st64⟩ := X63.virtualBack hx (y := own_y6) (z := own_y6) hown (mvT hZ (own_w hw 26 rfl)) (mvT hZ (own_w hw 27 rfl)) (notFace_of_selects (args := #[]) (mvT hZ (own_w hw 29 rfl))) (mvT hZ (own_w hw 29 rfl)) (mvT hZ (own_w hw 28 rfl)) (by decide) (backOf (W := 1) (rm_and22 l Z a0 hw [] a_TRUE a_TRUE mr h0 n0 (Nat.le_trans Z0 K0.1) Ea_TRUE Ea_TRUE Fa_TRUE_ordinal Fa_TRUE_ordinal M) hZ (own_w hw 30 rfl) (own_w hw 2 rfl) (by decide) (by decide)) q64a q64c (g := (mkF m 140 #[iv p1, iv p2, iv (1 : Int32), iv (1 : Int32), rv a_TRUE, rv a_TRUE, iv (1 : Int32), iv (1 : Int32), .unset, .unset] [(.ref a_TRUE), (.ref a_TRUE), (.ref a_TRUE)])) rfl (by rw [hml]; rfl) (Steps.refl _) (argsL := [(.ref a_TRUE)]) (rest := [(.ref a_TRUE)]) (lenOf pd__Lcom_example_attributes_to_entitlements_attributestoentitlements_Truth__Lcom_example_attributes_to_entitlements_attributestoentitlements_Truth__873 rfl) rfl (by show 2 * 0 + _ ≤ _; exact Nat.le_of_eq rfl) (hb hby at_140) (fun _ _ => ⟨rfl, e63, (by decide : 0 + 0 ≤ _), (by decide : 0 + 0 ≤ _)⟩)
      dsimp only [Pt.U, Pt.locs, Pt.cells, Pt.slots] at X64 l64 y64 z64 st64 hQ64
      subst l64 y64 z64
      obtain ⟨rfl, N64q, e64⟩ := hQ64
      skip
      have N64 := Fr.app N63 N64q
      refine own_tr st64 ?_
      show own_Fin p e below G (T64.setTop (mkF m 143 #[iv p1, iv p2, iv (1 : Int32), iv (1 : Int32), rv a_TRUE, rv a_TRUE, iv (1 : Int32), iv (1 : Int32), .unset, .unset] [(.ref a_TRUE), (.ref a_TRUE)]))
      refine own_st (fun _ k => Jvm.RoadKit.acmp (g := (mkF m 143 #[iv p1, iv p2, iv (1 : Int32), iv (1 : Int32), rv a_TRUE, rv a_TRUE, iv (1 : Int32), iv (1 : Int32), .unset, .unset] [(.ref a_TRUE), (.ref a_TRUE)])) X64 hx rfl rfl rfl (pc0 := 143) (pc' := 146) (same := true) rfl (hb hby at_143) rfl (decide_eq_true rfl) (by decide) (by decide) k) ?_
      show own_Fin p e below G (T64.setTop (mkF m 146 #[iv p1, iv p2, iv (1 : Int32), iv (1 : Int32), rv a_TRUE, rv a_TRUE, iv (1 : Int32), iv (1 : Int32), .unset, .unset] []))
      refine own_st (fun _ k => XS.iconst X64.here hx rfl (hb hby at_146) k) ?_
      show own_Fin p e below G (T64.setTop (mkF m 147 #[iv p1, iv p2, iv (1 : Int32), iv (1 : Int32), rv a_TRUE, rv a_TRUE, iv (1 : Int32), iv (1 : Int32), .unset, .unset] [(.int (1 : Int32))]))
      refine own_st (fun _ k => XS.goto X64.here hx rfl (pc0 := 147) (pc' := 151) rfl (hb hby at_147) (by decide) (by decide) k) ?_
      show own_Fin p e below G (T64.setTop (mkF m 151 #[iv p1, iv p2, iv (1 : Int32), iv (1 : Int32), rv a_TRUE, rv a_TRUE, iv (1 : Int32), iv (1 : Int32), .unset, .unset] [(.int (1 : Int32))]))
      refine own_st (fun _ k => XS.istore X64.here hx rfl (hb hby at_151) rfl (l' := #[iv p1, iv p2, iv (1 : Int32), iv (1 : Int32), rv a_TRUE, rv a_TRUE, iv (1 : Int32), iv (1 : Int32), iv (1 : Int32), .unset]) rfl k) ?_
      show own_Fin p e below G (T64.setTop (mkF m 153 #[iv p1, iv p2, iv (1 : Int32), iv (1 : Int32), rv a_TRUE, rv a_TRUE, iv (1 : Int32), iv (1 : Int32), iv (1 : Int32), .unset] []))
      refine own_st (fun _ k => XS.iloadN X64.here hx rfl (hb hby at_153) rfl  k) ?_
      show own_Fin p e below G (T64.setTop (mkF m 154 #[iv p1, iv p2, iv (1 : Int32), iv (1 : Int32), rv a_TRUE, rv a_TRUE, iv (1 : Int32), iv (1 : Int32), iv (1 : Int32), .unset] [(.int (1 : Int32))]))
      refine own_st (fun _ k => XS.ifYes X64.here hx rfl (pc0 := 154) (pc' := 161) rfl (hb hby at_154) rfl ((if0 _ _).trans (feq (by decide : ¬ ((1 : Int32) = (0 : Int32)))).2) (by decide) (by decide) k) ?_
      show own_Fin p e below G (T64.setTop (mkF m 161 #[iv p1, iv p2, iv (1 : Int32), iv (1 : Int32), rv a_TRUE, rv a_TRUE, iv (1 : Int32), iv (1 : Int32), iv (1 : Int32), .unset] []))
      refine own_st (fun _ k => XS.iconst X64.here hx rfl (hb hby at_161) k) ?_
      show own_Fin p e below G (T64.setTop (mkF m 162 #[iv p1, iv p2, iv (1 : Int32), iv (1 : Int32), rv a_TRUE, rv a_TRUE, iv (1 : Int32), iv (1 : Int32), iv (1 : Int32), .unset] [(.int (1 : Int32))]))
      refine own_st (fun _ k => XS.goto X64.here hx rfl (pc0 := 162) (pc' := 166) rfl (hb hby at_162) (by decide) (by decide) k) ?_
      show own_Fin p e below G (T64.setTop (mkF m 166 #[iv p1, iv p2, iv (1 : Int32), iv (1 : Int32), rv a_TRUE, rv a_TRUE, iv (1 : Int32), iv (1 : Int32), iv (1 : Int32), .unset] [(.int (1 : Int32))]))
      obtain ⟨_, _, ⟨T65, L65, k65, n65⟩, -, X65, ⟨Lc65, hQ65, l65, y65, z65⟩, st65⟩ := Jvm.LawKit.callS X64 hx (y := own_y0) hown (mvT hZ (own_w hw 0 rfl)) (mvT hZ (own_w hw 1 rfl)) (mvT hZ (own_w hw 2 rfl)) (mvT hZ (own_w hw 3 rfl)) (by decide) (backOf (W := 0) (rm_of1 l Z a0 hw [] a_TRUE h0 n0 (Nat.le_trans Z0 K0.1) Sa_TRUE) hZ (own_w hw 3 rfl) (own_w hw 2 rfl) (by decide) (by decide)) (g := (mkF m 166 #[iv p1, iv p2, iv (1 : Int32), iv (1 : Int32), rv a_TRUE, rv a_TRUE, iv (1 : Int32), iv (1 : Int32), iv (1 : Int32), .unset] [(.int (1 : Int32))])) rfl (by rw [hml]; rfl) (argsL := [(.int (1 : Int32))]) (rest := []) (lenOf pd__Z_Lcom_example_attributes_to_entitlements_attributestoentitlements_Truth__567 rfl) rfl (by show 2 * 0 + _ ≤ _; exact Nat.le_of_eq rfl) (hb hby at_166) (fun _ _ => ⟨rfl, e64, (by decide : 0 + 0 ≤ _), (by decide : 0 + 0 ≤ _)⟩)
      dsimp only [Pt.U, Pt.locs, Pt.cells, Pt.slots] at X65 l65 y65 z65 st65 hQ65
      subst l65 y65 z65
      obtain ⟨rfl, N65q, e65⟩ := hQ65
      skip
      have N65 := Fr.app N64 N65q
      refine own_st st65 ?_
      show own_Fin p e below G (T65.setTop (mkF m 169 #[iv p1, iv p2, iv (1 : Int32), iv (1 : Int32), rv a_TRUE, rv a_TRUE, iv (1 : Int32), iv (1 : Int32), iv (1 : Int32), .unset] [(.ref a_TRUE)]))
      refine own_st (fun _ k => XS.aload X65.here hx rfl (hb hby at_169) rfl rfl k) ?_
      show own_Fin p e below G (T65.setTop (mkF m 171 #[iv p1, iv p2, iv (1 : Int32), iv (1 : Int32), rv a_TRUE, rv a_TRUE, iv (1 : Int32), iv (1 : Int32), iv (1 : Int32), .unset] [(.ref a_TRUE), (.ref a_TRUE)]))
      refine own_st (fun _ k => XS.aload X65.here hx rfl (hb hby at_171) rfl rfl k) ?_
      show own_Fin p e below G (T65.setTop (mkF m 173 #[iv p1, iv p2, iv (1 : Int32), iv (1 : Int32), rv a_TRUE, rv a_TRUE, iv (1 : Int32), iv (1 : Int32), iv (1 : Int32), .unset] [(.ref a_TRUE), (.ref a_TRUE), (.ref a_TRUE)]))
      obtain ⟨cq66, kq66, q66a, q66b, q66c⟩ := isOf hZ e65 Ea_TRUE
      obtain ⟨_, _, ⟨T66, L66, k66, n66⟩, -, X66, ⟨Lc66, hQ66, l66, y66, z66⟩, st66⟩ := X65.virtualBack hx (y := own_y7) (z := own_y7) hown (mvT hZ (own_w hw 43 rfl)) (mvT hZ (own_w hw 44 rfl)) (notFace_of_selects (args := #[]) (mvT hZ (own_w hw 46 rfl))) (mvT hZ (own_w hw 46 rfl)) (mvT hZ (own_w hw 45 rfl)) (by decide) (backOf (W := 1) (rm_or22 l Z a0 hw [] a_TRUE a_TRUE mr h0 n0 (Nat.le_trans Z0 K0.1) Ea_TRUE Ea_TRUE Fa_TRUE_ordinal Fa_TRUE_ordinal M) hZ (own_w hw 47 rfl) (own_w hw 2 rfl) (by decide) (by decide)) q66a q66c (g := (mkF m 173 #[iv p1, iv p2, iv (1 : Int32), iv (1 : Int32), rv a_TRUE, rv a_TRUE, iv (1 : Int32), iv (1 : Int32), iv (1 : Int32), .unset] [(.ref a_TRUE), (.ref a_TRUE), (.ref a_TRUE)])) rfl (by rw [hml]; rfl) (Steps.refl _) (argsL := [(.ref a_TRUE)]) (rest := [(.ref a_TRUE)]) (lenOf pd__Lcom_example_attributes_to_entitlements_attributestoentitlements_Truth__Lcom_example_attributes_to_entitlements_attributestoentitlements_Truth__873 rfl) rfl (by show 2 * 0 + _ ≤ _; exact Nat.le_of_eq rfl) (hb hby at_173) (fun _ _ => ⟨rfl, e65, (by decide : 0 + 0 ≤ _), (by decide : 0 + 0 ≤ _)⟩)
      dsimp only [Pt.U, Pt.locs, Pt.cells, Pt.slots] at X66 l66 y66 z66 st66 hQ66
      subst l66 y66 z66
      obtain ⟨rfl, N66q, e66⟩ := hQ66
      skip
      have N66 := Fr.app N65 N66q
      refine own_tr st66 ?_
      show own_Fin p e below G (T66.setTop (mkF m 176 #[iv p1, iv p2, iv (1 : Int32), iv (1 : Int32), rv a_TRUE, rv a_TRUE, iv (1 : Int32), iv (1 : Int32), iv (1 : Int32), .unset] [(.ref a_TRUE), (.ref a_TRUE)]))
      refine own_st (fun _ k => Jvm.RoadKit.acmp (g := (mkF m 176 #[iv p1, iv p2, iv (1 : Int32), iv (1 : Int32), rv a_TRUE, rv a_TRUE, iv (1 : Int32), iv (1 : Int32), iv (1 : Int32), .unset] [(.ref a_TRUE), (.ref a_TRUE)])) X66 hx rfl rfl rfl (pc0 := 176) (pc' := 179) (same := true) rfl (hb hby at_176) rfl (decide_eq_true rfl) (by decide) (by decide) k) ?_
      show own_Fin p e below G (T66.setTop (mkF m 179 #[iv p1, iv p2, iv (1 : Int32), iv (1 : Int32), rv a_TRUE, rv a_TRUE, iv (1 : Int32), iv (1 : Int32), iv (1 : Int32), .unset] []))
      refine own_st (fun _ k => XS.iconst X66.here hx rfl (hb hby at_179) k) ?_
      show own_Fin p e below G (T66.setTop (mkF m 180 #[iv p1, iv p2, iv (1 : Int32), iv (1 : Int32), rv a_TRUE, rv a_TRUE, iv (1 : Int32), iv (1 : Int32), iv (1 : Int32), .unset] [(.int (1 : Int32))]))
      refine own_st (fun _ k => XS.goto X66.here hx rfl (pc0 := 180) (pc' := 184) rfl (hb hby at_180) (by decide) (by decide) k) ?_
      show own_Fin p e below G (T66.setTop (mkF m 184 #[iv p1, iv p2, iv (1 : Int32), iv (1 : Int32), rv a_TRUE, rv a_TRUE, iv (1 : Int32), iv (1 : Int32), iv (1 : Int32), .unset] [(.int (1 : Int32))]))
      refine own_st (fun _ k => XS.istore X66.here hx rfl (hb hby at_184) rfl (l' := #[iv p1, iv p2, iv (1 : Int32), iv (1 : Int32), rv a_TRUE, rv a_TRUE, iv (1 : Int32), iv (1 : Int32), iv (1 : Int32), iv (1 : Int32)]) rfl k) ?_
      show own_Fin p e below G (T66.setTop (mkF m 186 #[iv p1, iv p2, iv (1 : Int32), iv (1 : Int32), rv a_TRUE, rv a_TRUE, iv (1 : Int32), iv (1 : Int32), iv (1 : Int32), iv (1 : Int32)] []))
      refine own_st (fun _ k => XS.iload X66.here hx rfl (hb hby at_186) rfl  k) ?_
      show own_Fin p e below G (T66.setTop (mkF m 188 #[iv p1, iv p2, iv (1 : Int32), iv (1 : Int32), rv a_TRUE, rv a_TRUE, iv (1 : Int32), iv (1 : Int32), iv (1 : Int32), iv (1 : Int32)] [(.int (1 : Int32))]))
      refine own_st (fun _ k => XS.ifNo X66.here hx rfl (hb hby at_188) rfl ((if0 _ _).trans (feq (by decide : ¬ ((1 : Int32) = (0 : Int32)))).1) k) ?_
      show own_Fin p e below G (T66.setTop (mkF m 191 #[iv p1, iv p2, iv (1 : Int32), iv (1 : Int32), rv a_TRUE, rv a_TRUE, iv (1 : Int32), iv (1 : Int32), iv (1 : Int32), iv (1 : Int32)] []))
      refine own_st (fun _ k => XS.iload X66.here hx rfl (hb hby at_191) rfl  k) ?_
      show own_Fin p e below G (T66.setTop (mkF m 193 #[iv p1, iv p2, iv (1 : Int32), iv (1 : Int32), rv a_TRUE, rv a_TRUE, iv (1 : Int32), iv (1 : Int32), iv (1 : Int32), iv (1 : Int32)] [(.int (1 : Int32))]))
      refine own_st (fun _ k => XS.ifNo X66.here hx rfl (hb hby at_193) rfl ((if0 _ _).trans (feq (by decide : ¬ ((1 : Int32) = (0 : Int32)))).1) k) ?_
      show own_Fin p e below G (T66.setTop (mkF m 196 #[iv p1, iv p2, iv (1 : Int32), iv (1 : Int32), rv a_TRUE, rv a_TRUE, iv (1 : Int32), iv (1 : Int32), iv (1 : Int32), iv (1 : Int32)] []))
      refine own_st (fun _ k => XS.iload X66.here hx rfl (hb hby at_196) rfl  k) ?_
      show own_Fin p e below G (T66.setTop (mkF m 198 #[iv p1, iv p2, iv (1 : Int32), iv (1 : Int32), rv a_TRUE, rv a_TRUE, iv (1 : Int32), iv (1 : Int32), iv (1 : Int32), iv (1 : Int32)] [(.int (1 : Int32))]))
      refine own_st (fun _ k => XS.ifNo X66.here hx rfl (hb hby at_198) rfl ((if0 _ _).trans (feq (by decide : ¬ ((1 : Int32) = (0 : Int32)))).1) k) ?_
      show own_Fin p e below G (T66.setTop (mkF m 201 #[iv p1, iv p2, iv (1 : Int32), iv (1 : Int32), rv a_TRUE, rv a_TRUE, iv (1 : Int32), iv (1 : Int32), iv (1 : Int32), iv (1 : Int32)] []))
      refine own_st (fun _ k => XS.iload X66.here hx rfl (hb hby at_201) rfl  k) ?_
      show own_Fin p e below G (T66.setTop (mkF m 203 #[iv p1, iv p2, iv (1 : Int32), iv (1 : Int32), rv a_TRUE, rv a_TRUE, iv (1 : Int32), iv (1 : Int32), iv (1 : Int32), iv (1 : Int32)] [(.int (1 : Int32))]))
      refine own_st (fun _ k => XS.ifNo X66.here hx rfl (hb hby at_203) rfl ((if0 _ _).trans (feq (by decide : ¬ ((1 : Int32) = (0 : Int32)))).1) k) ?_
      show own_Fin p e below G (T66.setTop (mkF m 206 #[iv p1, iv p2, iv (1 : Int32), iv (1 : Int32), rv a_TRUE, rv a_TRUE, iv (1 : Int32), iv (1 : Int32), iv (1 : Int32), iv (1 : Int32)] []))
      refine own_st (fun _ k => XS.iconst X66.here hx rfl (hb hby at_206) k) ?_
      show own_Fin p e below G (T66.setTop (mkF m 207 #[iv p1, iv p2, iv (1 : Int32), iv (1 : Int32), rv a_TRUE, rv a_TRUE, iv (1 : Int32), iv (1 : Int32), iv (1 : Int32), iv (1 : Int32)] [(.int (1 : Int32))]))
      refine own_st (fun _ k => XS.goto X66.here hx rfl (pc0 := 207) (pc' := 211) rfl (hb hby at_207) (by decide) (by decide) k) ?_
      show own_Fin p e below G (T66.setTop (mkF m 211 #[iv p1, iv p2, iv (1 : Int32), iv (1 : Int32), rv a_TRUE, rv a_TRUE, iv (1 : Int32), iv (1 : Int32), iv (1 : Int32), iv (1 : Int32)] [(.int (1 : Int32))]))
      refine own_out X66 Bd.notSynchronized (v := (some (.int (1 : Int32)))) (fun h => by rw [Bd.returns] at h; cases h) hG (fun fs hr => retN X66 hx (t := .boolean) Bd.returns (by simp) (hb hby at_211) hr) (by decide) (by decide) ?_
      exact ⟨rfl, N66⟩

set_option maxRecDepth 65536 in
set_option maxHeartbeats 40000000 in
theorem comes_1 {Post : Tables → Env → Array Value → State → Outcome → State → Prop} (hpost : ∀ tb e args s v u, (limb_1_1.after args s (.returned v) u = true ∧ limb_1_2.after args s (.returned v) u = true ∧ True) → FrameEnd s (.returned v) u (Jvm.fieldLocs frame_1_writes args s ++ Jvm.arrayLocs frame_1_arrays args s ++ Jvm.staticLocs frame_1_statics s) 0 0 → Post tb e args s (.returned v) u) :
    ArmFor flags0 classFile x code maxLocals ret World_1 tables_1 room_1 Calls_1 rest_1 Pre_1 Post := by
  intro l hfl _ _ p e ha hc hk s m args below hf hA hF happ hP
  obtain ⟨hcalls, hrest, hpre⟩ := hP
  obtain ⟨-, -, -, hnamed, -, -, -, hat⟩ := (Spec.applies_iff hf).mp happ
  obtain ⟨hg, hn⟩ := and_e (Cond.before_iff.mp (show (Jvm.Cond.and given_1 narrow_1).before args s = true from hpre))
  obtain ⟨hg0, hh0⟩ := and_e hg
  obtain ⟨hg1, hh1⟩ := and_e hh0
  obtain ⟨w0, w1, rfl⟩ : ∃ w0 w1 : Value, args = #[w0, w1] := by
    have hs : args.size = 2 := by simpa [Cond.value, given_1] using hg0
    obtain ⟨L⟩ := args
    match L, hs with
    | [w0, w1], _ => exact ⟨w0, w1, rfl⟩
  have hw := fun d (hd : d ∈ tables_1) => atoms_spec (ws := Jvm.Cond.code x code maxLocals ret :: tables_1) hat d (List.mem_cons_of_mem _ hd)
  have hfit : Fit s := fun {y c} hc i hi => by
    obtain ⟨ha, rfl⟩ := Array.getElem?_eq_some_iff.mp hc
    have q := List.all_eq_true.mp ((Array.all_eq_true_iff_forall_mem.mp hF) _ (Array.getElem_mem ha)) i (List.mem_range.mpr hi)
    simpa [Array.getElem?_eq_getElem hi] using q
  obtain ⟨i0, ei0⟩ := is_v hg1
  obtain rfl : w0 = (.int i0) := Option.some.inj ei0
  obtain ⟨i1, ei1⟩ := is_v hh1
  obtain rfl : w1 = (.int i1) := Option.some.inj ei1
  obtain ⟨hn0, hm0⟩ := and_e hn
  obtain ⟨hn1, hm1⟩ := and_e hm0
  obtain ⟨hn2, hm2⟩ := and_e hm1
  obtain ⟨hn3, hm3⟩ := and_e hm2
  obtain ⟨hn4, hm4⟩ := and_e hm3
  obtain ⟨a_FALSE, ea_FALSE⟩ := exa_v hn0
  have Ea_FALSE := Exa.start ea_FALSE hn0
  have Sa_FALSE := Sta.start ea_FALSE (Or.inr ⟨(own_w hw 2 rfl), (own_w hw 5 rfl)⟩)
  obtain ⟨a_TRUE, ea_TRUE⟩ := exa_v hn1
  have Ea_TRUE := Exa.start ea_TRUE hn1
  have Sa_TRUE := Sta.start ea_TRUE (Or.inr ⟨(own_w hw 2 rfl), (own_w hw 7 rfl)⟩)
  obtain ⟨a_UNKNOWN, ea_UNKNOWN⟩ := exa_v hn4
  have Ea_UNKNOWN := Exa.start ea_UNKNOWN hn4
  have Sa_UNKNOWN := Sta.start ea_UNKNOWN (Or.inr ⟨(own_w hw 2 rfl), (own_w hw 11 rfl)⟩)
  have Fa_FALSE_ordinal := Fld.start ((fld_at ea_FALSE).symm.trans (own_eqI hn2))
  have Fa_TRUE_ordinal := Fld.start ((fld_at ea_TRUE).symm.trans (own_eqI hn3))
  have Fa_UNKNOWN_ordinal := Fld.start ((fld_at ea_UNKNOWN).symm.trans (own_eqI hm4))
  obtain ⟨cM, kM, mr, hM⟩ := hcalls.1
  obtain ⟨n, o, h1, h2, h3, _, L, rfl, ⟨rfl, N⟩, hq⟩ := rm0 l s _ hw tables_1 i0 i1 a_FALSE a_UNKNOWN a_TRUE mr s.heap s.heap.size (Nat.le_refl _) Ea_FALSE Sa_FALSE Ea_TRUE Sa_TRUE Ea_UNKNOWN Sa_UNKNOWN Fa_FALSE_ordinal Fa_TRUE_ordinal Fa_UNKNOWN_ordinal ⟨cM, kM, hM.1, hM.2.1, hM.2.2.1⟩ p e ha hc hk s m _ below hf ((Spec.applies_iff_loose hf).mp happ).1 ⟨rfl, State.Warmed39.refl s, rfl⟩ trivial
  refine ⟨n, _, h1, h2, h3, hpost _ _ _ _ _ _ ⟨Cond.after_iff.mpr rfl, Cond.after_iff.mpr (eq_i res_at (Term.int_eval (1)) rfl), trivial⟩ ⟨hq.1, hq.2.1, (hq.2.2.sift fun y hy => Or.inr (N y hy)).mono (by decide) (by decide)⟩⟩
theorem main_1_1 : Claimed_1_1 := comes_1 fun _ _ _ _ _ _ h hF => ⟨h.1, hF⟩
theorem main_1_2 : Claimed_1_2 := comes_1 fun _ _ _ _ _ _ h hF => ⟨h.2.1, hF⟩
end Jvm.Pilot.@@N@@
namespace Jvm.Pilot.@@N@@
open Jvm Jvm.ClassFile Sem Op Lib Jvm.Free Jvm.Stand Jvm.Pilot.@@N@@.Jvm.D
/-! MADE BY PROGRAM (witnessworld.py) out of the Statement's table words and the real class files: 13 classes; the members and pool entries that the words name. The judged class is class 1, her method 1. -/
namespace start1
open Jvm.ClassFile
def u (s : String) : CpInfo := .utf8 (stringToUtf16 s)
/-- a pool by its gaps: so many unusable entries, then the entry; so many at the end -/
def gap : Nat → List CpInfo → List CpInfo
  | 0, r => r
  | n + 1, r => .unusable :: gap n r
def poolList (es : List (Nat × CpInfo)) (last : Nat) : List CpInfo := es.foldr (fun e r => gap e.1 (e.2 :: r)) (gap last [])
def pool (es : List (Nat × CpInfo)) (last : Nat) : Array CpInfo := ⟨poolList es last⟩
def fileOf (pool : Array CpInfo) (this : Nat) (attrs : Array Attribute := #[]) (ms : Array MethodInfo := #[]) (fl : Nat := 33) (sup : Nat := 0) (ifs : Array Nat := #[]) (fds : Array FieldInfo := #[]) : ClassFile where
  minorVersion := 0
  majorVersion := 65
  constantPool := pool
  accessFlags := fl
  thisClass := this
  superClass := sup
  interfaces := ifs
  fields := fds
  methods := ms
  attributes := attrs
def plain (name : String) (sup : Option ClassId) : Class where
  name := name
  kind := .ordinary
  loader := none
  accessFlags := 33
  super := sup
  interfaces := #[]
  cf := none
  fields := #[]
  methods := #[]
  instanceTypes := #[]
  staticTypes := #[]
  resolved := #[]
  callSites := []
  init := .initialized
  statics := none
  mirror := none

def pool0 : Array CpInfo := pool [(5, u "<init>"), (0, u "()V"), (1, .class_ 10), (1, u "java/lang/Object"), (0, u "getClass"), (0, u "()Ljava/lang/Class;")] 111

def k0m0 : Method := { name := "<init>", desc := "()V", sig := { parameters := [], returnType := none }, accessFlags := 1, code := none }
def k0m1 : Method := { name := "getClass", desc := "()Ljava/lang/Class;", sig := { parameters := [], returnType := some (.object "java/lang/Class") }, accessFlags := 273, code := none }
/-- java/lang/Object -/
def k0 : Class := { plain "java/lang/Object" none with
  accessFlags := 33
  interfaces := #[]
  cf := some (fileOf pool0 8 #[] #[{ accessFlags := 1, nameIndex := 5, descriptorIndex := 6, attributes := #[] }, { accessFlags := 273, nameIndex := 11, descriptorIndex := 12, attributes := #[] }] 33 0 #[] #[])
  fields := #[]
  methods := #[k0m0, k0m1]
  instanceTypes := #[]
  staticTypes := #[]
  resolved := Array.replicate 124 none
  statics := none }

def pool1 : Array CpInfo := pool [(2, .class_ 4), (1, u "java/lang/Object"), (0, u "<init>"), (0, u "()V"), (0, .methodref 8 9), (0, .class_ 10), (0, .nameAndType 11 12), (0, u "com/example/attributes_to_entitlements/attributestoentitlements/Truth"), (0, u "of"), (0, u "(Z)Lcom/example/attributes_to_entitlements/attributestoentitlements/Truth;"), (0, .fieldref 8 14), (0, .nameAndType 15 16), (0, u "TRUE"), (0, u "Lcom/example/attributes_to_entitlements/attributestoentitlements/Truth;"), (0, .fieldref 8 18), (0, .nameAndType 19 16), (0, u "FALSE"), (0, .fieldref 8 21), (0, .nameAndType 22 16), (0, u "UNKNOWN"), (0, .methodref 8 24), (0, .nameAndType 25 26), (0, u "not"), (0, u "()Lcom/example/attributes_to_entitlements/attributestoentitlements/Truth;"), (0, .methodref 8 28), (0, .nameAndType 29 30), (0, u "and"), (0, u "(Lcom/example/attributes_to_entitlements/attributestoentitlements/Truth;)Lcom/example/attributes_to_entitlements/attributestoentitlements/Truth;"), (0, .methodref 8 32), (0, .nameAndType 33 30), (0, u "or"), (0, .class_ 35), (0, u "com/example/attributes_to_entitlements/attributestoentitlements/TruthOfPinLaw"), (2, u "law"), (0, u "(II)Z")] 3

def k1m0 : Method := { name := "<init>", desc := "()V", sig := { parameters := [], returnType := none }, accessFlags := 1, code := none }
def k1c1 : Code := { maxStack := 3, maxLocals := 10, code := code, exceptionTable := #[], attributes := #[] }
def k1m1 : Method := { name := "law", desc := "(II)Z", sig := { parameters := [.int, .int], returnType := some .boolean }, accessFlags := 9, code := some k1c1 }
/-- com/example/attributes_to_entitlements/attributestoentitlements/TruthOfPinLaw -/
def k1 : Class := { plain "com/example/attributes_to_entitlements/attributestoentitlements/TruthOfPinLaw" (some 0) with
  accessFlags := 49
  interfaces := #[]
  cf := some (fileOf pool1 34 #[] #[{ accessFlags := 1, nameIndex := 5, descriptorIndex := 6, attributes := #[] }, { accessFlags := 9, nameIndex := 38, descriptorIndex := 39, attributes := #[] }] 49 2 #[] #[])
  fields := #[]
  methods := #[k1m0, k1m1]
  instanceTypes := #[]
  staticTypes := #[]
  resolved := Array.replicate 43 none
  statics := none }

def pool2 : Array CpInfo := pool [(1, .class_ 2), (0, u "java/lang/constant/Constable"), (0, .class_ 4), (0, u "java/lang/Object")] 6

/-- java/lang/constant/Constable -/
def k2 : Class := { plain "java/lang/constant/Constable" (some 0) with
  accessFlags := 1537
  interfaces := #[]
  cf := some (fileOf pool2 1 #[] #[] 1537 3 #[] #[])
  fields := #[]
  methods := #[]
  instanceTypes := #[]
  staticTypes := #[]
  resolved := Array.replicate 11 none
  statics := none }

def pool3 : Array CpInfo := pool [(1, .class_ 2), (0, u "java/lang/Comparable"), (0, .class_ 4), (0, u "java/lang/Object")] 7

/-- java/lang/Comparable -/
def k3 : Class := { plain "java/lang/Comparable" (some 0) with
  accessFlags := 1537
  interfaces := #[]
  cf := some (fileOf pool3 1 #[] #[] 1537 3 #[] #[])
  fields := #[]
  methods := #[]
  instanceTypes := #[]
  staticTypes := #[]
  resolved := Array.replicate 12 none
  statics := none }

def pool4 : Array CpInfo := pool [(1, .class_ 2), (0, u "java/io/Serializable"), (0, .class_ 4), (0, u "java/lang/Object")] 2

/-- java/io/Serializable -/
def k4 : Class := { plain "java/io/Serializable" (some 0) with
  accessFlags := 1537
  interfaces := #[]
  cf := some (fileOf pool4 1 #[] #[] 1537 3 #[] #[])
  fields := #[]
  methods := #[]
  instanceTypes := #[]
  staticTypes := #[]
  resolved := Array.replicate 7 none
  statics := none }

def pool5 : Array CpInfo := pool [(2, .class_ 4), (1, u "java/lang/Enum"), (0, u "name"), (0, u "Ljava/lang/String;"), (0, .fieldref 2 8), (0, .nameAndType 9 10), (0, u "ordinal"), (0, u "I"), (1, .class_ 14), (1, u "java/lang/Object"), (4, u "hash"), (9, .methodref 12 30), (0, .nameAndType 31 32), (0, u "getClass"), (0, u "()Ljava/lang/Class;"), (70, u "compareTo"), (0, u "(Ljava/lang/Enum;)I"), (1, .class_ 108), (1, u "java/lang/Enum$EnumDesc"), (2, .class_ 112), (0, u "java/lang/constant/Constable"), (0, .class_ 114), (0, u "java/lang/Comparable"), (0, .class_ 116), (0, u "java/io/Serializable"), (9, u "()I")] 77

def k5c0 : Code := { maxStack := 1, maxLocals := 1, code := jdk_37_method_2_code, exceptionTable := #[], attributes := #[] }
def k5m0 : Method := { name := "ordinal", desc := "()I", sig := { parameters := [], returnType := some .int }, accessFlags := 17, code := some k5c0 }
def k5c1 : Code := { maxStack := 2, maxLocals := 4, code := jdk_37_method_8_code, exceptionTable := #[], attributes := #[] }
def k5m1 : Method := { name := "compareTo", desc := "(Ljava/lang/Enum;)I", sig := { parameters := [(.object "java/lang/Enum")], returnType := some .int }, accessFlags := 17, code := some k5c1 }
/-- java/lang/Enum -/
def k5 : Class := { plain "java/lang/Enum" (some 0) with
  accessFlags := 1057
  interfaces := #[2, 3, 4]
  cf := some (fileOf pool5 2 #[.nestMembers #[106]] #[{ accessFlags := 17, nameIndex := 9, descriptorIndex := 126, attributes := #[] }, { accessFlags := 17, nameIndex := 103, descriptorIndex := 104, attributes := #[] }] 1057 12 #[111, 113, 115] #[{ accessFlags := 18, nameIndex := 5, descriptorIndex := 6, attributes := #[] }, { accessFlags := 18, nameIndex := 9, descriptorIndex := 10, attributes := #[] }, { accessFlags := 2, nameIndex := 19, descriptorIndex := 10, attributes := #[] }])
  fields := #[{ name := "name", type := (.object "java/lang/String"), accessFlags := 18, slot := 0, constantValue := 0 }, { name := "ordinal", type := .int, accessFlags := 18, slot := 1, constantValue := 0 }, { name := "hash", type := .int, accessFlags := 2, slot := 2, constantValue := 0 }]
  methods := #[k5m0, k5m1]
  instanceTypes := #[(.object "java/lang/String"), .int, .int]
  staticTypes := #[]
  resolved := Array.replicate 204 none
  statics := none }

def pool6 : Array CpInfo := pool [(1, .class_ 2), (0, u "com/example/attributes_to_entitlements/attributestoentitlements/Truth"), (0, .fieldref 1 4), (0, .nameAndType 5 6), (0, u "FALSE"), (0, u "Lcom/example/attributes_to_entitlements/attributestoentitlements/Truth;"), (2, u "UNKNOWN"), (0, .fieldref 1 11), (0, .nameAndType 12 6), (0, u "TRUE"), (2, u "$VALUES"), (0, u "[Lcom/example/attributes_to_entitlements/attributestoentitlements/Truth;"), (6, .class_ 25), (1, u "java/lang/Enum"), (6, .methodref 1 33), (0, .nameAndType 34 35), (0, u "ordinal"), (0, u "()I"), (5, .methodref 1 42), (0, .nameAndType 43 44), (0, u "compareTo"), (0, u "(Ljava/lang/Enum;)I"), (15, u "of"), (0, u "(Z)Lcom/example/attributes_to_entitlements/attributestoentitlements/Truth;"), (1, u "not"), (0, u "()Lcom/example/attributes_to_entitlements/attributestoentitlements/Truth;"), (0, u "and"), (0, u "(Lcom/example/attributes_to_entitlements/attributestoentitlements/Truth;)Lcom/example/attributes_to_entitlements/attributestoentitlements/Truth;"), (0, u "or")] 4

def k6c0 : Code := { maxStack := 1, maxLocals := 1, code := prog_15_method_4_code, exceptionTable := #[], attributes := #[] }
def k6m0 : Method := { name := "of", desc := "(Z)Lcom/example/attributes_to_entitlements/attributestoentitlements/Truth;", sig := { parameters := [.boolean], returnType := some (.object "com/example/attributes_to_entitlements/attributestoentitlements/Truth") }, accessFlags := 8, code := some k6c0 }
def k6c1 : Code := { maxStack := 4, maxLocals := 1, code := prog_15_method_5_code, exceptionTable := #[], attributes := #[] }
def k6m1 : Method := { name := "not", desc := "()Lcom/example/attributes_to_entitlements/attributestoentitlements/Truth;", sig := { parameters := [], returnType := some (.object "com/example/attributes_to_entitlements/attributestoentitlements/Truth") }, accessFlags := 0, code := some k6c1 }
def k6c2 : Code := { maxStack := 2, maxLocals := 2, code := prog_15_method_6_code, exceptionTable := #[], attributes := #[] }
def k6m2 : Method := { name := "and", desc := "(Lcom/example/attributes_to_entitlements/attributestoentitlements/Truth;)Lcom/example/attributes_to_entitlements/attributestoentitlements/Truth;", sig := { parameters := [(.object "com/example/attributes_to_entitlements/attributestoentitlements/Truth")], returnType := some (.object "com/example/attributes_to_entitlements/attributestoentitlements/Truth") }, accessFlags := 0, code := some k6c2 }
def k6c3 : Code := { maxStack := 2, maxLocals := 2, code := prog_15_method_7_code, exceptionTable := #[], attributes := #[] }
def k6m3 : Method := { name := "or", desc := "(Lcom/example/attributes_to_entitlements/attributestoentitlements/Truth;)Lcom/example/attributes_to_entitlements/attributestoentitlements/Truth;", sig := { parameters := [(.object "com/example/attributes_to_entitlements/attributestoentitlements/Truth")], returnType := some (.object "com/example/attributes_to_entitlements/attributestoentitlements/Truth") }, accessFlags := 0, code := some k6c3 }
/-- com/example/attributes_to_entitlements/attributestoentitlements/Truth -/
def k6 : Class := { plain "com/example/attributes_to_entitlements/attributestoentitlements/Truth" (some 5) with
  accessFlags := 16432
  interfaces := #[]
  cf := some (fileOf pool6 1 #[] #[{ accessFlags := 8, nameIndex := 60, descriptorIndex := 61, attributes := #[] }, { accessFlags := 0, nameIndex := 63, descriptorIndex := 64, attributes := #[] }, { accessFlags := 0, nameIndex := 65, descriptorIndex := 66, attributes := #[] }, { accessFlags := 0, nameIndex := 67, descriptorIndex := 66, attributes := #[] }] 16432 23 #[] #[{ accessFlags := 16409, nameIndex := 5, descriptorIndex := 6, attributes := #[] }, { accessFlags := 16409, nameIndex := 9, descriptorIndex := 6, attributes := #[] }, { accessFlags := 16409, nameIndex := 12, descriptorIndex := 6, attributes := #[] }, { accessFlags := 4122, nameIndex := 15, descriptorIndex := 16, attributes := #[] }])
  fields := #[{ name := "FALSE", type := (.object "com/example/attributes_to_entitlements/attributestoentitlements/Truth"), accessFlags := 16409, slot := 0, constantValue := 0 }, { name := "UNKNOWN", type := (.object "com/example/attributes_to_entitlements/attributestoentitlements/Truth"), accessFlags := 16409, slot := 1, constantValue := 0 }, { name := "TRUE", type := (.object "com/example/attributes_to_entitlements/attributestoentitlements/Truth"), accessFlags := 16409, slot := 2, constantValue := 0 }, { name := "$VALUES", type := (.array (.object "com/example/attributes_to_entitlements/attributestoentitlements/Truth")), accessFlags := 4122, slot := 3, constantValue := 0 }]
  methods := #[k6m0, k6m1, k6m2, k6m3]
  instanceTypes := #[(.object "java/lang/String"), .int, .int]
  staticTypes := #[(.object "com/example/attributes_to_entitlements/attributestoentitlements/Truth"), (.object "com/example/attributes_to_entitlements/attributestoentitlements/Truth"), (.object "com/example/attributes_to_entitlements/attributestoentitlements/Truth"), (.array (.object "com/example/attributes_to_entitlements/attributestoentitlements/Truth"))]
  resolved := Array.replicate 72 none
  mirror := some 1
  statics := some 0 }

def pool7 : Array CpInfo := pool [(1, u "java/lang/Class"), (0, .class_ 1), (0, u "java/lang/Object"), (0, .class_ 3)] 3

/-- java/lang/Class -/
def k7 : Class := { plain "java/lang/Class" (some 0) with
  accessFlags := 49
  interfaces := #[]
  cf := some (fileOf pool7 2 #[] #[] 49 4 #[] #[])
  fields := #[]
  methods := #[]
  instanceTypes := #[]
  staticTypes := #[]
  resolved := Array.replicate 8 none
  statics := none }

def pool8 : Array CpInfo := pool [(1, u "java/lang/Cloneable"), (0, .class_ 1), (0, u "java/lang/Object"), (0, .class_ 3)] 3

/-- java/lang/Cloneable -/
def k8 : Class := { plain "java/lang/Cloneable" (some 0) with
  accessFlags := 1537
  interfaces := #[]
  cf := some (fileOf pool8 2 #[] #[] 1537 4 #[] #[])
  fields := #[]
  methods := #[]
  instanceTypes := #[]
  staticTypes := #[]
  resolved := Array.replicate 8 none
  statics := none }

/-- the primitive byte -/
def k9 : Class := { plain "byte" none with kind := .primitive 'B', accessFlags := 0x411 }
/-- [B -/
def k10 : Class := { plain "[B" (some 0) with kind := .array 9 .byte, interfaces := #[8, 4], accessFlags := 1041 }

/-- the primitive int -/
def k11 : Class := { plain "int" none with kind := .primitive 'I', accessFlags := 0x411 }
/-- [I -/
def k12 : Class := { plain "[I" (some 0) with kind := .array 11 .int, interfaces := #[8, 4], accessFlags := 1041 }

def heap : Heap := #[{ cls := 6, slots := #[.ref 2, .ref 4, .ref 3, .null], vm := .statics 6 },
  { cls := 7, slots := #[], vm := .mirror 6 },
  { cls := 6, slots := #[.null, .int 0, .int 0], vm := .none },
  { cls := 6, slots := #[.null, .int 2, .int 0], vm := .none },
  { cls := 6, slots := #[.null, .int 1, .int 0], vm := .none }]
def classes : Array Class := #[k0, k1, k2, k3, k4, k5, k6, k7, k8, k9, k10, k11, k12]
def interned : List (Array UInt16 × Addr) := []
def slotsUsed : Nat := 13
def theMethod : MethodId := ⟨1, 1⟩
def args0 : Array Value := #[.int 5, .int 8]
def aboutOver (below : List Frame) : State where
  vm := { classes := classes, interned := interned.toArray }
  heap := heap
  slotsUsed := slotsUsed
  threads := #[{ frames := .invoking theMethod args0 :: below }]
def below0 : List Frame := [.native { method := ⟨0, 0⟩, args := #[] }]
def about1 : State := aboutOver below0
def p0 : Program := .bare "" "" ""
def e0 : Env := launch0.env 0 0 0
theorem w_frames : about1.frames = Frame.invoking theMethod args0 :: below0 := rfl
set_option maxRecDepth 65536 in
theorem w_args : argsFit about1.vm theMethod args0 = true := by decide +kernel
set_option maxRecDepth 65536 in
theorem w_heap : heapFits about1 = true := by decide +kernel
set_option maxRecDepth 65536 in
theorem w_runnable : about1.curStatus? = some .runnable := by decide +kernel
set_option maxRecDepth 65536 in
theorem w_alone : about1.alone = true := by decide +kernel
set_option maxRecDepth 65536 in
theorem w_named : about1.methodNamed? x = some theMethod := by decide +kernel
set_option maxRecDepth 65536 in
theorem w_hears : about1.hears theMethod below0 = true := by decide +kernel
set_option maxRecDepth 65536 in
theorem w_ripe : about1.ripe theMethod args0 below0 = true := by decide +kernel
theorem w_running : about1.status = .running := rfl
set_option maxRecDepth 65536 in
theorem w_room : about1.hasRoom e0.platform room_1 = true :=
  launch0.hasRoom_least _ room_1 (by decide +kernel) (by decide +kernel) (by decide +kernel) (by decide +kernel) (by decide +kernel) (by decide +kernel)
theorem allAtoms_all (ts : List Jvm.Cond) (a : Array Jvm.Value) (st : Jvm.State) : (allAtoms ts).before a st = ts.all (fun c => c.before a st) := by
  induction ts with
  | nil => rfl
  | cons c t ih =>
    show (Jvm.Cond.and c (allAtoms t)).before a st = _
    rw [Jvm.Cond.before_and, ih, List.all_cons]
def words1 : List Jvm.Cond := Jvm.Cond.code x code maxLocals ret :: tables_1
/-- a 'code' word, met by the world's own term for the bytes: nothing is compared byte by byte -/
theorem code_word {y : MethodName} {bytes : ByteArray} {mx : Nat} {rt : Option FieldType} {a : Array Value} {s : State} {m : MethodId} {meth : Method} {c : Code} (h1 : s.methodNamed? y = some m) (h2 : s.vm.method? m = some meth) (h3 : meth.code = some c) (h4 : c.code = bytes)
    (h5 : (c.maxLocals == mx && c.exceptionTable.isEmpty && decide (c.maxStack ≤ mostOperands) && decide (meth.sig.returnType = rt) && !meth.locks && decide (parseMethodDescriptor y.desc = some meth.sig)) = true) : (Jvm.Cond.code y bytes mx rt).before a s = true := by
  simp only [Bool.and_eq_true, beq_iff_eq, Bool.not_eq_true', decide_eq_true_eq] at h5
  obtain ⟨⟨⟨⟨⟨g1, g2⟩, g3⟩, g4⟩, g5⟩, g6⟩ := h5
  simp [Cond.before, Cond.holds, Cond.value, h1, h2, h3, h4, g1, g2, g3, g4, g5, g6]
def isCode : Jvm.Cond → Bool
  | .code _ _ _ _ => true
  | _ => false
theorem all_split {L : List Jvm.Cond} {P : Jvm.Cond → Bool} (h1 : L.all (fun c => isCode c || P c) = true) (h2 : ∀ c ∈ L.filter isCode, P c = true) : L.all P = true := by
  refine List.all_eq_true.mpr fun c hc => ?_
  have h := List.all_eq_true.mp h1 c hc
  rcases Bool.eq_false_or_eq_true (isCode c) with hi | hi
  · exact h2 c (List.mem_filter.mpr ⟨hc, hi⟩)
  · simpa [hi] using h
set_option maxRecDepth 65536 in
theorem w_c0 : (Jvm.Cond.code x code maxLocals ret).before args0 about1 = true := code_word (m := ⟨1, 1⟩) (meth := k1m1) (c := k1c1) (by decide +kernel) rfl rfl rfl (by decide +kernel)
set_option maxRecDepth 65536 in
theorem w_c1 : (Jvm.Cond.code ({ cls := "com/example/attributes_to_entitlements/attributestoentitlements/Truth", name := "of", desc := "(Z)Lcom/example/attributes_to_entitlements/attributestoentitlements/Truth;" } : Jvm.MethodName) prog_15_method_4_code (1 : Nat) (Option.some (Jvm.ClassFile.FieldType.object "com/example/attributes_to_entitlements/attributestoentitlements/Truth"))).before args0 about1 = true := code_word (m := ⟨6, 0⟩) (meth := k6m0) (c := k6c0) (by decide +kernel) rfl rfl rfl (by decide +kernel)
set_option maxRecDepth 65536 in
theorem w_c2 : (Jvm.Cond.code ({ cls := "com/example/attributes_to_entitlements/attributestoentitlements/Truth", name := "not", desc := "()Lcom/example/attributes_to_entitlements/attributestoentitlements/Truth;" } : Jvm.MethodName) prog_15_method_5_code (1 : Nat) (Option.some (Jvm.ClassFile.FieldType.object "com/example/attributes_to_entitlements/attributestoentitlements/Truth"))).before args0 about1 = true := code_word (m := ⟨6, 1⟩) (meth := k6m1) (c := k6c1) (by decide +kernel) rfl rfl rfl (by decide +kernel)
set_option maxRecDepth 65536 in
theorem w_c3 : (Jvm.Cond.code ({ cls := "java/lang/Enum", name := "ordinal", desc := "()I" } : Jvm.MethodName) jdk_37_method_2_code (1 : Nat) (Option.some Jvm.ClassFile.FieldType.int)).before args0 about1 = true := code_word (m := ⟨5, 0⟩) (meth := k5m0) (c := k5c0) (by decide +kernel) rfl rfl rfl (by decide +kernel)
set_option maxRecDepth 65536 in
theorem w_c4 : (Jvm.Cond.code ({ cls := "com/example/attributes_to_entitlements/attributestoentitlements/Truth", name := "and", desc := "(Lcom/example/attributes_to_entitlements/attributestoentitlements/Truth;)Lcom/example/attributes_to_entitlements/attributestoentitlements/Truth;" } : Jvm.MethodName) prog_15_method_6_code (2 : Nat) (Option.some (Jvm.ClassFile.FieldType.object "com/example/attributes_to_entitlements/attributestoentitlements/Truth"))).before args0 about1 = true := code_word (m := ⟨6, 2⟩) (meth := k6m2) (c := k6c2) (by decide +kernel) rfl rfl rfl (by decide +kernel)
set_option maxRecDepth 65536 in
theorem w_c5 : (Jvm.Cond.code ({ cls := "java/lang/Enum", name := "compareTo", desc := "(Ljava/lang/Enum;)I" } : Jvm.MethodName) jdk_37_method_8_code (4 : Nat) (Option.some Jvm.ClassFile.FieldType.int)).before args0 about1 = true := code_word (m := ⟨5, 1⟩) (meth := k5m1) (c := k5c1) (by decide +kernel) rfl rfl rfl (by decide +kernel)
set_option maxRecDepth 65536 in
theorem w_c6 : (Jvm.Cond.code ({ cls := "com/example/attributes_to_entitlements/attributestoentitlements/Truth", name := "or", desc := "(Lcom/example/attributes_to_entitlements/attributestoentitlements/Truth;)Lcom/example/attributes_to_entitlements/attributestoentitlements/Truth;" } : Jvm.MethodName) prog_15_method_7_code (2 : Nat) (Option.some (Jvm.ClassFile.FieldType.object "com/example/attributes_to_entitlements/attributestoentitlements/Truth"))).before args0 about1 = true := code_word (m := ⟨6, 3⟩) (meth := k6m3) (c := k6c3) (by decide +kernel) rfl rfl rfl (by decide +kernel)
def codes1 : List Jvm.Cond := [Jvm.Cond.code x code maxLocals ret, Jvm.Cond.code ({ cls := "com/example/attributes_to_entitlements/attributestoentitlements/Truth", name := "of", desc := "(Z)Lcom/example/attributes_to_entitlements/attributestoentitlements/Truth;" } : Jvm.MethodName) prog_15_method_4_code (1 : Nat) (Option.some (Jvm.ClassFile.FieldType.object "com/example/attributes_to_entitlements/attributestoentitlements/Truth")), Jvm.Cond.code ({ cls := "com/example/attributes_to_entitlements/attributestoentitlements/Truth", name := "not", desc := "()Lcom/example/attributes_to_entitlements/attributestoentitlements/Truth;" } : Jvm.MethodName) prog_15_method_5_code (1 : Nat) (Option.some (Jvm.ClassFile.FieldType.object "com/example/attributes_to_entitlements/attributestoentitlements/Truth")), Jvm.Cond.code ({ cls := "java/lang/Enum", name := "ordinal", desc := "()I" } : Jvm.MethodName) jdk_37_method_2_code (1 : Nat) (Option.some Jvm.ClassFile.FieldType.int), Jvm.Cond.code ({ cls := "com/example/attributes_to_entitlements/attributestoentitlements/Truth", name := "and", desc := "(Lcom/example/attributes_to_entitlements/attributestoentitlements/Truth;)Lcom/example/attributes_to_entitlements/attributestoentitlements/Truth;" } : Jvm.MethodName) prog_15_method_6_code (2 : Nat) (Option.some (Jvm.ClassFile.FieldType.object "com/example/attributes_to_entitlements/attributestoentitlements/Truth")), Jvm.Cond.code ({ cls := "java/lang/Enum", name := "compareTo", desc := "(Ljava/lang/Enum;)I" } : Jvm.MethodName) jdk_37_method_8_code (4 : Nat) (Option.some Jvm.ClassFile.FieldType.int), Jvm.Cond.code ({ cls := "com/example/attributes_to_entitlements/attributestoentitlements/Truth", name := "or", desc := "(Lcom/example/attributes_to_entitlements/attributestoentitlements/Truth;)Lcom/example/attributes_to_entitlements/attributestoentitlements/Truth;" } : Jvm.MethodName) prog_15_method_7_code (2 : Nat) (Option.some (Jvm.ClassFile.FieldType.object "com/example/attributes_to_entitlements/attributestoentitlements/Truth"))]
set_option maxRecDepth 65536 in
theorem codes_eq : words1.filter isCode = codes1 := rfl
theorem w_codes : ∀ c ∈ words1.filter isCode, c.before args0 about1 = true := by
  rw [codes_eq]
  intro c hc
  simp only [codes1, List.mem_cons, List.not_mem_nil, or_false] at hc
  rcases hc with rfl | rfl | rfl | rfl | rfl | rfl | rfl
  · exact w_c0
  · exact w_c1
  · exact w_c2
  · exact w_c3
  · exact w_c4
  · exact w_c5
  · exact w_c6
set_option maxRecDepth 65536 in
theorem w_t1 : (words1.take 24).all (fun c => isCode c || c.before args0 about1) = true := by decide +kernel
set_option maxRecDepth 65536 in
theorem w_t2 : ((words1.drop 24).take 24).all (fun c => isCode c || c.before args0 about1) = true := by decide +kernel
set_option maxRecDepth 65536 in
theorem w_t3 : ((words1.drop 24).drop 24).all (fun c => isCode c || c.before args0 about1) = true := by decide +kernel
theorem w_tables : (allAtoms (Jvm.Cond.code x code maxLocals ret :: tables_1)).before args0 about1 = true := by
  rw [allAtoms_all]
  show words1.all (fun c => c.before args0 about1) = true
  refine all_split ?_ w_codes
  rw [← List.take_append_drop 24 words1, List.all_append, w_t1, ← List.take_append_drop 24 (words1.drop 24), List.all_append, w_t2, w_t3]
  rfl
set_option maxRecDepth 65536 in
theorem w_case : (Jvm.Cond.and given_1 narrow_1).before args0 about1 = true := by decide +kernel
theorem w_applies : (headSpec (Jvm.Cond.code x code maxLocals ret :: tables_1) room_1).applies x e0.platform about1 = true :=
  (Spec.applies_iff w_frames).mpr ⟨w_running, w_runnable, w_alone, w_named, w_hears, w_ripe, w_room, w_tables⟩
theorem atStart : AtStart classFile x code maxLocals ret World_1 tables_1 room_1 Calls_1 rest_1 Pre_1 launch0 p0 e0 about1 theMethod args0 below0 :=
  ⟨lists_1, trivial, launch0.admits_env _ _ _, launch0.least_env, fairChoices_fair.cas, fairChoices_fair.clock, w_frames, w_args, w_heap, w_applies, ⟨⟨6, k6, 1, by decide +kernel, rfl, rfl, _, rfl, rfl⟩, trivial⟩, trivial, w_case⟩
end start1
theorem witness_1 : WitnessClaimed_1 := ⟨start1.p0, start1.e0, start1.about1, start1.theMethod, start1.args0, start1.below0, start1.atStart⟩
end Jvm.Pilot.@@N@@
