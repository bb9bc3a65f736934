import JvmDerived
import JvmDerived.Pilot.@@N@@Statement
import JvmDerived.Pilot.@@N@@Code
set_option linter.unusedVariables false
set_option linter.unusedSimpArgs false
@@BLOCK:NumsL.lean.txt@@
namespace Jvm.Pilot.@@N@@
open Jvm Jvm.ClassFile Sem Op Lib Jvm.Free Jvm.Stand Jvm.LawKit Jvm.RoadKit Bundle Jvm.Pilot.@@N@@.Jvm.D
/-! THE OWN KIT: a walk in small steps to the body's end -/
/-- from T with the frame g on top the body comes to its end, and what it leaves fulfils Q -/
def Dn (p : Program) (e : Env) (below : List Frame) (s : State) (Q : Option Value → Heap → List Loc → Prop) (k n : Nat) (T : State) (g : JFrame) : Prop :=
  ∃ s₂ o, Steps p.tables e below (T.setTop g) s₂ ∧ s₂.status = .running ∧ Ended s₂ below o ∧ ∃ v L, o = .returned v ∧ Q v s₂.heap L ∧ FrameEnd s o s₂ L k n
section OwnKit
variable {p : Program} {l : Launch} {e : Env} {R : Room} {s : State} {m : MethodId} {args : Array Value} {below : List Frame} {meth : Method} {c : Code} {T T' : State} {locs : List Loc} {cells slots : Nat} {Z : State} {h h' : Heap} {g g' : JFrame} {k n : Nat} {Q : Option Value → Heap → List Loc → Prop}
theorem Dn.st (f : ∀ t, Steps p.tables e below (T'.setTop g') t → Steps p.tables e below (T.setTop g) t) (d : Dn p e below s Q k n T' g') : Dn p e below s Q k n T g := by
  obtain ⟨s₂, o, h1, h2⟩ := d
  exact ⟨s₂, o, f _ h1, h2⟩
theorem Dn.tr (f : Steps p.tables e below (T.setTop g) (T'.setTop g')) (d : Dn p e below s Q k n T' g') : Dn p e below s Q k n T g := by
  obtain ⟨s₂, o, h1, h2⟩ := d
  exact ⟨s₂, o, f.trans h1, h2⟩
theorem Dn.cast (q : g = g') (d : Dn p e below s Q k n T g') : Dn p e below s Q k n T g := q ▸ d
theorem Dn.retI (X : Stand p l e R s m args below meth c T locs cells slots) (hx : p.tables.exec = Jvm.exec) (hk : meth.locks = false) {pc : Nat} {Ls : Array Slot} {z : Int32} {rest : List Value} (hret : meth.sig.returnType = some .int) (hd : decode c.code pc = .ok (.ireturn, 1)) (hQ : Q (some (.int z)) T.heap locs) (hc : cells ≤ k) (hs : slots ≤ n) :
    Dn p e below s Q k n T (mkF m pc Ls (.int z :: rest)) := by
  obtain ⟨fs, hr, hrun, hended, hW, hsame⟩ := X.leave (v := some (.int z)) (fun q => by rw [hret] at q; cases q) hk
  exact ⟨_, _, retOut X hx hret rfl (Or.inl ⟨rfl, Or.inl rfl, z, rfl⟩) hd hr, hrun, hended, _, _, rfl, hQ, ⟨_, rfl⟩, hW, hsame.mono hc hs⟩
theorem Dn.retZ (X : Stand p l e R s m args below meth c T locs cells slots) (hx : p.tables.exec = Jvm.exec) (hk : meth.locks = false) {pc : Nat} {Ls : Array Slot} {z : Int32} {t : FieldType} {rest : List Value} (hret : meth.sig.returnType = some t) (ht : t = .boolean ∨ t = .byte ∨ t = .char ∨ t = .short) (hd : decode c.code pc = .ok (.ireturn, 1)) (hQ : Q (some (.int (nar t z))) T.heap locs) (hc : cells ≤ k) (hs : slots ≤ n) :
    Dn p e below s Q k n T (mkF m pc Ls (.int z :: rest)) := by
  obtain ⟨fs, hr, hrun, hended, hW, hsame⟩ := X.leave (v := some (.int (nar t z))) (fun q => by rw [hret] at q; cases q) hk
  exact ⟨_, _, retN X hx hret ht hd hr, hrun, hended, _, _, rfl, hQ, ⟨_, rfl⟩, hW, hsame.mono hc hs⟩
theorem Dn.retJ (X : Stand p l e R s m args below meth c T locs cells slots) (hx : p.tables.exec = Jvm.exec) (hk : meth.locks = false) {pc : Nat} {Ls : Array Slot} {z : Int64} {rest : List Value} (hret : meth.sig.returnType = some .long) (hd : decode c.code pc = .ok (.lreturn, 1)) (hQ : Q (some (.long z)) T.heap locs) (hc : cells ≤ k) (hs : slots ≤ n) :
    Dn p e below s Q k n T (mkF m pc Ls (.long z :: rest)) := by
  obtain ⟨fs, hr, hrun, hended, hW, hsame⟩ := X.leave (v := some (.long z)) (fun q => by rw [hret] at q; cases q) hk
  exact ⟨_, _, retOut X hx hret rfl (Or.inr (Or.inl ⟨rfl, rfl, z, rfl⟩)) hd hr, hrun, hended, _, _, rfl, hQ, ⟨_, rfl⟩, hW, hsame.mono hc hs⟩
theorem Dn.retA (X : Stand p l e R s m args below meth c T locs cells slots) (hx : p.tables.exec = Jvm.exec) (hk : meth.locks = false) {pc : Nat} {Ls : Array Slot} {a : Addr} {t : FieldType} {rest : List Value} (hret : meth.sig.returnType = some t) (ht : t.isReference = true) (hn : narrow t (.ref a) = .ref a) (hd : decode c.code pc = .ok (.areturn, 1)) (hQ : Q (some (.ref a)) T.heap locs) (hc : cells ≤ k) (hs : slots ≤ n) :
    Dn p e below s Q k n T (mkF m pc Ls (.ref a :: rest)) := by
  obtain ⟨fs, hr, hrun, hended, hW, hsame⟩ := X.leave (v := some (.ref a)) (fun q => by rw [hret] at q; cases q) hk
  exact ⟨_, _, retOut X hx hret hn (Or.inr (Or.inr (Or.inr (Or.inr ⟨rfl, ht, rfl⟩)))) hd hr, hrun, hended, _, _, rfl, hQ, ⟨_, rfl⟩, hW, hsame.mono hc hs⟩
theorem Dn.retV (X : Stand p l e R s m args below meth c T locs cells slots) (hx : p.tables.exec = Jvm.exec) (hk : meth.locks = false) {pc : Nat} {Ls : Array Slot} (hret : meth.sig.returnType = none) (hd : decode c.code pc = .ok (.return_, 1)) (hQ : Q none T.heap locs) (hc : cells ≤ k) (hs : slots ≤ n) :
    Dn p e below s Q k n T (mkF m pc Ls []) := by
  obtain ⟨fs, hr, hrun, hended, hW, hsame⟩ := X.leave (v := none) (fun _ => rfl) hk
  exact ⟨_, _, X.returnOut hx hret hd hr, hrun, hended, _, _, rfl, hQ, ⟨_, rfl⟩, hW, hsame.mono hc hs⟩
theorem own_ne {a b : Addr} {j : Nat} (q : a < j) (r : b = j) : a ≠ b := fun e => absurd (e.trans r) (Nat.ne_of_lt q)
theorem own_ne' {a b : Addr} {j : Nat} (q : a < j) (r : j ≤ b) : a ≠ b := Nat.ne_of_lt (Nat.lt_of_lt_of_le q r)
theorem own_self {s : State} {args : Array Value} {y : MethodName} {n : Nat} (wi : (Jvm.Cond.instantiable y.cls n).before args s = true) (wp : (Jvm.Cond.privateMethod y).before args s = true) (hinst : (Jvm.Cond.instanceMethod y).before args s = true) (hy : y.cls ≠ "java/lang/invoke/MethodHandle" ∧ y.cls ≠ "java/lang/invoke/VarHandle") : (Jvm.Cond.selects y.cls y y).before args s = true := by
  obtain ⟨c, k, h1, h2, -, h4, -⟩ := Jvm.Cond.instantiable_spec wi
  exact selects_self_of_private h1 h2 (Bool.or_eq_false_iff.mp h4).1 (Jvm.Cond.privateMethod_at wp) hinst hy
end OwnKit
/-! ARRAYS BY A FUNCTION: the array at a has n places, place j holds f j -/
def Ary (Z : State) (h : Heap) (a : Addr) (ty : FieldType) (n : Nat) (f : Nat → Value) : Prop := ∃ c : Cell, Arr Z h a c ty ∧ c.slots.size = n ∧ ∀ j, j < n → c.slots[j]? = some (f j)
section OwnAry
variable {p : Program} {l : Launch} {e : Env} {R : Room} {s : State} {m : MethodId} {args : Array Value} {below : List Frame} {meth : Method} {c : Code} {T T' : State} {locs : List Loc} {cells slots : Nat} {Z : State} {h h' : Heap} {a b : Addr} {ty : FieldType} {n i sl : Nat} {f f' : Nat → Value} {v : Value} {ws : List Addr} {j : Int32}
theorem Ary.lt (F : Ary Z h a ty n f) : a < h.size := by obtain ⟨c, A, -⟩ := F; exact A.lt
theorem Ary.ext (F : Ary Z h a ty n f) (E : Ext h h') : Ary Z h' a ty n f := by obtain ⟨c, A, r⟩ := F; exact ⟨c, A.ext E, r⟩
theorem Ary.other (F : Ary Z h b ty n f) (W : Wr h h' a sl v) (q : b ≠ a) : Ary Z h' b ty n f := by obtain ⟨c, A, r⟩ := F; exact ⟨c, A.other W q, r⟩
theorem Ary.keep (F : Ary Z h a ty n f) (K : Keep h h' ws) (q : a ∉ ws) : Ary Z h' a ty n f := by obtain ⟨c, A, r⟩ := F; exact ⟨c, ⟨K.2.1 a c A.1 q, A.2⟩, r⟩
theorem Ary.congr (F : Ary Z h a ty n f) (q : ∀ j, j < n → f' j = f j) : Ary Z h a ty n f' := by obtain ⟨c, A, S, H⟩ := F; exact ⟨c, A, S, fun j hj => by rw [q j hj]; exact H j hj⟩
theorem Ary.new {k : ClassId} {z : Int32} (A : Arr Z h a (newA k ty z) ty) (q : z.toInt = n) : Ary Z h a ty n (fun _ => defaultValue ty) := by
  have e1 : z.toNatClampNeg = n := by simp only [Int32.toNatClampNeg, q]; rfl
  refine ⟨_, A, by rw [sz_new]; exact e1, fun i hi => ?_⟩
  simp [newA, e1, hi]
theorem own_clamp (q : j.toInt = (i : Int)) : j.toNatClampNeg = i := by simp only [Int32.toNatClampNeg, q]; rfl
theorem own_nneg (q : j.toInt = (i : Int)) : ¬ j < 0 := by rw [Int32.lt_iff_toInt_lt, q]; show ¬ (i : Int) < 0; omega
theorem Ary.set (F : Ary Z h a ty n f) (W : Wr h h' a j.toNatClampNeg v) (q : j.toInt = (i : Int)) (hi : i < n) : Ary Z h' a ty n (fun x => if x = i then v else f x) := by
  obtain ⟨c, A, S, H⟩ := F
  rw [own_clamp q] at W
  refine ⟨_, A.same W, by rw [sz_set]; exact S, fun x hx => ?_⟩
  by_cases u : x = i
  · subst u; simp [Cell.setSlot, S, hx]
  · have := H x hx; simp only [Cell.setSlot, u, if_false]
    rw [Array.getElem?_setIfInBounds_ne (Ne.symm u)]; exact this
theorem own_inb {cl : Cell} (S : cl.slots.size = n) (q : j.toInt = (i : Int)) (hi : i < n) : ¬ (j < 0 ∨ cl.slots.size ≤ j.toNatClampNeg) := by
  rw [own_clamp q, S]; exact fun r => r.elim (own_nneg q) (fun z => absurd hi (Nat.not_lt.mpr z))
theorem aLen (X : Stand p l e R s m args below meth c T locs cells slots) (hx : p.tables.exec = Jvm.exec) (hZ : Z.Warmed39 s.vm) (eT : T.heap = h) (F : Ary Z h a ty n f) {g : JFrame} (hg : g.method = m) {rest : List Value} (hs : g.stack = .ref a :: rest) (hd : decode c.code g.pc = .ok (.arraylength, 1)) :
    ∀ t, Steps p.tables e below (T.setTop { g with pc := g.pc + 1, stack := .int (n.toInt32) :: rest }) t → Steps p.tables e below (T.setTop g) t := by
  obtain ⟨cl, A, S, H⟩ := F
  intro t q
  refine X.arraylength hx (by rw [eT]; exact A.1) (State.isArrayOf_alike hZ.alike A.2.1) hg hs hd t ?_
  rw [S]; exact q
theorem aLoadI {w : Nat → Int32} (X : Stand p l e R s m args below meth c T locs cells slots) (hx : p.tables.exec = Jvm.exec) (hZ : Z.Warmed39 s.vm) (eT : T.heap = h) (F : Ary Z h a .int n (fun x => .int (w x))) (q : j.toInt = (i : Int)) (hi : i < n) {g : JFrame} (hg : g.method = m) {rest : List Value} (hs : g.stack = .int j :: .ref a :: rest) (hd : decode c.code g.pc = .ok (.iaload, 1)) :
    ∀ t, Steps p.tables e below (T.setTop { g with pc := g.pc + 1, stack := .int (w i) :: rest }) t → Steps p.tables e below (T.setTop g) t := by
  obtain ⟨cl, A, S, H⟩ := F
  exact X.iaload hx (by rw [eT]; exact A.1) (State.isArrayOf_alike hZ.alike A.2.1) A.2.2 (own_inb S q hi) (by rw [own_clamp q]; exact H i hi) hg hs hd
theorem aLoadJ {w : Nat → Int64} (X : Stand p l e R s m args below meth c T locs cells slots) (hx : p.tables.exec = Jvm.exec) (hZ : Z.Warmed39 s.vm) (eT : T.heap = h) (F : Ary Z h a .long n (fun x => .long (w x))) (q : j.toInt = (i : Int)) (hi : i < n) {g : JFrame} (hg : g.method = m) {rest : List Value} (hs : g.stack = .int j :: .ref a :: rest) (hd : decode c.code g.pc = .ok (.laload, 1)) :
    ∀ t, Steps p.tables e below (T.setTop { g with pc := g.pc + 1, stack := .long (w i) :: rest }) t → Steps p.tables e below (T.setTop g) t := by
  obtain ⟨cl, A, S, H⟩ := F
  exact X.laload hx (by rw [eT]; exact A.1) (State.isArrayOf_alike hZ.alike A.2.1) A.2.2 (own_inb S q hi) (by rw [own_clamp q]; exact H i hi) hg hs hd
theorem aLoadB {w : Nat → Int32} (X : Stand p l e R s m args below meth c T locs cells slots) (hx : p.tables.exec = Jvm.exec) (hZ : Z.Warmed39 s.vm) (eT : T.heap = h) (F : Ary Z h a .byte n (fun x => .int (w x))) (q : j.toInt = (i : Int)) (hi : i < n) {g : JFrame} (hg : g.method = m) {rest : List Value} (hs : g.stack = .int j :: .ref a :: rest) (hd : decode c.code g.pc = .ok (.baload, 1)) :
    ∀ t, Steps p.tables e below (T.setTop { g with pc := g.pc + 1, stack := .int (w i) :: rest }) t → Steps p.tables e below (T.setTop g) t := by
  obtain ⟨cl, A, S, H⟩ := F
  exact X.baloadBytes hx (by rw [eT]; exact A.1) (State.isArrayOf_alike hZ.alike A.2.1) A.2.2 (own_inb S q hi) (by rw [own_clamp q]; exact H i hi) hg hs hd
theorem aStoI (X : Stand p l e R s m args below meth c T locs cells slots) (hx : p.tables.exec = Jvm.exec) (hZ : Z.Warmed39 s.vm) (eT : T.heap = h) (F : Ary Z h a .int n f) {x : Int32} (q : j.toInt = (i : Int)) (hi : i < n) {g : JFrame} (hg : g.method = m) {rest : List Value} (hs : g.stack = .int x :: .int j :: .ref a :: rest) (hd : decode c.code g.pc = .ok (.iastore, 1)) :
    ∃ T' h', Stand p l e R s m args below meth c T' (locs ++ [⟨a, j.toNatClampNeg⟩]) cells slots ∧ T'.heap = h' ∧ Wr h h' a j.toNatClampNeg (.int x) ∧ Ary Z h' a .int n (fun y => if y = i then .int x else f y) ∧ ∀ t, Steps p.tables e below (T'.setTop { g with pc := g.pc + 1, stack := rest }) t → Steps p.tables e below (T.setTop g) t := by
  obtain ⟨cl, A, S, H⟩ := id F
  obtain ⟨T', h', X', e', W, st⟩ := stI X hx hZ eT A (own_inb S q hi) hg hs hd
  exact ⟨T', h', X', e', W, F.set W q hi, st⟩
theorem aStoJ (X : Stand p l e R s m args below meth c T locs cells slots) (hx : p.tables.exec = Jvm.exec) (hZ : Z.Warmed39 s.vm) (eT : T.heap = h) (F : Ary Z h a .long n f) {x : Int64} (q : j.toInt = (i : Int)) (hi : i < n) {g : JFrame} (hg : g.method = m) {rest : List Value} (hs : g.stack = .long x :: .int j :: .ref a :: rest) (hd : decode c.code g.pc = .ok (.lastore, 1)) :
    ∃ T' h', Stand p l e R s m args below meth c T' (locs ++ [⟨a, j.toNatClampNeg⟩]) cells slots ∧ T'.heap = h' ∧ Wr h h' a j.toNatClampNeg (.long x) ∧ Ary Z h' a .long n (fun y => if y = i then .long x else f y) ∧ ∀ t, Steps p.tables e below (T'.setTop { g with pc := g.pc + 1, stack := rest }) t → Steps p.tables e below (T.setTop g) t := by
  obtain ⟨cl, A, S, H⟩ := id F
  obtain ⟨T', h', X', e', W, st⟩ := stJ X hx hZ eT A (own_inb S q hi) hg hs hd
  exact ⟨T', h', X', e', W, F.set W q hi, st⟩
theorem aStoB (X : Stand p l e R s m args below meth c T locs cells slots) (hx : p.tables.exec = Jvm.exec) (hZ : Z.Warmed39 s.vm) (eT : T.heap = h) (F : Ary Z h a .byte n f) {x : Int32} (q : j.toInt = (i : Int)) (hi : i < n) {g : JFrame} (hg : g.method = m) {rest : List Value} (hs : g.stack = .int x :: .int j :: .ref a :: rest) (hd : decode c.code g.pc = .ok (.bastore, 1)) :
    ∃ T' h', Stand p l e R s m args below meth c T' (locs ++ [⟨a, j.toNatClampNeg⟩]) cells slots ∧ T'.heap = h' ∧ Wr h h' a j.toNatClampNeg (.int (nar .byte x)) ∧ Ary Z h' a .byte n (fun y => if y = i then .int (nar .byte x) else f y) ∧ ∀ t, Steps p.tables e below (T'.setTop { g with pc := g.pc + 1, stack := rest }) t → Steps p.tables e below (T.setTop g) t := by
  obtain ⟨cl, A, S, H⟩ := id F
  obtain ⟨T', h', X', e', W, st⟩ := stB X hx hZ eT A (own_inb S q hi) hg hs hd
  exact ⟨T', h', X', e', W, F.set W q hi, st⟩
theorem aCloneI {w : Nat → Int32} {a0 : Array Value} {own : String} {index : Nat} (X : Stand p l e R s m args below meth c T locs cells slots) (hx : p.tables.exec = Jvm.exec) (hZ : Z.Warmed39 s.vm) (hown : s.vm.findClass own = some m.cls)
    (w1 : (Jvm.Cond.methodLink own index ⟨"[I", "clone", "()Ljava/lang/Object;"⟩).before a0 Z = true) (w2 : (Jvm.Cond.sameMethod "[I" "java/lang/Object" "clone" "()Ljava/lang/Object;").before a0 Z = true) (w3 : (Jvm.Cond.native ⟨"java/lang/Object", "clone", "()Ljava/lang/Object;"⟩).before a0 Z = true)
    (w4 : (Jvm.Cond.instanceMethod ⟨"java/lang/Object", "clone", "()Ljava/lang/Object;"⟩).before a0 Z = true) (w5 : (Jvm.Cond.selects "[I" ⟨"[I", "clone", "()Ljava/lang/Object;"⟩ ⟨"java/lang/Object", "clone", "()Ljava/lang/Object;"⟩).before a0 Z = true) (w6 : (Jvm.Cond.castable "[I" "java/lang/Cloneable").before a0 Z = true)
    (eT : T.heap = h) (F : Ary Z h a .int n (fun x => .int (w x))) (E : Exa Z h a "[I") {g : JFrame} (hg : g.method = m) (hsize : g.locals.size = c.maxLocals) {rest : List Value} (hs : g.stack = .ref a :: rest) (hd : decode c.code g.pc = .ok (.invokevirtual index, 3))
    (hf : 1 ≤ R.frames) {W cap : Nat} (hW : 2 * g.monitorRoom + (rest.map fun v => v.category).sum ≤ W) (hl : W + 14 ≤ R.locals) (hcap : n ≤ cap) (hc : cells + 1 ≤ R.cells) (hsl : slots + cap ≤ R.slots) :
    ∃ T' h', Stand p l e R s m args below meth c T' locs (cells + 1) (slots + cap) ∧ T'.heap = h' ∧ Ext h h' ∧ Ary Z h' h.size .int n (fun x => .int (w x)) ∧ Exa Z h' h.size "[I" ∧
      ∀ t, Steps p.tables e below (T'.setTop { g with pc := g.pc + 3, stack := .ref h.size :: rest }) t → Steps p.tables e below (T.setTop g) t := by
  obtain ⟨cl, A, S, H⟩ := F
  have FC : FitC Z cl := fitC_of A fun i hi v hv => by rw [H i (by rw [← S]; exact hi)] at hv; cases hv; rfl
  obtain ⟨T', h', X', e', ex, A', E', st⟩ := cloneA X hx hZ hown w1 w2 w3 w4 w5 w6 eT A E FC hg hsize hs hd hf hW hl (by rw [S]; exact hcap) hc hsl
  exact ⟨T', h', X', e', ex, ⟨cloneOf cl, A', S, H⟩, E', st⟩
end OwnAry
/-! ARRAYS OF OBJECTS (Object[]) BY A FUNCTION, a reference that may be null, an entry of the pool that is resolved -/
def AryO (Z : State) (h : Heap) (a : Addr) (n : Nat) (f : Nat → Value) : Prop := ∃ c : Cell, Arr Z h a c (.object "java/lang/Object") ∧ Ovr Z c.cls "java/lang/Object" ∧ c.slots.size = n ∧ ∀ j, j < n → c.slots[j]? = some (f j)
section OwnRef
variable {p : Program} {l : Launch} {e : Env} {R : Room} {s : State} {m : MethodId} {args : Array Value} {below : List Frame} {meth : Method} {c : Code} {T T' : State} {locs : List Loc} {cells slots : Nat} {Z : State} {h h' : Heap} {a b : Addr} {n i sl k : Nat} {f f' : Nat → Value} {v : Value} {ws : List Addr} {j : Int32} {Q : Option Value → Heap → List Loc → Prop}
theorem AryO.lt (F : AryO Z h a n f) : a < h.size := by obtain ⟨c, A, -⟩ := F; exact A.lt
theorem AryO.ext (F : AryO Z h a n f) (E : Ext h h') : AryO Z h' a n f := by obtain ⟨c, A, r⟩ := F; exact ⟨c, A.ext E, r⟩
theorem AryO.other (F : AryO Z h b n f) (W : Wr h h' a sl v) (q : b ≠ a) : AryO Z h' b n f := by obtain ⟨c, A, r⟩ := F; exact ⟨c, A.other W q, r⟩
theorem AryO.keep (F : AryO Z h a n f) (K : Keep h h' ws) (q : a ∉ ws) : AryO Z h' a n f := by obtain ⟨c, A, r⟩ := F; exact ⟨c, ⟨K.2.1 a c A.1 q, A.2⟩, r⟩
theorem AryO.congr (F : AryO Z h a n f) (q : ∀ j, j < n → f' j = f j) : AryO Z h a n f' := by obtain ⟨c, A, O, S, H⟩ := F; exact ⟨c, A, O, S, fun j hj => by rw [q j hj]; exact H j hj⟩
theorem AryO.new {k : ClassId} {z : Int32} (A : Arr Z h a (newA k (.object "java/lang/Object") z) (.object "java/lang/Object")) (O : Ovr Z k "java/lang/Object") (q : z.toInt = n) : AryO Z h a n (fun _ => .null) := by
  have e1 : z.toNatClampNeg = n := by simp only [Int32.toNatClampNeg, q]; rfl
  refine ⟨_, A, O, by rw [sz_new]; exact e1, fun i hi => ?_⟩
  simp [newA, e1, hi, defaultValue]
theorem AryO.set (F : AryO Z h a n f) (W : Wr h h' a j.toNatClampNeg v) (q : j.toInt = (i : Int)) (hi : i < n) : AryO Z h' a n (fun x => if x = i then v else f x) := by
  obtain ⟨c, A, O, S, H⟩ := F
  rw [own_clamp q] at W
  refine ⟨_, A.same W, O, by rw [sz_set]; exact S, fun x hx => ?_⟩
  by_cases u : x = i
  · subst u; simp [Cell.setSlot, S, hx]
  · have := H x hx; simp only [Cell.setSlot, u, if_false]
    rw [Array.getElem?_setIfInBounds_ne (Ne.symm u)]; exact this
theorem aLenO (X : Stand p l e R s m args below meth c T locs cells slots) (hx : p.tables.exec = Jvm.exec) (hZ : Z.Warmed39 s.vm) (eT : T.heap = h) (F : AryO Z h a n f) {g : JFrame} (hg : g.method = m) {rest : List Value} (hs : g.stack = .ref a :: rest) (hd : decode c.code g.pc = .ok (.arraylength, 1)) :
    ∀ t, Steps p.tables e below (T.setTop { g with pc := g.pc + 1, stack := .int (n.toInt32) :: rest }) t → Steps p.tables e below (T.setTop g) t := by
  obtain ⟨cl, A, O, S, H⟩ := F
  intro t q
  refine X.arraylength hx (by rw [eT]; exact A.1) (State.isArrayOf_alike hZ.alike A.2.1) hg hs hd t ?_
  rw [S]; exact q
theorem aLoadO (X : Stand p l e R s m args below meth c T locs cells slots) (hx : p.tables.exec = Jvm.exec) (hZ : Z.Warmed39 s.vm) (eT : T.heap = h) (F : AryO Z h a n f) (q : j.toInt = (i : Int)) (hi : i < n) (hv : f i = v) {g : JFrame} (hg : g.method = m) {rest : List Value} (hs : g.stack = .int j :: .ref a :: rest) (hd : decode c.code g.pc = .ok (.aaload, 1)) :
    ∀ t, Steps p.tables e below (T.setTop { g with pc := g.pc + 1, stack := v :: rest }) t → Steps p.tables e below (T.setTop g) t := by
  obtain ⟨cl, A, O, S, H⟩ := F
  exact X.aaload hx (by rw [eT]; exact A.1) (State.isArrayOf_alike hZ.alike A.2.1) rfl A.2.2 (own_inb S q hi) (by rw [own_clamp q, H i hi, hv]) hg hs hd
theorem aStoO (X : Stand p l e R s m args below meth c T locs cells slots) (hx : p.tables.exec = Jvm.exec) (hZ : Z.Warmed39 s.vm) (eT : T.heap = h) (F : AryO Z h a n f) (hv : v = .null ∨ ∃ y, v = .ref y ∧ Ins Z h y "java/lang/Object" true) (q : j.toInt = (i : Int)) (hi : i < n) {g : JFrame} (hg : g.method = m) {rest : List Value} (hs : g.stack = v :: .int j :: .ref a :: rest) (hd : decode c.code g.pc = .ok (.aastore, 1)) :
    ∃ T' h', Stand p l e R s m args below meth c T' (locs ++ [⟨a, j.toNatClampNeg⟩]) cells slots ∧ T'.heap = h' ∧ Wr h h' a j.toNatClampNeg v ∧ AryO Z h' a n (fun y => if y = i then v else f y) ∧ ∀ t, Steps p.tables e below (T'.setTop { g with pc := g.pc + 1, stack := rest }) t → Steps p.tables e below (T.setTop g) t := by
  obtain ⟨cl, A, O, S, H⟩ := id F
  have St : Sto Z h a v := by
    rcases hv with rfl | ⟨y, rfl, I⟩
    · exact Or.inl rfl
    · exact Sto.of A O I
  obtain ⟨T', h', X', e', W, st⟩ := stR X hx hZ eT A (own_inb S q hi) rfl St hg hs hd
  exact ⟨T', h', X', e', W, F.set W q hi, st⟩
theorem Dn.retR (X : Stand p l e R s m args below meth c T locs cells slots) (hx : p.tables.exec = Jvm.exec) (hk : meth.locks = false) {pc : Nat} {Ls : Array Slot} {t : FieldType} {rest : List Value} (hret : meth.sig.returnType = some t) (ht : t.isReference = true) (hr : v.isRef = true) (hn : narrow t v = v) (hd : decode c.code pc = .ok (.areturn, 1)) (hQ : Q (some v) T.heap locs) (hc : cells ≤ k) (hs : slots ≤ n) :
    Dn p e below s Q k n T (mkF m pc Ls (v :: rest)) := by
  obtain ⟨fs, hr', hrun, hended, hW, hsame⟩ := X.leave (v := some v) (fun q => by rw [hret] at q; cases q) hk
  exact ⟨_, _, retOut X hx hret hn (Or.inr (Or.inr (Or.inr (Or.inr ⟨rfl, ht, hr⟩)))) hd hr', hrun, hended, _, _, rfl, hQ, ⟨_, rfl⟩, hW, hsame.mono hc hs⟩
theorem own_ready (X : Stand p l e R s m args below meth c T locs cells slots) (hZ : Z.Warmed39 s.vm) {a0 : Array Value} {own O nm d : String} {index : Nat} (hown : s.vm.findClass own = some m.cls) (w : (Jvm.Cond.fieldRef own index O nm d).before a0 Z = true) {cf : ClassId} {kk : Class} {ii : Nat} {fd : Field} (hf : Z.fieldFound? O nm d = some (cf, kk, ii, fd)) : T.vm.fieldReady m.cls index cf fd := by
  have hU : Z.Warmed39 T.vm := wtrans hZ X.warmed
  have w' : (Jvm.Cond.fieldRef own index O nm d).before a0 (Z.setVm T.vm) = true := Jvm.Cond.fieldRef_warmed39 hU w
  have hcur : (Z.setVm T.vm).vm.findClass own = some m.cls := by
    show T.vm.findClass own = some m.cls
    rw [X.warmed.alike.findClass]; exact hown
  obtain ⟨c1, k1, i1, f1, h1, h2⟩ := Jvm.Cond.fieldRef_spec hcur w'
  obtain ⟨k2, h3, -⟩ := State.fieldFound?_setVm (s := Z) hU.alike hf
  cases h1.symm.trans h3
  exact h2
theorem getFR (X : Stand p l e R s m args below meth c T locs cells slots) (hx : p.tables.exec = Jvm.exec) (hZ : Z.Warmed39 s.vm) {a0 : Array Value} {own O nm d : String} {index : Nat} (hown : s.vm.findClass own = some m.cls) (w : (Jvm.Cond.fieldRef own index O nm d).before a0 Z = true) (eT : T.heap = h) (F : Fld Z h a O nm d v)
    {g : JFrame} (hg : g.method = m) {rest : List Value} (hs : g.stack = .ref a :: rest) (hd : decode c.code g.pc = .ok (.getfield index, 3)) : ∀ t, Steps p.tables e below (T.setTop { g with pc := g.pc + 3, stack := v :: rest }) t → Steps p.tables e below (T.setTop g) t := by
  obtain ⟨cell, cf, k, i, f, h1, h2, h3, h4, -, -, h7⟩ := F
  have hr := own_ready X hZ hown w h2
  intro t q
  subst hg
  jvm_step X.here [hx, hd, getfield.wp_ready (e := e) (s := T) (f := g) X.here.top hr h3 hs (by rw [eT]; exact h1) h4 h7]
  exact q
theorem putFR (X : Stand p l e R s m args below meth c T locs cells slots) (hx : p.tables.exec = Jvm.exec) (hZ : Z.Warmed39 s.vm) {a0 : Array Value} {own O nm d C : String} {index kk : Nat} {ty : FieldType} (hown : s.vm.findClass own = some m.cls) (w : (Jvm.Cond.fieldRef own index O nm d).before a0 Z = true) (eT : T.heap = h) {old : Value} (F : Fld Z h a O nm d old) (E : Exa Z h a C)
    (L : (Jvm.Cond.lays C O nm d).before a0 Z = true) (wi : (Jvm.Cond.instantiable C kk).before a0 Z = true) (hty : parseFieldDescriptor d = some ty) (hn : narrow ty v = v) (hf : fits ty v = true) {g : JFrame} (hg : g.method = m) {rest : List Value} (hs : g.stack = v :: .ref a :: rest) (hd : decode c.code g.pc = .ok (.putfield index, 3)) :
    ∃ T' h', Stand p l e R s m args below meth c T' (locs ++ [⟨a, Jvm.RoadKit.slotOf Z O nm d⟩]) cells slots ∧ T'.heap = h' ∧ Wr h h' a (Jvm.RoadKit.slotOf Z O nm d) v ∧ ∀ t, Steps p.tables e below (T'.setTop { g with pc := g.pc + 3, stack := rest }) t → Steps p.tables e below (T.setTop g) t := by
  obtain ⟨cell, cf, k, i, f, h1, h2, h3, h4, h5, -, h7⟩ := F
  obtain ⟨cell', kc, e1, e2, e3, -⟩ := E
  cases h1.symm.trans e1
  obtain ⟨c1, k1, cf1, kf1, i1, f1, a1, a2, a3, -, -, a6, -⟩ := Laid.spec (Or.inl L)
  cases h2.symm.trans a3
  cases e2.symm.trans a1
  obtain ⟨c2, k2, j1, j2, j3, -⟩ := Jvm.Cond.instantiable_spec wi
  cases e2.symm.trans j1
  cases a2.symm.trans j2
  have ht := (State.fieldFound?_type h2 hty).2
  have hfit : Z.fitsSlot cell.cls cell.vm f.slot v = true := by
    have q : Z.slotType? cell.cls cell.vm f.slot = some ty := by
      simp only [State.slotType?, a2, Option.bind_eq_bind, Option.bind_some, j3]
      cases hq : cell.vm <;> first | (rw [hq] at h5; exact Bool.noConfusion h5) | (rw [a6, ht])
    simp [State.fitsSlot, q, hf]
  have hU : Z.Warmed39 T.vm := wtrans hZ X.warmed
  have hfit' : T.fitsSlot cell.cls cell.vm f.slot v = true := by rw [← State.fitsSlot_setVm hU.alike] at hfit; exact hfit
  obtain ⟨_, _, _, _, _, _, -, -, b3, -, b5, -⟩ := Jvm.Cond.lays_spec L
  cases h2.symm.trans b3
  have hlt := (Array.getElem?_eq_some_iff.mp h7).1
  have es : Jvm.RoadKit.slotOf Z O nm d = f.slot := by simp [Jvm.RoadKit.slotOf, h2]
  rw [es]
  obtain ⟨X', st⟩ := X.putfieldReady hx (own_ready X hZ hown w h2) h3 (Or.inl b5) (by rw [eT]; exact h1) h4 hlt (by rw [ht]; exact hn) hfit' hg hs hd
  exact ⟨_, _, X', rfl, ⟨cell, h1, h5, hlt, by rw [← eT]; rfl⟩, st⟩
end OwnRef
theorem own_nar {C : String} {v : Value} (h : v.isRef = true) : narrow (.object C) v = v := by cases v <;> first | rfl | simp [Value.isRef] at h
abbrev Ent := Addr × Int64 × Int64
def own_EN : String := "com/example/scripted_rate_limiter/scriptedratelimiter/PermitLog$Entry"
def Ens (Z : State) (h : Heap) (es : List Ent) : Prop := ∀ e ∈ es, Exa Z h e.1 "com/example/scripted_rate_limiter/scriptedratelimiter/PermitLog$Entry" ∧ Fld Z h e.1 "com/example/scripted_rate_limiter/scriptedratelimiter/PermitLog$Entry" "tick" "J" (.long e.2.1) ∧ Fld Z h e.1 "com/example/scripted_rate_limiter/scriptedratelimiter/PermitLog$Entry" "permits" "J" (.long e.2.2)
section OwnEns
variable {Z : State} {h h' : Heap} {a : Addr} {sl : Nat} {v : Value} {ws : List Addr} {es es' : List Ent} {e : Ent}
theorem Ens.ext (F : Ens Z h es) (E : Ext h h') : Ens Z h' es := fun e he => ⟨(F e he).1.ext E, (F e he).2.1.ext E, (F e he).2.2.ext E⟩
theorem Ens.wr (F : Ens Z h es) (W : Wr h h' a sl v) (q : ∀ e ∈ es, e.1 ≠ a) : Ens Z h' es := fun e he => ⟨(F e he).1.wr W, (F e he).2.1.other W (Or.inl (q e he)), (F e he).2.2.other W (Or.inl (q e he))⟩
theorem Ens.keep (F : Ens Z h es) (K : Keep h h' ws) (q : ∀ e ∈ es, e.1 ∉ ws) : Ens Z h' es := fun e he => ⟨(F e he).1.keep K, (F e he).2.1.keep K (q e he), (F e he).2.2.keep K (q e he)⟩
theorem Ens.hd (F : Ens Z h (e :: es)) : Exa Z h e.1 "com/example/scripted_rate_limiter/scriptedratelimiter/PermitLog$Entry" ∧ Fld Z h e.1 "com/example/scripted_rate_limiter/scriptedratelimiter/PermitLog$Entry" "tick" "J" (.long e.2.1) ∧ Fld Z h e.1 "com/example/scripted_rate_limiter/scriptedratelimiter/PermitLog$Entry" "permits" "J" (.long e.2.2) := F e (List.mem_cons_self ..)
theorem Ens.tl (F : Ens Z h (e :: es)) : Ens Z h es := fun x hx => F x (List.mem_cons_of_mem _ hx)
theorem Ens.fst (F : Ens Z h (es ++ es')) : Ens Z h es := fun x hx => F x (List.mem_append_left _ hx)
theorem Ens.snd (F : Ens Z h (es ++ es')) : Ens Z h es' := fun x hx => F x (List.mem_append_right _ hx)
theorem Ens.app (F : Ens Z h es) (G : Ens Z h es') : Ens Z h (es ++ es') := fun x hx => (List.mem_append.mp hx).elim (F x) (G x)
theorem Ens.one (E : Exa Z h e.1 "com/example/scripted_rate_limiter/scriptedratelimiter/PermitLog$Entry") (T : Fld Z h e.1 "com/example/scripted_rate_limiter/scriptedratelimiter/PermitLog$Entry" "tick" "J" (.long e.2.1)) (P : Fld Z h e.1 "com/example/scripted_rate_limiter/scriptedratelimiter/PermitLog$Entry" "permits" "J" (.long e.2.2)) : Ens Z h [e] := fun x hx => by cases List.mem_singleton.mp hx; exact ⟨E, T, P⟩
theorem Ens.lt (F : Ens Z h es) : ∀ e ∈ es, e.1 < h.size := fun e he => (F e he).1.lt
end OwnEns
/-- the elements' array: the entries lie from hd on -/
def own_at (hd : Nat) (es : List Ent) (x : Nat) : Value := if hd ≤ x then ((es[x - hd]?).map fun e => Value.ref e.1).getD .null else .null
def own_dw (y w : Int64) : List Ent → List Ent
  | [] => []
  | e :: es => if (y - e.2.1) < w then e :: es else own_dw y w es
def own_dp (y w : Int64) : Int64 → List Ent → Int64
  | p, [] => p
  | p, e :: es => if (y - e.2.1) < w then p else own_dp y w (p - e.2.2) es
def own_dh (y w : Int64) : Int32 → List Ent → Int32
  | x, [] => x
  | x, e :: es => if (y - e.2.1) < w then x else own_dh y w (x + 1) es
def own_dn (y w : Int64) : Nat → List Ent → Nat
  | x, [] => x
  | x, e :: es => if (y - e.2.1) < w then x else own_dn y w (x + 1) es
section OwnDrop
variable {y w p : Int64} {x : Int32} {hd : Nat} {es : List Ent} {e : Ent}
theorem own_at_hd : own_at hd (e :: es) hd = .ref e.1 := by unfold own_at; simp
theorem own_at_tl (j : Nat) : own_at (hd + 1) es j = if j = hd then .null else own_at hd (e :: es) j := by
  unfold own_at
  by_cases q : j = hd
  · subst q; rw [if_pos rfl, if_neg (by omega)]
  · rw [if_neg q]
    by_cases r : hd + 1 ≤ j
    · rw [if_pos r, if_pos (by omega), show j - hd = (j - (hd + 1)) + 1 by omega]; rfl
    · rw [if_neg r, if_neg (by omega)]
theorem own_at_nil (j : Nat) : own_at hd [] j = .null := by unfold own_at; simp
theorem own_at_add (b : Addr) (t q : Int64) (j : Nat) : own_at hd (es ++ [(b, t, q)]) j = if j = hd + es.length then .ref b else own_at hd es j := by
  unfold own_at
  by_cases u : j = hd + es.length
  · subst u; rw [if_pos rfl, if_pos (by omega)]; simp
  · rw [if_neg u]
    by_cases r : hd ≤ j
    · rw [if_pos r, if_pos r, List.getElem?_append]
      by_cases z : j - hd < es.length
      · rw [if_pos z]
      · rw [if_neg z, List.getElem?_eq_none (show es.length ≤ j - hd by omega), List.getElem?_eq_none (by simp; omega)]
    · rw [if_neg r, if_neg r]
theorem own_at_last (b : Addr) (t q : Int64) {i : Nat} (hi : i = hd + es.length) : own_at hd (es ++ [(b, t, q)]) i = .ref b := by rw [own_at_add, if_pos hi]
theorem own_at_upd (b : Addr) (t q q' : Int64) (j : Nat) : own_at hd (es ++ [(b, t, q')]) j = own_at hd (es ++ [(b, t, q)]) j := by rw [own_at_add, own_at_add]
theorem own_nd (h : ∀ e ∈ es, (y - e.2.1) < w) : own_dw y w es = es ∧ own_dp y w p es = p ∧ own_dh y w x es = x ∧ own_dn y w hd es = hd := by
  cases es with
  | nil => exact ⟨rfl, rfl, rfl, rfl⟩
  | cons e es =>
    have q := h e (List.mem_cons_self ..)
    exact ⟨by unfold own_dw; rw [if_pos q], by unfold own_dp; rw [if_pos q], by unfold own_dh; rw [if_pos q], by unfold own_dn; rw [if_pos q]⟩
end OwnDrop
theorem d9_0 : decode jdk_21_method_7_code 0 = .ok (.iinc 0 (-1), 3) := by decide +kernel
theorem d9_3 : decode jdk_21_method_7_code 3 = .ok (.iload_n 0, 1) := by decide +kernel
theorem d9_4 : decode jdk_21_method_7_code 4 = .ok (.ifCond .ge 7, 3) := by decide +kernel
theorem d9_7 : decode jdk_21_method_7_code 7 = .ok (.iload_n 1, 1) := by decide +kernel
theorem d9_8 : decode jdk_21_method_7_code 8 = .ok (.iconst 1, 1) := by decide +kernel
theorem d9_9 : decode jdk_21_method_7_code 9 = .ok (.isub, 1) := by decide +kernel
theorem d9_10 : decode jdk_21_method_7_code 10 = .ok (.istore_n 0, 1) := by decide +kernel
theorem d9_11 : decode jdk_21_method_7_code 11 = .ok (.iload_n 0, 1) := by decide +kernel
def own_dec (x1 : Int32) (x2 : Int32) : Int32 := (if (x1 + (-1 : Int32)) < (0 : Int32) then (x2 - (1 : Int32)) else (x1 + (-1 : Int32)))
theorem d9_12 : decode jdk_21_method_7_code 12 = .ok (.ireturn, 1) := by decide +kernel
theorem pn_0 : plainName "java/util/ArrayDeque" = true := by first | (simp [plainName, overriddenIn]; done) | decide +kernel
theorem ef_rm9 (m : MethodId) (x0 : Int32) (x1 : Int32) : entryFrame m #[(.int x0), (.int x1)] 2 = mkF m 0 #[.val (.int x0), .val (.int x1)] [] := by first | (simp [entryFrame, mkF, argsToLocals, Value.category]; done) | rfl
def Q9 (Z : State) (x1 : Int32) (x2 : Int32) (h0 : Heap) (n0 : Nat) (v : Option Value) (h : Heap) (L : List Loc) : Prop := v = some (.int (own_dec x1 x2)) ∧ Fr n0 L ∧ h = h0
set_option maxRecDepth 65536 in
set_option maxHeartbeats 40000000 in
theorem rm9 (l : Launch) (Z : State) (a0 : Array Value) (hw : ∀ d ∈ tables_1, d.before a0 Z = true) (ws : List Jvm.Cond) (x1 : Int32) (x2 : Int32) (h0 : Heap) (n0 : Nat) (Z0 : n0 ≤ h0.size) :
    MetFree l (⟨"java/util/ArrayDeque", "dec", "(II)I"⟩ : MethodName) (head1 (Jvm.Cond.code (⟨"java/util/ArrayDeque", "dec", "(II)I"⟩ : MethodName) jdk_21_method_7_code 2 (some .int) :: ws) ({ frames := 0, cells := 0, slots := 0, locals := 0 } : Room)) (fun a U => a = #[(.int x1), (.int x2)] ∧ Z.Warmed39 U.vm ∧ U.heap = h0) (fun _ _ _ _ _ => True) (fun _ U o U' => ∃ v L, o = .returned v ∧ Q9 Z x1 x2 h0 n0 v U'.heap L ∧ FrameEnd U o U' L ({ frames := 0, cells := 0, slots := 0, locals := 0 } : Room).cells ({ frames := 0, cells := 0, slots := 0, locals := 0 } : Room).slots) := by
  refine MetFree.of_bodySF (plainFor_of_name pn_0) hisR ?_
  intro p e s m args below meth c s₁ Bd hml0 hP hK
  obtain ⟨rfl, hZ, hh⟩ := hP
  have hx := Bd.exec
  have hby := Bd.bytes
  have hml : c.maxLocals = 2 := hml0
  have hown : s.vm.findClass "java/util/ArrayDeque" = some m.cls := findClass_of_methodNamed Bd.named
  have hnm := (name_of_methodNamed Bd.named Bd.method).1
  have X0 : Stand p l e ({ frames := 0, cells := 0, slots := 0, locals := 0 } : Room) s m #[(.int x1), (.int x2)] below meth c s₁ [] 0 0 := Stand.of_body Bd
  have e0 : s₁.heap = h0 := by rw [← hh, Bd.state]; rfl
  have N0 := Fr.nil n0
  have K0 := Keep.refl h0 []
  suffices hD : Dn p e below s (Q9 Z x1 x2 h0 n0) ({ frames := 0, cells := 0, slots := 0, locals := 0 } : Room).cells ({ frames := 0, cells := 0, slots := 0, locals := 0 } : Room).slots s₁ (mkF m 0 #[.val (.int x1), .val (.int x2)] []) from by
    obtain ⟨s₂, o, q1, q2⟩ := hD
    exact ⟨s₂, o, castTop (ef_rm9 m x1 x2) q1, q2⟩
  refine Dn.st (fun t q => XS.iinc X0.here hx rfl (hb hby d9_0) rfl (l' := #[.val (.int (x1 + (-1 : Int32))), .val (.int x2)]) rfl q) ?_
  show Dn p e below s _ _ _ s₁ (mkF m 3 #[.val (.int (x1 + (-1 : Int32))), .val (.int x2)] [])
  refine Dn.st (fun t q => XS.iloadN X0.here hx rfl (hb hby d9_3) rfl  q) ?_
  show Dn p e below s _ _ _ s₁ (mkF m 4 #[.val (.int (x1 + (-1 : Int32))), .val (.int x2)] [(.int (x1 + (-1 : Int32)))])
  by_cases c1 : (x1 + (-1 : Int32)) < (0 : Int32)
  · refine Dn.st (fun t q => XS.ifNo X0.here hx rfl (hb hby d9_4) rfl ((if0 _ _).trans (tlt c1).2.1) q) ?_
    show Dn p e below s _ _ _ s₁ (mkF m 7 #[.val (.int (x1 + (-1 : Int32))), .val (.int x2)] [])
    refine Dn.st (fun t q => XS.iloadN X0.here hx rfl (hb hby d9_7) rfl  q) ?_
    show Dn p e below s _ _ _ s₁ (mkF m 8 #[.val (.int (x1 + (-1 : Int32))), .val (.int x2)] [(.int x2)])
    refine Dn.st (fun t q => XS.iconst X0.here hx rfl (hb hby d9_8) q) ?_
    show Dn p e below s _ _ _ s₁ (mkF m 9 #[.val (.int (x1 + (-1 : Int32))), .val (.int x2)] [(.int (1 : Int32)), (.int x2)])
    refine Dn.st (fun t q => XS.isub X0.here hx rfl (hb hby d9_9) rfl q) ?_
    show Dn p e below s _ _ _ s₁ (mkF m 10 #[.val (.int (x1 + (-1 : Int32))), .val (.int x2)] [(.int (x2 - (1 : Int32)))])
    refine Dn.st (fun t q => XS.istoreN X0.here hx rfl (hb hby d9_10) rfl (l' := #[.val (.int (x2 - (1 : Int32))), .val (.int x2)]) rfl q) ?_
    show Dn p e below s _ _ _ s₁ (mkF m 11 #[.val (.int (x2 - (1 : Int32))), .val (.int x2)] [])
    refine Dn.st (fun t q => XS.iloadN X0.here hx rfl (hb hby d9_11) rfl  q) ?_
    show Dn p e below s _ _ _ s₁ (mkF m 12 #[.val (.int (x2 - (1 : Int32))), .val (.int x2)] [(.int (x2 - (1 : Int32)))])
    exact Dn.retI X0 hx Bd.notSynchronized Bd.returns (hb hby d9_12) (by rw [e0]; exact ⟨by show some (Value.int (x2 - (1 : Int32))) = some (Value.int (own_dec x1 x2)); rw [own_dec, if_pos c1], N0, rfl⟩) (by decide) (by decide)
  · refine Dn.st (fun t q => XS.ifYes X0.here hx rfl (pc0 := 4) (pc' := 11) rfl (hb hby d9_4) rfl ((if0 _ _).trans (flt c1).2.1) (by decide) (by decide) q) ?_
    show Dn p e below s _ _ _ s₁ (mkF m 11 #[.val (.int (x1 + (-1 : Int32))), .val (.int x2)] [])
    refine Dn.st (fun t q => XS.iloadN X0.here hx rfl (hb hby d9_11) rfl  q) ?_
    show Dn p e below s _ _ _ s₁ (mkF m 12 #[.val (.int (x1 + (-1 : Int32))), .val (.int x2)] [(.int (x1 + (-1 : Int32)))])
    exact Dn.retI X0 hx Bd.notSynchronized Bd.returns (hb hby d9_12) (by rw [e0]; exact ⟨by show some (Value.int (x1 + (-1 : Int32))) = some (Value.int (own_dec x1 x2)); rw [own_dec, if_neg c1], N0, rfl⟩) (by decide) (by decide)
theorem d13_0 : decode jdk_21_method_6_code 0 = .ok (.iinc 0 1, 3) := by decide +kernel
theorem d13_3 : decode jdk_21_method_6_code 3 = .ok (.iload_n 0, 1) := by decide +kernel
theorem d13_4 : decode jdk_21_method_6_code 4 = .ok (.iload_n 1, 1) := by decide +kernel
theorem d13_5 : decode jdk_21_method_6_code 5 = .ok (.if_icmp .lt 5, 3) := by decide +kernel
theorem d13_10 : decode jdk_21_method_6_code 10 = .ok (.iload_n 0, 1) := by decide +kernel
theorem d13_8 : decode jdk_21_method_6_code 8 = .ok (.iconst 0, 1) := by decide +kernel
theorem d13_9 : decode jdk_21_method_6_code 9 = .ok (.istore_n 0, 1) := by decide +kernel
def own_inc (x1 : Int32) (x2 : Int32) : Int32 := (if (x1 + (1 : Int32)) < x2 then (x1 + (1 : Int32)) else (0 : Int32))
theorem d13_11 : decode jdk_21_method_6_code 11 = .ok (.ireturn, 1) := by decide +kernel
theorem ef_rm13 (m : MethodId) (x0 : Int32) (x1 : Int32) : entryFrame m #[(.int x0), (.int x1)] 2 = mkF m 0 #[.val (.int x0), .val (.int x1)] [] := by first | (simp [entryFrame, mkF, argsToLocals, Value.category]; done) | rfl
def Q13 (Z : State) (x1 : Int32) (x2 : Int32) (h0 : Heap) (n0 : Nat) (v : Option Value) (h : Heap) (L : List Loc) : Prop := v = some (.int (own_inc x1 x2)) ∧ Fr n0 L ∧ h = h0
set_option maxRecDepth 65536 in
set_option maxHeartbeats 40000000 in
theorem rm13 (l : Launch) (Z : State) (a0 : Array Value) (hw : ∀ d ∈ tables_1, d.before a0 Z = true) (ws : List Jvm.Cond) (x1 : Int32) (x2 : Int32) (h0 : Heap) (n0 : Nat) (Z0 : n0 ≤ h0.size) :
    MetFree l (⟨"java/util/ArrayDeque", "inc", "(II)I"⟩ : MethodName) (head1 (Jvm.Cond.code (⟨"java/util/ArrayDeque", "inc", "(II)I"⟩ : MethodName) jdk_21_method_6_code 2 (some .int) :: ws) ({ frames := 0, cells := 0, slots := 0, locals := 0 } : Room)) (fun a U => a = #[(.int x1), (.int x2)] ∧ Z.Warmed39 U.vm ∧ U.heap = h0) (fun _ _ _ _ _ => True) (fun _ U o U' => ∃ v L, o = .returned v ∧ Q13 Z x1 x2 h0 n0 v U'.heap L ∧ FrameEnd U o U' L ({ frames := 0, cells := 0, slots := 0, locals := 0 } : Room).cells ({ frames := 0, cells := 0, slots := 0, locals := 0 } : Room).slots) := by
  refine MetFree.of_bodySF (plainFor_of_name pn_0) hisR ?_
  intro p e s m args below meth c s₁ Bd hml0 hP hK
  obtain ⟨rfl, hZ, hh⟩ := hP
  have hx := Bd.exec
  have hby := Bd.bytes
  have hml : c.maxLocals = 2 := hml0
  have hown : s.vm.findClass "java/util/ArrayDeque" = some m.cls := findClass_of_methodNamed Bd.named
  have hnm := (name_of_methodNamed Bd.named Bd.method).1
  have X0 : Stand p l e ({ frames := 0, cells := 0, slots := 0, locals := 0 } : Room) s m #[(.int x1), (.int x2)] below meth c s₁ [] 0 0 := Stand.of_body Bd
  have e0 : s₁.heap = h0 := by rw [← hh, Bd.state]; rfl
  have N0 := Fr.nil n0
  have K0 := Keep.refl h0 []
  suffices hD : Dn p e below s (Q13 Z x1 x2 h0 n0) ({ frames := 0, cells := 0, slots := 0, locals := 0 } : Room).cells ({ frames := 0, cells := 0, slots := 0, locals := 0 } : Room).slots s₁ (mkF m 0 #[.val (.int x1), .val (.int x2)] []) from by
    obtain ⟨s₂, o, q1, q2⟩ := hD
    exact ⟨s₂, o, castTop (ef_rm13 m x1 x2) q1, q2⟩
  refine Dn.st (fun t q => XS.iinc X0.here hx rfl (hb hby d13_0) rfl (l' := #[.val (.int (x1 + (1 : Int32))), .val (.int x2)]) rfl q) ?_
  show Dn p e below s _ _ _ s₁ (mkF m 3 #[.val (.int (x1 + (1 : Int32))), .val (.int x2)] [])
  refine Dn.st (fun t q => XS.iloadN X0.here hx rfl (hb hby d13_3) rfl  q) ?_
  show Dn p e below s _ _ _ s₁ (mkF m 4 #[.val (.int (x1 + (1 : Int32))), .val (.int x2)] [(.int (x1 + (1 : Int32)))])
  refine Dn.st (fun t q => XS.iloadN X0.here hx rfl (hb hby d13_4) rfl  q) ?_
  show Dn p e below s _ _ _ s₁ (mkF m 5 #[.val (.int (x1 + (1 : Int32))), .val (.int x2)] [(.int x2), (.int (x1 + (1 : Int32)))])
  by_cases c1 : (x1 + (1 : Int32)) < x2
  · refine Dn.st (fun t q => XS.icmpYes X0.here hx rfl (pc0 := 5) (pc' := 10) rfl (hb hby d13_5) rfl (tlt c1).1 (by decide) (by decide) q) ?_
    show Dn p e below s _ _ _ s₁ (mkF m 10 #[.val (.int (x1 + (1 : Int32))), .val (.int x2)] [])
    refine Dn.st (fun t q => XS.iloadN X0.here hx rfl (hb hby d13_10) rfl  q) ?_
    show Dn p e below s _ _ _ s₁ (mkF m 11 #[.val (.int (x1 + (1 : Int32))), .val (.int x2)] [(.int (x1 + (1 : Int32)))])
    exact Dn.retI X0 hx Bd.notSynchronized Bd.returns (hb hby d13_11) (by rw [e0]; exact ⟨by show some (Value.int (x1 + (1 : Int32))) = some (Value.int (own_inc x1 x2)); rw [own_inc, if_pos c1], N0, rfl⟩) (by decide) (by decide)
  · refine Dn.st (fun t q => XS.icmpNo X0.here hx rfl (hb hby d13_5) rfl (flt c1).1 q) ?_
    show Dn p e below s _ _ _ s₁ (mkF m 8 #[.val (.int (x1 + (1 : Int32))), .val (.int x2)] [])
    refine Dn.st (fun t q => XS.iconst X0.here hx rfl (hb hby d13_8) q) ?_
    show Dn p e below s _ _ _ s₁ (mkF m 9 #[.val (.int (x1 + (1 : Int32))), .val (.int x2)] [(.int (0 : Int32))])
    refine Dn.st (fun t q => XS.istoreN X0.here hx rfl (hb hby d13_9) rfl (l' := #[.val (.int (0 : Int32)), .val (.int x2)]) rfl q) ?_
    show Dn p e below s _ _ _ s₁ (mkF m 10 #[.val (.int (0 : Int32)), .val (.int x2)] [])
    refine Dn.st (fun t q => XS.iloadN X0.here hx rfl (hb hby d13_10) rfl  q) ?_
    show Dn p e below s _ _ _ s₁ (mkF m 11 #[.val (.int (0 : Int32)), .val (.int x2)] [(.int (0 : Int32))])
    exact Dn.retI X0 hx Bd.notSynchronized Bd.returns (hb hby d13_11) (by rw [e0]; exact ⟨by show some (Value.int (0 : Int32)) = some (Value.int (own_inc x1 x2)); rw [own_inc, if_neg c1], N0, rfl⟩) (by decide) (by decide)
theorem d20_0 : decode jdk_21_method_9_code 0 = .ok (.iload_n 0, 1) := by decide +kernel
theorem d20_1 : decode jdk_21_method_9_code 1 = .ok (.iload_n 1, 1) := by decide +kernel
theorem d20_2 : decode jdk_21_method_9_code 2 = .ok (.isub, 1) := by decide +kernel
theorem d20_3 : decode jdk_21_method_9_code 3 = .ok (.dup, 1) := by decide +kernel
theorem d20_4 : decode jdk_21_method_9_code 4 = .ok (.istore_n 0, 1) := by decide +kernel
theorem d20_5 : decode jdk_21_method_9_code 5 = .ok (.ifCond .ge 7, 3) := by decide +kernel
theorem d20_8 : decode jdk_21_method_9_code 8 = .ok (.iload_n 0, 1) := by decide +kernel
theorem d20_9 : decode jdk_21_method_9_code 9 = .ok (.iload_n 2, 1) := by decide +kernel
theorem d20_10 : decode jdk_21_method_9_code 10 = .ok (.iadd, 1) := by decide +kernel
theorem d20_11 : decode jdk_21_method_9_code 11 = .ok (.istore_n 0, 1) := by decide +kernel
theorem d20_12 : decode jdk_21_method_9_code 12 = .ok (.iload_n 0, 1) := by decide +kernel
def own_sub (x1 : Int32) (x2 : Int32) (x3 : Int32) : Int32 := (if (x1 - x2) < (0 : Int32) then ((x1 - x2) + x3) else (x1 - x2))
theorem d20_13 : decode jdk_21_method_9_code 13 = .ok (.ireturn, 1) := by decide +kernel
theorem ef_rm20 (m : MethodId) (x0 : Int32) (x1 : Int32) (x2 : Int32) : entryFrame m #[(.int x0), (.int x1), (.int x2)] 3 = mkF m 0 #[.val (.int x0), .val (.int x1), .val (.int x2)] [] := by first | (simp [entryFrame, mkF, argsToLocals, Value.category]; done) | rfl
def Q20 (Z : State) (x1 : Int32) (x2 : Int32) (x3 : Int32) (h0 : Heap) (n0 : Nat) (v : Option Value) (h : Heap) (L : List Loc) : Prop := v = some (.int (own_sub x1 x2 x3)) ∧ Fr n0 L ∧ h = h0
set_option maxRecDepth 65536 in
set_option maxHeartbeats 40000000 in
theorem rm20 (l : Launch) (Z : State) (a0 : Array Value) (hw : ∀ d ∈ tables_1, d.before a0 Z = true) (ws : List Jvm.Cond) (x1 : Int32) (x2 : Int32) (x3 : Int32) (h0 : Heap) (n0 : Nat) (Z0 : n0 ≤ h0.size) :
    MetFree l (⟨"java/util/ArrayDeque", "sub", "(III)I"⟩ : MethodName) (head1 (Jvm.Cond.code (⟨"java/util/ArrayDeque", "sub", "(III)I"⟩ : MethodName) jdk_21_method_9_code 3 (some .int) :: ws) ({ frames := 0, cells := 0, slots := 0, locals := 0 } : Room)) (fun a U => a = #[(.int x1), (.int x2), (.int x3)] ∧ Z.Warmed39 U.vm ∧ U.heap = h0) (fun _ _ _ _ _ => True) (fun _ U o U' => ∃ v L, o = .returned v ∧ Q20 Z x1 x2 x3 h0 n0 v U'.heap L ∧ FrameEnd U o U' L ({ frames := 0, cells := 0, slots := 0, locals := 0 } : Room).cells ({ frames := 0, cells := 0, slots := 0, locals := 0 } : Room).slots) := by
  refine MetFree.of_bodySF (plainFor_of_name pn_0) hisR ?_
  intro p e s m args below meth c s₁ Bd hml0 hP hK
  obtain ⟨rfl, hZ, hh⟩ := hP
  have hx := Bd.exec
  have hby := Bd.bytes
  have hml : c.maxLocals = 3 := hml0
  have hown : s.vm.findClass "java/util/ArrayDeque" = some m.cls := findClass_of_methodNamed Bd.named
  have hnm := (name_of_methodNamed Bd.named Bd.method).1
  have X0 : Stand p l e ({ frames := 0, cells := 0, slots := 0, locals := 0 } : Room) s m #[(.int x1), (.int x2), (.int x3)] below meth c s₁ [] 0 0 := Stand.of_body Bd
  have e0 : s₁.heap = h0 := by rw [← hh, Bd.state]; rfl
  have N0 := Fr.nil n0
  have K0 := Keep.refl h0 []
  suffices hD : Dn p e below s (Q20 Z x1 x2 x3 h0 n0) ({ frames := 0, cells := 0, slots := 0, locals := 0 } : Room).cells ({ frames := 0, cells := 0, slots := 0, locals := 0 } : Room).slots s₁ (mkF m 0 #[.val (.int x1), .val (.int x2), .val (.int x3)] []) from by
    obtain ⟨s₂, o, q1, q2⟩ := hD
    exact ⟨s₂, o, castTop (ef_rm20 m x1 x2 x3) q1, q2⟩
  refine Dn.st (fun t q => XS.iloadN X0.here hx rfl (hb hby d20_0) rfl  q) ?_
  show Dn p e below s _ _ _ s₁ (mkF m 1 #[.val (.int x1), .val (.int x2), .val (.int x3)] [(.int x1)])
  refine Dn.st (fun t q => XS.iloadN X0.here hx rfl (hb hby d20_1) rfl  q) ?_
  show Dn p e below s _ _ _ s₁ (mkF m 2 #[.val (.int x1), .val (.int x2), .val (.int x3)] [(.int x2), (.int x1)])
  refine Dn.st (fun t q => XS.isub X0.here hx rfl (hb hby d20_2) rfl q) ?_
  show Dn p e below s _ _ _ s₁ (mkF m 3 #[.val (.int x1), .val (.int x2), .val (.int x3)] [(.int (x1 - x2))])
  refine Dn.st (fun t q => XS.dup X0.here hx rfl (hb hby d20_3) rfl rfl q) ?_
  show Dn p e below s _ _ _ s₁ (mkF m 4 #[.val (.int x1), .val (.int x2), .val (.int x3)] [(.int (x1 - x2)), (.int (x1 - x2))])
  refine Dn.st (fun t q => XS.istoreN X0.here hx rfl (hb hby d20_4) rfl (l' := #[.val (.int (x1 - x2)), .val (.int x2), .val (.int x3)]) rfl q) ?_
  show Dn p e below s _ _ _ s₁ (mkF m 5 #[.val (.int (x1 - x2)), .val (.int x2), .val (.int x3)] [(.int (x1 - x2))])
  by_cases c1 : (x1 - x2) < (0 : Int32)
  · refine Dn.st (fun t q => XS.ifNo X0.here hx rfl (hb hby d20_5) rfl ((if0 _ _).trans (tlt c1).2.1) q) ?_
    show Dn p e below s _ _ _ s₁ (mkF m 8 #[.val (.int (x1 - x2)), .val (.int x2), .val (.int x3)] [])
    refine Dn.st (fun t q => XS.iloadN X0.here hx rfl (hb hby d20_8) rfl  q) ?_
    show Dn p e below s _ _ _ s₁ (mkF m 9 #[.val (.int (x1 - x2)), .val (.int x2), .val (.int x3)] [(.int (x1 - x2))])
    refine Dn.st (fun t q => XS.iloadN X0.here hx rfl (hb hby d20_9) rfl  q) ?_
    show Dn p e below s _ _ _ s₁ (mkF m 10 #[.val (.int (x1 - x2)), .val (.int x2), .val (.int x3)] [(.int x3), (.int (x1 - x2))])
    refine Dn.st (fun t q => XS.iadd X0.here hx rfl (hb hby d20_10) rfl q) ?_
    show Dn p e below s _ _ _ s₁ (mkF m 11 #[.val (.int (x1 - x2)), .val (.int x2), .val (.int x3)] [(.int ((x1 - x2) + x3))])
    refine Dn.st (fun t q => XS.istoreN X0.here hx rfl (hb hby d20_11) rfl (l' := #[.val (.int ((x1 - x2) + x3)), .val (.int x2), .val (.int x3)]) rfl q) ?_
    show Dn p e below s _ _ _ s₁ (mkF m 12 #[.val (.int ((x1 - x2) + x3)), .val (.int x2), .val (.int x3)] [])
    refine Dn.st (fun t q => XS.iloadN X0.here hx rfl (hb hby d20_12) rfl  q) ?_
    show Dn p e below s _ _ _ s₁ (mkF m 13 #[.val (.int ((x1 - x2) + x3)), .val (.int x2), .val (.int x3)] [(.int ((x1 - x2) + x3))])
    exact Dn.retI X0 hx Bd.notSynchronized Bd.returns (hb hby d20_13) (by rw [e0]; exact ⟨by show some (Value.int ((x1 - x2) + x3)) = some (Value.int (own_sub x1 x2 x3)); rw [own_sub, if_pos c1], N0, rfl⟩) (by decide) (by decide)
  · refine Dn.st (fun t q => XS.ifYes X0.here hx rfl (pc0 := 5) (pc' := 12) rfl (hb hby d20_5) rfl ((if0 _ _).trans (flt c1).2.1) (by decide) (by decide) q) ?_
    show Dn p e below s _ _ _ s₁ (mkF m 12 #[.val (.int (x1 - x2)), .val (.int x2), .val (.int x3)] [])
    refine Dn.st (fun t q => XS.iloadN X0.here hx rfl (hb hby d20_12) rfl  q) ?_
    show Dn p e below s _ _ _ s₁ (mkF m 13 #[.val (.int (x1 - x2)), .val (.int x2), .val (.int x3)] [(.int (x1 - x2))])
    exact Dn.retI X0 hx Bd.notSynchronized Bd.returns (hb hby d20_13) (by rw [e0]; exact ⟨by show some (Value.int (x1 - x2)) = some (Value.int (own_sub x1 x2 x3)); rw [own_sub, if_neg c1], N0, rfl⟩) (by decide) (by decide)
theorem own_ix {x k : Int32} {o i : Nat} (hx : x.toInt = (o : Int)) (hk : k.toInt = (i : Int)) (hb : o + i < 2147483648) : (x + k).toInt = ((o + i : Nat) : Int) := by
  rw [Jvm.Kit.i32_add (by omega) (by omega), hx, hk]; omega
theorem own_17 : (Nat.toInt32 17).toInt = 17 := by decide
theorem own_inc_eq {x : Int32} {i : Nat} (hx : x.toInt = (i : Int)) (hi : i < 16) : own_inc x (Nat.toInt32 17) = x + (1 : Int32) := by
  have e := own_ix (k := 1) hx (i := 1) rfl (by omega)
  unfold own_inc; rw [if_pos]
  rw [Int32.lt_iff_toInt_lt, e, own_17]; omega
/-- no entry is one of the three -/
def own_off (es : List Ent) (a q ar : Addr) : Prop := ∀ e ∈ es, e.1 ≠ a ∧ e.1 ≠ q ∧ e.1 ≠ ar
section OwnOff
variable {es es' : List Ent} {a q ar : Addr} {e : Ent}
theorem own_off1 (h : own_off es a q ar) : ∀ e ∈ es, e.1 ≠ a := fun e he => (h e he).1
theorem own_off2 (h : own_off es a q ar) : ∀ e ∈ es, e.1 ≠ q := fun e he => (h e he).2.1
theorem own_off3 (h : own_off es a q ar) : ∀ e ∈ es, e.1 ≠ ar := fun e he => (h e he).2.2
theorem own_off_hd (h : own_off (e :: es) a q ar) : e.1 ≠ a ∧ e.1 ≠ q ∧ e.1 ≠ ar := h e (List.mem_cons_self ..)
theorem own_off_tl (h : own_off (e :: es) a q ar) : own_off es a q ar := fun x hx => h x (List.mem_cons_of_mem _ hx)
theorem own_off_fst (h : own_off (es ++ es') a q ar) : own_off es a q ar := fun x hx => h x (List.mem_append_left _ hx)
theorem own_off_last (h : own_off (es ++ [e]) a q ar) : e.1 ≠ a ∧ e.1 ≠ q ∧ e.1 ≠ ar := h e (List.mem_append_right _ (List.mem_singleton.mpr rfl))
end OwnOff
/-- what is left to drop is what was left to drop -/
def own_same (y w pj : Int64) (xj : Int32) (dj : Nat) (ej : List Ent) (yp : Int64) (xh : Int32) (hd : Nat) (es : List Ent) : Prop :=
  own_dw y w ej = own_dw y w es ∧ own_dp y w pj ej = own_dp y w yp es ∧ own_dh y w xj ej = own_dh y w xh es ∧ own_dn y w dj ej = own_dn y w hd es
section OwnSame
variable {y w pj yp et ep : Int64} {xj xt xh : Int32} {dj hd : Nat} {ej es : List Ent} {ea : Addr}
theorem own_xeq (h1 : xj.toInt = (dj : Int)) (h2 : xt.toInt = ((dj + ([] : List Ent).length : Nat) : Int)) : xj = xt := Int32.toInt_inj.mp (h1.trans h2.symm)
theorem own_xne {e : Ent} (h1 : xj.toInt = (dj : Int)) (h2 : xt.toInt = ((dj + (e :: ej).length : Nat) : Int)) : ¬ (xj = xt) := fun q => by
  have := congrArg Int32.toInt q; rw [h1, h2, List.length_cons] at this; omega
theorem own_xne2 (h1 : xj.toInt = (dj : Int)) (h2 : xt.toInt = ((dj + ej.length : Nat) : Int)) (hb : dj + ej.length ≤ 3) : ¬ (xj = (xt + (1 : Int32))) := fun q => by
  have e := own_ix (k := 1) h2 (i := 1) rfl (by omega)
  have := congrArg Int32.toInt q; rw [h1, e] at this; omega
theorem own_b17 {e : Ent} (h : dj + (e :: ej).length ≤ 3) : dj < 17 := by rw [List.length_cons] at h; omega
theorem own_b16 {e : Ent} (h : dj + (e :: ej).length ≤ 3) : dj < 16 := by rw [List.length_cons] at h; omega
theorem own_b16' (h : dj + ej.length ≤ 3) : dj + ej.length < 16 := by omega
theorem own_stay (hl : (y - et) < w) (h : own_same y w pj xj dj ((ea, et, ep) :: ej) yp xh hd es) : own_dw y w es = (ea, et, ep) :: ej ∧ own_dp y w yp es = pj ∧ own_dh y w xh es = xj ∧ own_dn y w hd es = dj := by
  obtain ⟨h1, h2, h3, h4⟩ := h
  refine ⟨h1.symm.trans ?_, h2.symm.trans ?_, h3.symm.trans ?_, h4.symm.trans ?_⟩
  · unfold own_dw; exact if_pos hl
  · unfold own_dp; exact if_pos hl
  · unfold own_dh; exact if_pos hl
  · unfold own_dn; exact if_pos hl
theorem own_leave (hl : ¬ ((y - et) < w)) (h : own_same y w pj xj dj ((ea, et, ep) :: ej) yp xh hd es) : own_same y w (pj - ep) (xj + (1 : Int32)) (dj + 1) ej yp xh hd es := by
  obtain ⟨h1, h2, h3, h4⟩ := h
  refine ⟨Eq.trans ?_ h1, Eq.trans ?_ h2, Eq.trans ?_ h3, Eq.trans ?_ h4⟩
  · exact (show own_dw y w ((ea, et, ep) :: ej) = own_dw y w ej from if_neg hl).symm
  · exact (show own_dp y w pj ((ea, et, ep) :: ej) = own_dp y w (pj - ep) ej from if_neg hl).symm
  · exact (show own_dh y w xj ((ea, et, ep) :: ej) = own_dh y w (xj + 1) ej from if_neg hl).symm
  · exact (show own_dn y w dj ((ea, et, ep) :: ej) = own_dn y w (dj + 1) ej from if_neg hl).symm
theorem own_nil (h : own_same y w pj xj dj [] yp xh hd es) : own_dw y w es = [] ∧ own_dp y w yp es = pj ∧ own_dh y w xh es = xj ∧ own_dn y w hd es = dj := ⟨h.1.symm, h.2.1.symm, h.2.2.1.symm, h.2.2.2.symm⟩
theorem own_up1 {e : Ent} (h : xj.toInt = (dj : Int)) (hb : dj + (e :: ej).length ≤ 3) : (xj + (1 : Int32)).toInt = ((dj + 1 : Nat) : Int) := own_ix (k := 1) h (i := 1) rfl (by rw [List.length_cons] at hb; omega)
theorem own_up2 {e : Ent} (h : xt.toInt = ((dj + (e :: ej).length : Nat) : Int)) : xt.toInt = ((dj + 1 + ej.length : Nat) : Int) := by rw [h, List.length_cons]; congr 1; omega
theorem own_up3 {e : Ent} (h : dj + (e :: ej).length ≤ 3) : dj + 1 + ej.length ≤ 3 := by rw [List.length_cons] at h; omega
end OwnSame
/-- the index that peekLast reads -/
def own_pl (xt : Int32) : Nat := (own_dec xt (Nat.toInt32 17)).toInt.toNat
section OwnPl
variable {xt : Int32} {hd : Nat} {es e0 : List Ent} {ea : Addr} {et ep : Int64}
theorem own_dec_v (hxt : xt.toInt = ((hd + es.length : Nat) : Int)) (hb : hd + es.length ≤ 3) : (own_dec xt (Nat.toInt32 17)).toInt = if hd + es.length = 0 then 16 else ((hd + es.length - 1 : Nat) : Int) := by
  have e : (xt + (-1 : Int32)).toInt = xt.toInt - 1 := by
    have := Jvm.Kit.i32_add (p := xt) (q := (-1 : Int32)) (by rw [show (-1 : Int32).toInt = -1 from rfl]; omega) (by rw [show (-1 : Int32).toInt = -1 from rfl]; omega)
    rw [this, show (-1 : Int32).toInt = -1 from rfl]; omega
  unfold own_dec
  by_cases q : hd + es.length = 0
  · rw [if_pos q, if_pos (by rw [Int32.lt_iff_toInt_lt, e, hxt, show (0 : Int32).toInt = 0 from rfl]; omega)]; decide
  · rw [if_neg q, if_neg (by rw [Int32.lt_iff_toInt_lt, e, hxt, show (0 : Int32).toInt = 0 from rfl]; omega), e, hxt]; omega
theorem own_plx (hxt : xt.toInt = ((hd + es.length : Nat) : Int)) (hb : hd + es.length ≤ 3) : (own_dec xt (Nat.toInt32 17)).toInt = ((own_pl xt : Nat) : Int) := by
  unfold own_pl; have := own_dec_v hxt hb; rw [this]; split <;> omega
theorem own_pl_v (hxt : xt.toInt = ((hd + es.length : Nat) : Int)) (hb : hd + es.length ≤ 3) : own_pl xt = if hd + es.length = 0 then 16 else hd + es.length - 1 := by
  unfold own_pl; have := own_dec_v hxt hb; rw [this]; split <;> omega
theorem own_pl17 (hxt : xt.toInt = ((hd + es.length : Nat) : Int)) (hb : hd + es.length ≤ 3) : own_pl xt < 17 := by
  rw [own_pl_v hxt hb]; split <;> omega
theorem own_plnull (he : es = []) : own_at hd es (own_pl xt) = .null := by rw [he]; exact own_at_nil _
theorem own_pllast (hxt : xt.toInt = ((hd + es.length : Nat) : Int)) (hb : hd + es.length ≤ 3) (he : es = e0 ++ [(ea, et, ep)]) : own_at hd es (own_pl xt) = .ref ea := by
  have hl : es.length = e0.length + 1 := by rw [he]; simp
  rw [own_pl_v hxt hb, if_neg (by omega), he]
  exact own_at_last ea et ep (by rw [List.length_append, List.length_singleton]; omega)
end OwnPl
def own_added (N : Nat) (es : List Ent) (y q : Int64) (es2 : List Ent) : Prop :=
  (∃ b, N ≤ b ∧ es2 = es ++ [(b, y, q)] ∧ ∀ e0 ea et ep, es = e0 ++ [(ea, et, ep)] → et ≠ y) ∨ (∃ e0 ea ep, es = e0 ++ [(ea, y, ep)] ∧ es2 = e0 ++ [(ea, y, ep + q)])
section OwnAdd
variable {N N1 N2 b : Nat} {es es2 e0 : List Ent} {y q et ep : Int64} {ea : Addr} {xt : Int32} {hd : Nat}
theorem own_add_new (hb : N ≤ b) (h : ∀ e0 ea et ep, es = e0 ++ [(ea, et, ep)] → et ≠ y) : own_added N es y q (es ++ [(b, y, q)]) := Or.inl ⟨b, hb, rfl, h⟩
theorem own_add_same (he : es = e0 ++ [(ea, et, ep)]) (h : et = y) : own_added N es y q (e0 ++ [(ea, et, ep + q)]) := by subst h; exact Or.inr ⟨e0, ea, ep, he, rfl⟩
theorem own_difft (he : es = e0 ++ [(ea, et, ep)]) (h : ¬ (et = y)) : ∀ e1 ea1 et1 ep1, es = e1 ++ [(ea1, et1, ep1)] → et1 ≠ y := by
  intro e1 ea1 et1 ep1 h2 h3
  have h4 := (List.append_inj' (he.symm.trans h2) rfl).2
  injection h4 with h5 _
  exact h ((congrArg (fun z : Ent => z.2.1) h5).trans h3)
theorem own_tl0 (h : xt.toInt = ((hd + es.length : Nat) : Int)) (he : es = e0 ++ [(ea, et, ep)]) {ep' : Int64} : xt.toInt = ((hd + (e0 ++ [(ea, et, ep')]).length : Nat) : Int) := by rw [h, he]; simp
theorem own_tl1 (h : xt.toInt = ((hd + es.length : Nat) : Int)) (hb : hd + es.length ≤ 3) {e : Ent} : (xt + (1 : Int32)).toInt = ((hd + (es ++ [e]).length : Nat) : Int) := by
  rw [own_ix (k := 1) h (i := 1) rfl (by omega)]; simp; omega
end OwnAdd
section OwnLaw
variable {y w d t1 t2 t3 c1 c2 c3 p : Int64} {N1 N2 N3 n0 : Nat} {es es2 es3 : List Ent} {b b2 a q ar : Addr} {x xt : Int32} {hd : Nat}
theorem own_first {es : List Ent} (h : own_added N1 [] t1 c1 es) : ∃ b, N1 ≤ b ∧ es = [(b, t1, c1)] := by
  rcases h with ⟨b, hb, he, -⟩ | ⟨e0, ea, ep, he, -⟩
  · exact ⟨b, hb, he⟩
  · simp at he
theorem own_second (h : own_added N2 [(b, t1, c1)] t2 c2 es2) : (∃ b2, N2 ≤ b2 ∧ es2 = [(b, t1, c1), (b2, t2, c2)] ∧ t1 ≠ t2) ∨ (es2 = [(b, t1, c1 + c2)] ∧ t1 = t2) := by
  rcases h with ⟨b2, hb, he, hn⟩ | ⟨e0, ea, ep, he, h2⟩
  · exact Or.inl ⟨b2, hb, he, hn [] b t1 c1 rfl⟩
  · cases e0 with
    | nil => injection he with h3 _; injection h3 with h4 h5; injection h5 with h6 h7; subst h4 h6 h7; exact Or.inr ⟨h2, rfl⟩
    | cons e e0 => simp at he
theorem own_third2 (h : own_added N3 [(b, t1, c1), (b2, t2, c2)] t3 c3 es3) : (∃ b3, N3 ≤ b3 ∧ es3 = [(b, t1, c1), (b2, t2, c2), (b3, t3, c3)] ∧ t2 ≠ t3) ∨ (es3 = [(b, t1, c1), (b2, t2, c2 + c3)] ∧ t2 = t3) := by
  rcases h with ⟨b3, hb, he, hn⟩ | ⟨e0, ea, ep, he, h2⟩
  · exact Or.inl ⟨b3, hb, he, hn [(b, t1, c1)] b2 t2 c2 rfl⟩
  · have h4 := List.append_inj' (show [(b, t1, c1)] ++ [(b2, t2, c2)] = e0 ++ [(ea, t3, ep)] from he) rfl
    obtain ⟨h5, h6⟩ := h4
    injection h6 with h7 _; injection h7 with h8 h9; injection h9 with h10 h11; subst h5 h8 h10 h11; exact Or.inr ⟨h2, rfl⟩
/-- the list behind the second add -/
theorem own_second_f (hlt : b < N2) (ha : a < N2) (hq : q < N2) (har : ar < N2) (hn : n0 ≤ b) (hn2 : n0 ≤ N2) (hne : b ≠ a ∧ b ≠ q ∧ b ≠ ar) (h : own_added N2 [(b, t1, c1)] t2 c2 es2) (w1 : (t3 - t1) < w) (w2 : (t3 - t2) < w) :
    (∃ e0 ea et ep, es2 = e0 ++ [(ea, et, ep)] ∧ (∀ e ∈ e0, e.1 ≠ ea) ∧ n0 ≤ ea) ∧ own_off es2 a q ar ∧ es2.length ≤ 2 ∧ ∀ e ∈ es2, (t3 - e.2.1) < w := by
  rcases own_second h with ⟨b2, hb2, rfl, -⟩ | ⟨rfl, -⟩
  · refine ⟨⟨[(b, t1, c1)], b2, t2, c2, rfl, ?_, Nat.le_trans hn2 hb2⟩, ?_, Nat.le_refl _, ?_⟩
    · intro e he; rw [List.mem_singleton.mp he]; exact Nat.ne_of_lt (Nat.lt_of_lt_of_le hlt hb2)
    · intro e he
      rcases List.mem_cons.mp he with rfl | he
      · exact hne
      · rw [List.mem_singleton.mp he]; exact ⟨Nat.ne_of_gt (Nat.lt_of_lt_of_le ha hb2), Nat.ne_of_gt (Nat.lt_of_lt_of_le hq hb2), Nat.ne_of_gt (Nat.lt_of_lt_of_le har hb2)⟩
    · intro e he
      rcases List.mem_cons.mp he with rfl | he
      · exact w1
      · rw [List.mem_singleton.mp he]; exact w2
  · refine ⟨⟨[], b, t1, c1 + c2, rfl, fun e he => absurd he List.not_mem_nil, hn⟩, ?_, Nat.le_succ _, ?_⟩
    · intro e he; rw [List.mem_singleton.mp he]; exact hne
    · intro e he; rw [List.mem_singleton.mp he]; exact w1
/-- the list behind the third add -/
theorem own_third_f (ha : a < N3) (hq : q < N3) (har : ar < N3) (hl : es2.length ≤ 2) (hoff : own_off es2 a q ar) (h : own_added N3 es2 t3 c3 es3) : own_off es3 a q ar ∧ es3.length ≤ 3 := by
  rcases h with ⟨b3, hb, rfl, -⟩ | ⟨e0, ea, ep, rfl, rfl⟩
  · refine ⟨?_, by rw [List.length_append, List.length_singleton]; omega⟩
    intro e he
    rcases List.mem_append.mp he with he | he
    · exact hoff e he
    · rw [List.mem_singleton.mp he]; exact ⟨Nat.ne_of_gt (Nat.lt_of_lt_of_le ha hb), Nat.ne_of_gt (Nat.lt_of_lt_of_le hq hb), Nat.ne_of_gt (Nat.lt_of_lt_of_le har hb)⟩
  · refine ⟨?_, by rw [List.length_append, List.length_singleton] at hl ⊢; omega⟩
    intro e he
    rcases List.mem_append.mp he with he | he
    · exact hoff e (List.mem_append_left _ he)
    · rw [List.mem_singleton.mp he]; exact hoff (ea, t3, ep) (List.mem_append_right _ (List.mem_singleton.mpr rfl))
theorem own_dw_sub : ∀ es : List Ent, ∀ e ∈ own_dw y w es, e ∈ es
  | [], _, h => h
  | e1 :: es, e, h => by
    unfold own_dw at h
    by_cases q : (y - e1.2.1) < w
    · rw [if_pos q] at h; exact h
    · rw [if_neg q] at h; exact List.mem_cons_of_mem _ (own_dw_sub es e h)
theorem own_dn_len : ∀ (hd : Nat) (es : List Ent), own_dn y w hd es + (own_dw y w es).length = hd + es.length
  | _, [] => rfl
  | hd, e1 :: es => by
    unfold own_dn own_dw
    by_cases q : (y - e1.2.1) < w
    · rw [if_pos q, if_pos q]
    · rw [if_neg q, if_neg q, own_dn_len, List.length_cons]; omega
theorem own_dh_v : ∀ (x : Int32) (hd : Nat) (es : List Ent), x.toInt = (hd : Int) → hd + es.length ≤ 3 → (own_dh y w x es).toInt = ((own_dn y w hd es : Nat) : Int)
  | _, _, [], h, _ => h
  | x, hd, e1 :: es, h, hb => by
    unfold own_dh own_dn
    by_cases q : (y - e1.2.1) < w
    · rw [if_pos q, if_pos q]; exact h
    · rw [if_neg q, if_neg q]; exact own_dh_v _ _ es (own_up1 h hb) (own_up3 hb)
theorem Ens.dw {Z : State} {h : Heap} (F : Ens Z h es) : Ens Z h (own_dw y w es) := fun e he => F e (own_dw_sub es e he)
theorem own_off_dw (h : own_off es a q ar) : own_off (own_dw y w es) a q ar := fun e he => h e (own_dw_sub es e he)
/-- what size() gives -/
theorem own_sub_v {xh : Int32} {k : Nat} (h1 : xh.toInt = (hd : Int)) (h2 : xt.toInt = ((hd + k : Nat) : Int)) (hb : hd + k ≤ 3) : own_sub xt xh (Nat.toInt32 17) = Int32.ofNat k := by
  have e : (xt - xh).toInt = (k : Int) := by rw [Jvm.Kit.i32_sub (by omega) (by omega), h1, h2]; omega
  unfold own_sub; rw [if_neg (by rw [Int32.lt_iff_toInt_lt, e, show (0 : Int32).toInt = 0 from rfl]; omega)]
  exact Int32.toInt_inj.mp (e.trans (Int32.toInt_ofNat_of_lt (by omega)).symm)
theorem own_sum1 (a b : Int64) : (0 : Int64) + a + b - a - b = 0 := by grind
/-- the law's two numbers, from the three ticks' places -/
theorem own_final (h12 : (d - t1) < w → (d - t2) < w) (h23 : (d - t2) < w → (d - t3) < w) (g2 : own_added N2 [(b, t1, c1)] t2 c2 es2) (g3 : own_added N3 es2 t3 c3 es3) :
    Int32.ofNat (own_dw d w es3).length = (if (d - t1) < w then (1 : Int32) else (0 : Int32)) + (if (d - t2) < w ∧ ¬ (t2 = t1) then (1 : Int32) else (0 : Int32)) + (if (d - t3) < w ∧ ¬ (t3 = t2) then (1 : Int32) else (0 : Int32)) ∧
    own_dp d w ((0 : Int64) + c1 + c2 + c3) es3 = (if (d - t1) < w then c1 else (0 : Int64)) + (if (d - t2) < w then c2 else (0 : Int64)) + (if (d - t3) < w then c3 else (0 : Int64)) := by
  by_cases s1 : (d - t1) < w
  · have s2 := h12 s1
    have s3 := h23 s2
    rcases own_second g2 with ⟨b2, -, rfl, n1⟩ | ⟨rfl, rfl⟩
    · rcases own_third2 g3 with ⟨b3, -, rfl, n2⟩ | ⟨rfl, rfl⟩
      · simp [own_dw, own_dp, s1, s2, s3, Ne.symm n1, Ne.symm n2]
      · simp [own_dw, own_dp, s1, s2, Ne.symm n1]
    · rcases own_second g3 with ⟨b3, -, rfl, n2⟩ | ⟨rfl, rfl⟩
      · simp [own_dw, own_dp, s1, s3, Ne.symm n2]
      · simp [own_dw, own_dp, s1]
  · by_cases s2 : (d - t2) < w
    · have s3 := h23 s2
      rcases own_second g2 with ⟨b2, -, rfl, n1⟩ | ⟨rfl, rfl⟩
      · rcases own_third2 g3 with ⟨b3, -, rfl, n2⟩ | ⟨rfl, rfl⟩
        · simp [own_dw, own_dp, s1, s2, s3, Ne.symm n1, Ne.symm n2] <;> grind
        · simp [own_dw, own_dp, s1, s2, Ne.symm n1] <;> grind
      · exact absurd s2 s1
    · by_cases s3 : (d - t3) < w
      · rcases own_second g2 with ⟨b2, -, rfl, n1⟩ | ⟨rfl, rfl⟩
        · rcases own_third2 g3 with ⟨b3, -, rfl, n2⟩ | ⟨rfl, rfl⟩
          · simp [own_dw, own_dp, s1, s2, s3, Ne.symm n2] <;> grind
          · exact absurd s3 s2
        · rcases own_second g3 with ⟨b3, -, rfl, n2⟩ | ⟨rfl, rfl⟩
          · simp [own_dw, own_dp, s1, s3, Ne.symm n2] <;> grind
          · exact absurd s3 s1
      · rcases own_second g2 with ⟨b2, -, rfl, n1⟩ | ⟨rfl, rfl⟩
        · rcases own_third2 g3 with ⟨b3, -, rfl, n2⟩ | ⟨rfl, rfl⟩
          · simp [own_dw, own_dp, s1, s2, s3] <;> grind
          · simp [own_dw, own_dp, s1, s2] <;> grind
        · rcases own_second g3 with ⟨b3, -, rfl, n2⟩ | ⟨rfl, rfl⟩
          · simp [own_dw, own_dp, s1, s3] <;> grind
          · simp [own_dw, own_dp, s1] <;> grind
theorem own_z0 {P : Prop} [Decidable P] {z : Int32} (h : z = if P then (1 : Int32) else (0 : Int32)) (q : z = (0 : Int32)) : (0 : Int32) = if P then (1 : Int32) else (0 : Int32) := q.symm.trans h
theorem own_zP {P : Prop} [Decidable P] {z : Int32} (h : z = if P then (1 : Int32) else (0 : Int32)) (q : ¬ (z = (0 : Int32))) : P := by
  by_cases r : P
  · exact r
  · rw [if_neg r] at h; exact absurd h q
theorem own_zN {P : Prop} [Decidable P] {z : Int32} (h : z = if P then (1 : Int32) else (0 : Int32)) (q : z = (0 : Int32)) : ¬ P := fun r => by
  rw [if_pos r, q] at h; exact absurd h (by decide)
theorem own_z1 {P : Prop} [Decidable P] {z : Int32} (h : z = if P then (1 : Int32) else (0 : Int32)) (q : ¬ (z = (0 : Int32))) : (1 : Int32) = if P then (1 : Int32) else (0 : Int32) := (if_pos (own_zP h q)).symm
theorem own_zn {P R : Prop} [Decidable P] [Decidable R] {z : Int32} (h : z = if P then (1 : Int32) else (0 : Int32)) (q : z = (0 : Int32)) : (0 : Int32) = if P ∧ ¬ R then (1 : Int32) else (0 : Int32) := (if_neg (fun r => own_zN h q r.1)).symm
theorem own_ze {P R : Prop} [Decidable P] [Decidable R] (q : R) : (0 : Int32) = if P ∧ ¬ R then (1 : Int32) else (0 : Int32) := (if_neg (fun r => r.2 q)).symm
theorem own_zy {P R : Prop} [Decidable P] [Decidable R] {z : Int32} (h : z = if P then (1 : Int32) else (0 : Int32)) (q : ¬ (z = (0 : Int32))) (r : ¬ R) : (1 : Int32) = if P ∧ ¬ R then (1 : Int32) else (0 : Int32) := (if_pos ⟨own_zP h q, r⟩).symm
theorem own_p0 {P : Prop} [Decidable P] {z : Int32} {c : Int64} (h : z = if P then (1 : Int32) else (0 : Int32)) (q : z = (0 : Int32)) : (0 : Int64) = if P then c else (0 : Int64) := (if_neg (own_zN h q)).symm
theorem own_p1 {P : Prop} [Decidable P] {z : Int32} {c : Int64} (h : z = if P then (1 : Int32) else (0 : Int32)) (q : ¬ (z = (0 : Int32))) : c = if P then c else (0 : Int64) := (if_pos (own_zP h q)).symm
theorem own_fst (w1 : (t1 - t1) < w) (w2 : (t1 - t2) < w) (w3 : (t1 - t3) < w) (g2 : own_added N2 [(b, t1, c1)] t2 c2 es2) (g3 : own_added N3 es2 t3 c3 es3) : ∀ e ∈ own_dw d w es3, (t1 - e.2.1) < w := by
  intro e he
  have he := own_dw_sub es3 e he
  rcases own_second g2 with ⟨b2, -, rfl, -⟩ | ⟨rfl, -⟩
  · rcases own_third2 g3 with ⟨b3, -, rfl, -⟩ | ⟨rfl, -⟩
    · simp only [List.mem_cons, List.not_mem_nil, or_false] at he
      rcases he with rfl | rfl | rfl
      · exact w1
      · exact w2
      · exact w3
    · simp only [List.mem_cons, List.not_mem_nil, or_false] at he
      rcases he with rfl | rfl
      · exact w1
      · exact w2
  · rcases own_second g3 with ⟨b3, -, rfl, -⟩ | ⟨rfl, -⟩
    · simp only [List.mem_cons, List.not_mem_nil, or_false] at he
      rcases he with rfl | rfl
      · exact w1
      · exact w3
    · simp only [List.mem_cons, List.not_mem_nil, or_false] at he
      rcases he with rfl
      exact w1
theorem own_cons (h : ¬ (es = [])) : ∃ ea et ep es', es = (ea, et, ep) :: es' := by
  cases es with
  | nil => exact absurd rfl h
  | cons e es => exact ⟨e.1, e.2.1, e.2.2, es, rfl⟩
theorem own_at_first {ea : Addr} {et ep : Int64} {es' : List Ent} (h : es = (ea, et, ep) :: es') : own_at hd es hd = .ref ea := by rw [h]; exact own_at_hd
theorem own_rem0 {xh : Int32} (he : es = []) (h1 : xh.toInt = (hd : Int)) (h2 : xt.toInt = ((hd + es.length : Nat) : Int)) (hb : hd + es.length ≤ 3) : (if (0 : Int32) < own_sub xt xh (Nat.toInt32 17) then (1 : Int32) else (0 : Int32)) = (0 : Int32) := by
  rw [own_sub_v h1 h2 hb, he]; decide
theorem own_rem1 {xh : Int32} {e : Ent} {es' : List Ent} (he : es = e :: es') (h1 : xh.toInt = (hd : Int)) (h2 : xt.toInt = ((hd + es.length : Nat) : Int)) (hb : hd + es.length ≤ 3) : (0 : Int32) < own_sub xt xh (Nat.toInt32 17) := by
  have hl : es.length = es'.length + 1 := by rw [he]; rfl
  rw [own_sub_v h1 h2 hb, Int32.lt_iff_toInt_lt, Int32.toInt_ofNat_of_lt (by omega), show (0 : Int32).toInt = 0 from rfl]; omega
theorem own_b17' {e : Ent} {es' : List Ent} (he : es = e :: es') (hb : hd + es.length ≤ 3) : hd < 17 := by
  have hl : es.length = es'.length + 1 := by rw [he]; rfl
  omega
-- the law's own numbers
theorem own_w1 (x : Int32) : 1 ≤ ((1 : Int64) + (x &&& (7 : Int32)).toInt64).toInt ∧ ((1 : Int64) + (x &&& (7 : Int32)).toInt64).toInt ≤ 1048576 := by
  have e : (x &&& (7 : Int32)).toInt = x.toInt % 2 ^ 3 := Jvm.Kit.i32_mask x 7 (k := 3) (by decide) (by decide)
  have e2 := Jvm.Kit.i64_of_i32 (x &&& (7 : Int32))
  have e1 : ((1 : Int64)).toInt = 1 := rfl
  rw [Jvm.Kit.i64_add (by omega) (by omega)]; omega
theorem own_w2 (z : Int64) : 1 ≤ ((1 : Int64) + (z &&& (1048575 : Int64))).toInt ∧ ((1 : Int64) + (z &&& (1048575 : Int64))).toInt ≤ 1048576 := by
  have e : (z &&& (1048575 : Int64)).toInt = z.toInt % 2 ^ 20 := Jvm.Kit.i64_mask z 1048575 (k := 20) (by decide) (by decide)
  have e1 : ((1 : Int64)).toInt = 1 := rfl
  rw [Jvm.Kit.i64_add (by omega) (by omega)]; omega
theorem own_15 (x : Int32) : 0 ≤ (x &&& (15 : Int32)).toInt64.toInt ∧ (x &&& (15 : Int32)).toInt64.toInt < 16 := by
  have e : (x &&& (15 : Int32)).toInt = x.toInt % 2 ^ 4 := Jvm.Kit.i32_mask x 15 (k := 4) (by decide) (by decide)
  rw [Jvm.Kit.i64_of_i32]; omega
theorem own_nz64 {v : Int64} (h : 0 < v.toInt) : v ≠ 0 := fun q => by rw [q] at h; exact absurd h (by decide)
theorem own_mod {v u g : Int64} (hv : 0 ≤ v.toInt ∧ v.toInt < 16) (hu : 0 < u.toInt) (h : v - (v / u) * u = g) : 0 ≤ g.toInt ∧ g.toInt < u.toInt ∧ g.toInt < 16 := by
  rw [← h, Jvm.Kit.i64_rem_nonneg hv.1]
  have h1 := Int.emod_nonneg v.toInt (show u.toInt ≠ 0 by omega)
  have h2 := Int.emod_lt_of_pos v.toInt hu
  have h3 : v.toInt % u.toInt ≤ v.toInt := by rw [Int.emod_def]; exact Int.sub_le_self _ (Int.mul_nonneg (by omega) (Int.ediv_nonneg hv.1 (by omega)))
  omega
theorem own_t1 {z t : Int64} (h : (z &&& (4611686018427387903 : Int64)) = t) : 0 ≤ t.toInt ∧ t.toInt < 4611686018427387904 := by
  have e : (z &&& (4611686018427387903 : Int64)).toInt = z.toInt % 2 ^ 62 := Jvm.Kit.i64_mask z 4611686018427387903 (k := 62) (by decide) (by decide)
  rw [← h, e]; omega
theorem own_tadd {t g u : Int64} {B : Int} (ht : 0 ≤ t.toInt ∧ t.toInt < B) (hB : B < 4611686018427387904 + 1000) (hg : 0 ≤ g.toInt ∧ g.toInt < 16) (h : t + g = u) : u.toInt = t.toInt + g.toInt := by
  rw [← h, Jvm.Kit.i64_add (by omega) (by omega)]
theorem own_d1 (z : Int64) {t d : Int64} (ht : 0 ≤ t.toInt ∧ t.toInt < 4611686018427387904 + 100) (h : t + (z &&& (31 : Int64)) = d) : t.toInt ≤ d.toInt ∧ d.toInt < 4611686018427387904 + 288230376151711744 + 100 := by
  have e : (z &&& (31 : Int64)).toInt = z.toInt % 2 ^ 5 := Jvm.Kit.i64_mask z 31 (k := 5) (by decide) (by decide)
  rw [← h, Jvm.Kit.i64_add (by omega) (by omega)]; omega
theorem own_ush (x : Int64) {k : UInt64} (hk : k.toNat = 6) : 0 ≤ ((x.toUInt64 >>> k).toInt64).toInt ∧ ((x.toUInt64 >>> k).toInt64).toInt < 288230376151711744 := by
  have hb := x.toBitVec.isLt
  have e2 : ((x.toUInt64 >>> k).toInt64).toBitVec.toNat = x.toBitVec.toNat / 2 ^ 6 := by
    simp only [UInt64.toBitVec_toInt64, UInt64.toBitVec_shiftRight, Int64.toBitVec_toUInt64]
    simp [BitVec.toNat_ushiftRight, Nat.shiftRight_eq_div_pow, hk]
  have e3 : ((x.toUInt64 >>> k).toInt64).toInt = ((x.toBitVec.toNat / 2 ^ 6 : Nat) : Int) := by
    have : ((x.toUInt64 >>> k).toInt64).toInt = ((x.toUInt64 >>> k).toInt64).toBitVec.toInt := rfl
    rw [this, BitVec.toInt_eq_toNat_cond, e2, if_pos (by omega)]
  rw [e3]; omega
theorem own_d2 (z : Int64) {t d : Int64} {k : UInt64} (hk : k.toNat = 6) (ht : 0 ≤ t.toInt ∧ t.toInt < 4611686018427387904 + 100) (h : t + ((z.toUInt64 >>> k).toInt64) = d) : t.toInt ≤ d.toInt ∧ d.toInt < 4611686018427387904 + 288230376151711744 + 100 := by
  have e := own_ush z hk
  rw [← h, Jvm.Kit.i64_add (by omega) (by omega)]; omega
theorem own_sublt {u v w : Int64} (hu : 0 ≤ u.toInt) (hv : 0 ≤ v.toInt) : (u - v) < w ↔ u.toInt - v.toInt < w.toInt := by
  have := u.toInt_lt; have := v.toInt_lt
  rw [Int64.lt_iff_toInt_lt, Jvm.Kit.i64_sub (by omega) (by omega)]
end OwnLaw
theorem d10_0 : decode jdk_21_method_10_code 0 = .ok (.aload_n 0, 1) := by decide +kernel
theorem d10_1 : decode jdk_21_method_10_code 1 = .ok (.iload_n 1, 1) := by decide +kernel
theorem d10_2 : decode jdk_21_method_10_code 2 = .ok (.aaload, 1) := by decide +kernel
theorem d10_3 : decode jdk_21_method_10_code 3 = .ok (.areturn, 1) := by decide +kernel
theorem ef_rm10 (m : MethodId) (x0 : Addr) (x1 : Int32) : entryFrame m #[(.ref x0), (.int x1)] 2 = mkF m 0 #[.val (.ref x0), .val (.int x1)] [] := by first | (simp [entryFrame, mkF, argsToLocals, Value.category]; done) | rfl
def Q10 (Z : State) (a1 : Addr) (x1 : Int32) (f : Nat → Value) (i : Nat) (u : Value) (h0 : Heap) (n0 : Nat) (v : Option Value) (h : Heap) (L : List Loc) : Prop := v = some u ∧ Fr n0 L ∧ h = h0
set_option maxRecDepth 65536 in
set_option maxHeartbeats 40000000 in
theorem rm10 (l : Launch) (Z : State) (a0 : Array Value) (hw : ∀ d ∈ tables_1, d.before a0 Z = true) (ws : List Jvm.Cond) (a1 : Addr) (x1 : Int32) (f : Nat → Value) (i : Nat) (u : Value) (h0 : Heap) (n0 : Nat) (Z0 : n0 ≤ h0.size) (A : AryO Z h0 a1 17 f) (hx1 : x1.toInt = (i : Int)) (hi : i < 17) (hu : f i = u) (hr : u.isRef = true) :
    MetFree l (⟨"java/util/ArrayDeque", "elementAt", "([Ljava/lang/Object;I)Ljava/lang/Object;"⟩ : MethodName) (head1 (Jvm.Cond.code (⟨"java/util/ArrayDeque", "elementAt", "([Ljava/lang/Object;I)Ljava/lang/Object;"⟩ : MethodName) jdk_21_method_10_code 2 (some (.object "java/lang/Object")) :: ws) ({ frames := 0, cells := 0, slots := 0, locals := 0 } : Room)) (fun a U => a = #[(.ref a1), (.int x1)] ∧ Z.Warmed39 U.vm ∧ U.heap = h0) (fun _ _ _ _ _ => True) (fun _ U o U' => ∃ v L, o = .returned v ∧ Q10 Z a1 x1 f i u h0 n0 v U'.heap L ∧ FrameEnd U o U' L ({ frames := 0, cells := 0, slots := 0, locals := 0 } : Room).cells ({ frames := 0, cells := 0, slots := 0, locals := 0 } : Room).slots) := by
  refine MetFree.of_bodySF (plainFor_of_name pn_0) hisR ?_
  intro p e s m args below meth c s₁ Bd hml0 hP hK
  obtain ⟨rfl, hZ, hh⟩ := hP
  have hx := Bd.exec
  have hby := Bd.bytes
  have hml : c.maxLocals = 2 := hml0
  have hown : s.vm.findClass "java/util/ArrayDeque" = some m.cls := findClass_of_methodNamed Bd.named
  have hnm := (name_of_methodNamed Bd.named Bd.method).1
  have X0 : Stand p l e ({ frames := 0, cells := 0, slots := 0, locals := 0 } : Room) s m #[(.ref a1), (.int x1)] below meth c s₁ [] 0 0 := Stand.of_body Bd
  have e0 : s₁.heap = h0 := by rw [← hh, Bd.state]; rfl
  have N0 := Fr.nil n0
  have K0 := Keep.refl h0 []
  suffices hD : Dn p e below s (Q10 Z a1 x1 f i u h0 n0) ({ frames := 0, cells := 0, slots := 0, locals := 0 } : Room).cells ({ frames := 0, cells := 0, slots := 0, locals := 0 } : Room).slots s₁ (mkF m 0 #[.val (.ref a1), .val (.int x1)] []) from by
    obtain ⟨s₂, o, q1, q2⟩ := hD
    exact ⟨s₂, o, castTop (ef_rm10 m a1 x1) q1, q2⟩
  refine Dn.st (fun t q => XS.aloadN X0.here hx rfl (hb hby d10_0) rfl rfl  q) ?_
  show Dn p e below s _ _ _ s₁ (mkF m 1 #[.val (.ref a1), .val (.int x1)] [(.ref a1)])
  refine Dn.st (fun t q => XS.iloadN X0.here hx rfl (hb hby d10_1) rfl  q) ?_
  show Dn p e below s _ _ _ s₁ (mkF m 2 #[.val (.ref a1), .val (.int x1)] [(.int x1), (.ref a1)])
  refine Dn.st (aLoadO (v := u) X0 hx hZ e0 A (i := i) hx1 hi hu (g := (mkF m 2 #[.val (.ref a1), .val (.int x1)] [(.int x1), (.ref a1)])) rfl rfl (hb hby d10_2)) ?_
  show Dn p e below s _ _ _ s₁ (mkF m 3 #[.val (.ref a1), .val (.int x1)] [u])
  exact Dn.retR X0 hx Bd.notSynchronized Bd.returns rfl hr (own_nar hr) (hb hby d10_3) (by rw [e0]; exact ⟨rfl, N0, rfl⟩) (by decide) (by decide)
theorem d26_0 : decode jdk_21_method_11_code 0 = .ok (.aload_n 0, 1) := by decide +kernel
theorem d26_1 : decode jdk_21_method_11_code 1 = .ok (.iload_n 1, 1) := by decide +kernel
theorem d26_2 : decode jdk_21_method_11_code 2 = .ok (.aaload, 1) := by decide +kernel
theorem d26_3 : decode jdk_21_method_11_code 3 = .ok (.astore_n 2, 1) := by decide +kernel
theorem d26_4 : decode jdk_21_method_11_code 4 = .ok (.aload_n 2, 1) := by decide +kernel
theorem d26_5 : decode jdk_21_method_11_code 5 = .ok (.ifnonnull 11, 3) := by decide +kernel
theorem d26_16 : decode jdk_21_method_11_code 16 = .ok (.aload_n 2, 1) := by decide +kernel
theorem d26_17 : decode jdk_21_method_11_code 17 = .ok (.areturn, 1) := by decide +kernel
theorem ef_rm26 (m : MethodId) (x0 : Addr) (x1 : Int32) : entryFrame m #[(.ref x0), (.int x1)] 3 = mkF m 0 #[.val (.ref x0), .val (.int x1), .unset] [] := by first | (simp [entryFrame, mkF, argsToLocals, Value.category]; done) | rfl
def Q26 (Z : State) (a1 : Addr) (x1 : Int32) (f : Nat → Value) (i : Nat) (ea : Addr) (h0 : Heap) (n0 : Nat) (v : Option Value) (h : Heap) (L : List Loc) : Prop := v = some (.ref ea) ∧ Fr n0 L ∧ h = h0
set_option maxRecDepth 65536 in
set_option maxHeartbeats 40000000 in
theorem rm26 (l : Launch) (Z : State) (a0 : Array Value) (hw : ∀ d ∈ tables_1, d.before a0 Z = true) (ws : List Jvm.Cond) (a1 : Addr) (x1 : Int32) (f : Nat → Value) (i : Nat) (ea : Addr) (h0 : Heap) (n0 : Nat) (Z0 : n0 ≤ h0.size) (A : AryO Z h0 a1 17 f) (hx1 : x1.toInt = (i : Int)) (hi : i < 17) (hu : f i = .ref ea) :
    MetFree l (⟨"java/util/ArrayDeque", "nonNullElementAt", "([Ljava/lang/Object;I)Ljava/lang/Object;"⟩ : MethodName) (head1 (Jvm.Cond.code (⟨"java/util/ArrayDeque", "nonNullElementAt", "([Ljava/lang/Object;I)Ljava/lang/Object;"⟩ : MethodName) jdk_21_method_11_code 3 (some (.object "java/lang/Object")) :: ws) ({ frames := 0, cells := 0, slots := 0, locals := 0 } : Room)) (fun a U => a = #[(.ref a1), (.int x1)] ∧ Z.Warmed39 U.vm ∧ U.heap = h0) (fun _ _ _ _ _ => True) (fun _ U o U' => ∃ v L, o = .returned v ∧ Q26 Z a1 x1 f i ea h0 n0 v U'.heap L ∧ FrameEnd U o U' L ({ frames := 0, cells := 0, slots := 0, locals := 0 } : Room).cells ({ frames := 0, cells := 0, slots := 0, locals := 0 } : Room).slots) := by
  refine MetFree.of_bodySF (plainFor_of_name pn_0) hisR ?_
  intro p e s m args below meth c s₁ Bd hml0 hP hK
  obtain ⟨rfl, hZ, hh⟩ := hP
  have hx := Bd.exec
  have hby := Bd.bytes
  have hml : c.maxLocals = 3 := hml0
  have hown : s.vm.findClass "java/util/ArrayDeque" = some m.cls := findClass_of_methodNamed Bd.named
  have hnm := (name_of_methodNamed Bd.named Bd.method).1
  have X0 : Stand p l e ({ frames := 0, cells := 0, slots := 0, locals := 0 } : Room) s m #[(.ref a1), (.int x1)] below meth c s₁ [] 0 0 := Stand.of_body Bd
  have e0 : s₁.heap = h0 := by rw [← hh, Bd.state]; rfl
  have N0 := Fr.nil n0
  have K0 := Keep.refl h0 []
  suffices hD : Dn p e below s (Q26 Z a1 x1 f i ea h0 n0) ({ frames := 0, cells := 0, slots := 0, locals := 0 } : Room).cells ({ frames := 0, cells := 0, slots := 0, locals := 0 } : Room).slots s₁ (mkF m 0 #[.val (.ref a1), .val (.int x1), .unset] []) from by
    obtain ⟨s₂, o, q1, q2⟩ := hD
    exact ⟨s₂, o, castTop (ef_rm26 m a1 x1) q1, q2⟩
  refine Dn.st (fun t q => XS.aloadN X0.here hx rfl (hb hby d26_0) rfl rfl  q) ?_
  show Dn p e below s _ _ _ s₁ (mkF m 1 #[.val (.ref a1), .val (.int x1), .unset] [(.ref a1)])
  refine Dn.st (fun t q => XS.iloadN X0.here hx rfl (hb hby d26_1) rfl  q) ?_
  show Dn p e below s _ _ _ s₁ (mkF m 2 #[.val (.ref a1), .val (.int x1), .unset] [(.int x1), (.ref a1)])
  refine Dn.st (aLoadO (v := (.ref ea)) X0 hx hZ e0 A (i := i) hx1 hi hu (g := (mkF m 2 #[.val (.ref a1), .val (.int x1), .unset] [(.int x1), (.ref a1)])) rfl rfl (hb hby d26_2)) ?_
  show Dn p e below s _ _ _ s₁ (mkF m 3 #[.val (.ref a1), .val (.int x1), .unset] [(.ref ea)])
  refine Dn.st (fun t q => XS.astoreN X0.here hx rfl (hb hby d26_3) rfl rfl (l' := #[.val (.ref a1), .val (.int x1), .val (.ref ea)]) rfl q) ?_
  show Dn p e below s _ _ _ s₁ (mkF m 4 #[.val (.ref a1), .val (.int x1), .val (.ref ea)] [])
  refine Dn.st (fun t q => XS.aloadN X0.here hx rfl (hb hby d26_4) rfl rfl  q) ?_
  show Dn p e below s _ _ _ s₁ (mkF m 5 #[.val (.ref a1), .val (.int x1), .val (.ref ea)] [(.ref ea)])
  refine Dn.st (fun t q => XS.ifnonnullYes X0.here hx rfl (pc0 := 5) (pc' := 16) rfl (hb hby d26_5) rfl (by decide) (by decide) q) ?_
  show Dn p e below s _ _ _ s₁ (mkF m 16 #[.val (.ref a1), .val (.int x1), .val (.ref ea)] [])
  refine Dn.st (fun t q => XS.aloadN X0.here hx rfl (hb hby d26_16) rfl rfl  q) ?_
  show Dn p e below s _ _ _ s₁ (mkF m 17 #[.val (.ref a1), .val (.int x1), .val (.ref ea)] [(.ref ea)])
  exact Dn.retA X0 hx Bd.notSynchronized Bd.returns rfl rfl (hb hby d26_17) (by rw [e0]; exact ⟨rfl, N0, rfl⟩) (by decide) (by decide)
theorem d7_0 : decode jdk_21_method_38_code 0 = .ok (.aload_n 0, 1) := by decide +kernel
theorem d7_1 : decode jdk_21_method_38_code 1 = .ok (.getfield 24, 3) := by decide +kernel
theorem d7_4 : decode jdk_21_method_38_code 4 = .ok (.aload_n 0, 1) := by decide +kernel
theorem d7_5 : decode jdk_21_method_38_code 5 = .ok (.getfield 20, 3) := by decide +kernel
theorem d7_8 : decode jdk_21_method_38_code 8 = .ok (.if_icmp .ne 7, 3) := by decide +kernel
theorem d7_11 : decode jdk_21_method_38_code 11 = .ok (.iconst 1, 1) := by decide +kernel
theorem d7_12 : decode jdk_21_method_38_code 12 = .ok (.goto 4, 3) := by decide +kernel
theorem d7_16 : decode jdk_21_method_38_code 16 = .ok (.ireturn, 1) := by decide +kernel
theorem d7_15 : decode jdk_21_method_38_code 15 = .ok (.iconst 0, 1) := by decide +kernel
theorem ef_rm7 (m : MethodId) (x0 : Addr) : entryFrame m #[(.ref x0)] 1 = mkF m 0 #[.val (.ref x0)] [] := by first | (simp [entryFrame, mkF, argsToLocals, Value.category]; done) | rfl
def Q7 (Z : State) (a1 : Addr) (xh : Int32) (xt : Int32) (h0 : Heap) (n0 : Nat) (v : Option Value) (h : Heap) (L : List Loc) : Prop := v = some (.int (if xh = xt then (1 : Int32) else (0 : Int32))) ∧ Fr n0 L ∧ h = h0
set_option maxRecDepth 65536 in
set_option maxHeartbeats 40000000 in
theorem rm7 (l : Launch) (Z : State) (a0 : Array Value) (hw : ∀ d ∈ tables_1, d.before a0 Z = true) (ws : List Jvm.Cond) (a1 : Addr) (xh : Int32) (xt : Int32) (h0 : Heap) (n0 : Nat) (Z0 : n0 ≤ h0.size) (F_head : Fld Z h0 a1 "java/util/ArrayDeque" "head" "I" (.int xh)) (F_tail : Fld Z h0 a1 "java/util/ArrayDeque" "tail" "I" (.int xt)) :
    MetFree l (⟨"java/util/ArrayDeque", "isEmpty", "()Z"⟩ : MethodName) (head1 (Jvm.Cond.code (⟨"java/util/ArrayDeque", "isEmpty", "()Z"⟩ : MethodName) jdk_21_method_38_code 1 (some .boolean) :: ws) ({ frames := 0, cells := 0, slots := 0, locals := 0 } : Room)) (fun a U => a = #[(.ref a1)] ∧ Z.Warmed39 U.vm ∧ U.heap = h0) (fun _ _ _ _ _ => True) (fun _ U o U' => ∃ v L, o = .returned v ∧ Q7 Z a1 xh xt h0 n0 v U'.heap L ∧ FrameEnd U o U' L ({ frames := 0, cells := 0, slots := 0, locals := 0 } : Room).cells ({ frames := 0, cells := 0, slots := 0, locals := 0 } : Room).slots) := by
  refine MetFree.of_bodySF (plainFor_of_name pn_0) hisR ?_
  intro p e s m args below meth c s₁ Bd hml0 hP hK
  obtain ⟨rfl, hZ, hh⟩ := hP
  have hx := Bd.exec
  have hby := Bd.bytes
  have hml : c.maxLocals = 1 := hml0
  have hown : s.vm.findClass "java/util/ArrayDeque" = some m.cls := findClass_of_methodNamed Bd.named
  have hnm := (name_of_methodNamed Bd.named Bd.method).1
  have X0 : Stand p l e ({ frames := 0, cells := 0, slots := 0, locals := 0 } : Room) s m #[(.ref a1)] below meth c s₁ [] 0 0 := Stand.of_body Bd
  have e0 : s₁.heap = h0 := by rw [← hh, Bd.state]; rfl
  have N0 := Fr.nil n0
  have K0 := Keep.refl h0 []
  suffices hD : Dn p e below s (Q7 Z a1 xh xt h0 n0) ({ frames := 0, cells := 0, slots := 0, locals := 0 } : Room).cells ({ frames := 0, cells := 0, slots := 0, locals := 0 } : Room).slots s₁ (mkF m 0 #[.val (.ref a1)] []) from by
    obtain ⟨s₂, o, q1, q2⟩ := hD
    exact ⟨s₂, o, castTop (ef_rm7 m a1) q1, q2⟩
  refine Dn.st (fun t q => XS.aloadN X0.here hx rfl (hb hby d7_0) rfl rfl  q) ?_
  show Dn p e below s _ _ _ s₁ (mkF m 1 #[.val (.ref a1)] [(.ref a1)])
  obtain ⟨T1, X1, e1, st1⟩ := getF X0 hx hZ hown (host := "") (Or.inl (hw _ (List.mem_of_getElem? (i := 54) rfl))) Via.refl e0 F_head (g := (mkF m 1 #[.val (.ref a1)] [(.ref a1)])) rfl rfl (hb hby d7_1)
  refine Dn.st st1 ?_
  show Dn p e below s _ _ _ T1 (mkF m 4 #[.val (.ref a1)] [(.int xh)])
  refine Dn.st (fun t q => XS.aloadN X1.here hx rfl (hb hby d7_4) rfl rfl  q) ?_
  show Dn p e below s _ _ _ T1 (mkF m 5 #[.val (.ref a1)] [(.ref a1), (.int xh)])
  obtain ⟨T2, X2, e2, st2⟩ := getF X1 hx hZ hown (host := "") (Or.inl (hw _ (List.mem_of_getElem? (i := 56) rfl))) Via.refl e1 F_tail (g := (mkF m 5 #[.val (.ref a1)] [(.ref a1), (.int xh)])) rfl rfl (hb hby d7_5)
  refine Dn.st st2 ?_
  show Dn p e below s _ _ _ T2 (mkF m 8 #[.val (.ref a1)] [(.int xt), (.int xh)])
  by_cases hc : xh = xt
  · refine Dn.st (fun t q => XS.icmpNo X2.here hx rfl (hb hby d7_8) rfl (teq hc).2 q) ?_
    show Dn p e below s _ _ _ T2 (mkF m 11 #[.val (.ref a1)] [])
    refine Dn.st (fun t q => XS.iconst X2.here hx rfl (hb hby d7_11) q) ?_
    show Dn p e below s _ _ _ T2 (mkF m 12 #[.val (.ref a1)] [(.int (1 : Int32))])
    refine Dn.st (fun t q => XS.goto X2.here hx rfl (pc0 := 12) (pc' := 16) rfl (hb hby d7_12) (by decide) (by decide) q) ?_
    show Dn p e below s _ _ _ T2 (mkF m 16 #[.val (.ref a1)] [(.int (1 : Int32))])
    exact Dn.retZ X2 hx Bd.notSynchronized (t := .boolean) Bd.returns (by simp) (hb hby d7_16) (by rw [e2]; exact ⟨congrArg (fun z => some (Value.int z)) (if_pos hc).symm, N0, rfl⟩) (by decide) (by decide)
  · refine Dn.st (fun t q => XS.icmpYes X2.here hx rfl (pc0 := 8) (pc' := 15) rfl (hb hby d7_8) rfl (feq hc).2 (by decide) (by decide) q) ?_
    show Dn p e below s _ _ _ T2 (mkF m 15 #[.val (.ref a1)] [])
    refine Dn.st (fun t q => XS.iconst X2.here hx rfl (hb hby d7_15) q) ?_
    show Dn p e below s _ _ _ T2 (mkF m 16 #[.val (.ref a1)] [(.int (0 : Int32))])
    exact Dn.retZ X2 hx Bd.notSynchronized (t := .boolean) Bd.returns (by simp) (hb hby d7_16) (by rw [e2]; exact ⟨congrArg (fun z => some (Value.int z)) (if_neg hc).symm, N0, rfl⟩) (by decide) (by decide)
theorem d14_0 : decode jdk_21_method_24_code 0 = .ok (.aload_n 0, 1) := by decide +kernel
theorem d14_1 : decode jdk_21_method_24_code 1 = .ok (.getfield 3, 3) := by decide +kernel
theorem d14_4 : decode jdk_21_method_24_code 4 = .ok (.aload_n 0, 1) := by decide +kernel
theorem d14_5 : decode jdk_21_method_24_code 5 = .ok (.getfield 24, 3) := by decide +kernel
theorem d14_8 : decode jdk_21_method_24_code 8 = .ok (.invokestatic 103, 3) := by decide +kernel
theorem pd_0 : parseMethodDescriptor "([Ljava/lang/Object;I)Ljava/lang/Object;" = some ⟨[(.array (.object "java/lang/Object")), .int], some (.object "java/lang/Object")⟩ := by decide +kernel
theorem d14_11 : decode jdk_21_method_24_code 11 = .ok (.areturn, 1) := by decide +kernel
theorem ef_rm14 (m : MethodId) (x0 : Addr) : entryFrame m #[(.ref x0)] 1 = mkF m 0 #[.val (.ref x0)] [] := by first | (simp [entryFrame, mkF, argsToLocals, Value.category]; done) | rfl
def Q14 (Z : State) (a1 : Addr) (ar : Addr) (xh : Int32) (f : Nat → Value) (i : Nat) (u : Value) (h0 : Heap) (n0 : Nat) (v : Option Value) (h : Heap) (L : List Loc) : Prop := v = some u ∧ Fr n0 L ∧ h = h0
set_option maxRecDepth 65536 in
set_option maxHeartbeats 40000000 in
theorem rm14 (l : Launch) (Z : State) (a0 : Array Value) (hw : ∀ d ∈ tables_1, d.before a0 Z = true) (ws : List Jvm.Cond) (a1 : Addr) (ar : Addr) (xh : Int32) (f : Nat → Value) (i : Nat) (u : Value) (h0 : Heap) (n0 : Nat) (Z0 : n0 ≤ h0.size) (F_elements : Fld Z h0 a1 "java/util/ArrayDeque" "elements" "[Ljava/lang/Object;" (.ref ar)) (F_head : Fld Z h0 a1 "java/util/ArrayDeque" "head" "I" (.int xh)) (A : AryO Z h0 ar 17 f) (hxh : xh.toInt = (i : Int)) (hi : i < 17) (hu : f i = u) (hr : u.isRef = true) :
    MetFree l (⟨"java/util/ArrayDeque", "peekFirst", "()Ljava/lang/Object;"⟩ : MethodName) (head1 (Jvm.Cond.code (⟨"java/util/ArrayDeque", "peekFirst", "()Ljava/lang/Object;"⟩ : MethodName) jdk_21_method_24_code 1 (some (.object "java/lang/Object")) :: ws) ({ frames := 1, cells := 0, slots := 0, locals := 13 } : Room)) (fun a U => a = #[(.ref a1)] ∧ Z.Warmed39 U.vm ∧ U.heap = h0) (fun _ _ _ _ _ => True) (fun _ U o U' => ∃ v L, o = .returned v ∧ Q14 Z a1 ar xh f i u h0 n0 v U'.heap L ∧ FrameEnd U o U' L ({ frames := 1, cells := 0, slots := 0, locals := 13 } : Room).cells ({ frames := 1, cells := 0, slots := 0, locals := 13 } : Room).slots) := by
  refine MetFree.of_bodySF (plainFor_of_name pn_0) hisR ?_
  intro p e s m args below meth c s₁ Bd hml0 hP hK
  obtain ⟨rfl, hZ, hh⟩ := hP
  have hx := Bd.exec
  have hby := Bd.bytes
  have hml : c.maxLocals = 1 := hml0
  have hown : s.vm.findClass "java/util/ArrayDeque" = some m.cls := findClass_of_methodNamed Bd.named
  have hnm := (name_of_methodNamed Bd.named Bd.method).1
  have X0 : Stand p l e ({ frames := 1, cells := 0, slots := 0, locals := 13 } : Room) s m #[(.ref a1)] below meth c s₁ [] 0 0 := Stand.of_body Bd
  have e0 : s₁.heap = h0 := by rw [← hh, Bd.state]; rfl
  have N0 := Fr.nil n0
  have K0 := Keep.refl h0 []
  suffices hD : Dn p e below s (Q14 Z a1 ar xh f i u h0 n0) ({ frames := 1, cells := 0, slots := 0, locals := 13 } : Room).cells ({ frames := 1, cells := 0, slots := 0, locals := 13 } : Room).slots s₁ (mkF m 0 #[.val (.ref a1)] []) from by
    obtain ⟨s₂, o, q1, q2⟩ := hD
    exact ⟨s₂, o, castTop (ef_rm14 m a1) q1, q2⟩
  refine Dn.st (fun t q => XS.aloadN X0.here hx rfl (hb hby d14_0) rfl rfl  q) ?_
  show Dn p e below s _ _ _ s₁ (mkF m 1 #[.val (.ref a1)] [(.ref a1)])
  obtain ⟨T1, X1, e1, st1⟩ := getF X0 hx hZ hown (host := "") (Or.inl (hw _ (List.mem_of_getElem? (i := 29) rfl))) Via.refl e0 F_elements (g := (mkF m 1 #[.val (.ref a1)] [(.ref a1)])) rfl rfl (hb hby d14_1)
  refine Dn.st st1 ?_
  show Dn p e below s _ _ _ T1 (mkF m 4 #[.val (.ref a1)] [(.ref ar)])
  refine Dn.st (fun t q => XS.aloadN X1.here hx rfl (hb hby d14_4) rfl rfl  q) ?_
  show Dn p e below s _ _ _ T1 (mkF m 5 #[.val (.ref a1)] [(.ref a1), (.ref ar)])
  obtain ⟨T2, X2, e2, st2⟩ := getF X1 hx hZ hown (host := "") (Or.inl (hw _ (List.mem_of_getElem? (i := 54) rfl))) Via.refl e1 F_head (g := (mkF m 5 #[.val (.ref a1)] [(.ref a1), (.ref ar)])) rfl rfl (hb hby d14_5)
  refine Dn.st st2 ?_
  show Dn p e below s _ _ _ T2 (mkF m 8 #[.val (.ref a1)] [(.int xh), (.ref ar)])
  obtain ⟨_, _, ⟨T3, Lq3, kq_3, nq_3⟩, -, X3, ⟨Lc3, hQ3, lq3, yq3, zq3⟩, st3⟩ := Jvm.LawKit.callS X2 hx (y := (⟨"java/util/ArrayDeque", "elementAt", "([Ljava/lang/Object;I)Ljava/lang/Object;"⟩ : MethodName)) hown (mvT hZ (hw _ (List.mem_of_getElem? (i := 66) rfl))) (mvT hZ (hw _ (List.mem_of_getElem? (i := 67) rfl))) (mvT hZ (hw _ (List.mem_of_getElem? (i := 16) rfl))) (mvT hZ (hw _ (List.mem_of_getElem? (i := 68) rfl))) (by decide) (backOf (W := 0) (rm10 l Z a0 hw [] ar xh f i u h0 n0 Z0 A hxh hi hu hr) hZ (hw _ (List.mem_of_getElem? (i := 68) rfl)) (hw _ (List.mem_of_getElem? (i := 16) rfl)) (by decide) (by decide)) (g := (mkF m 8 #[.val (.ref a1)] [(.int xh), (.ref ar)])) rfl (by rw [hml]; rfl) (argsL := [(.ref ar), (.int xh)]) (rest := []) (lenOf pd_0 rfl) rfl (by show 2 * 0 + _ ≤ _; exact Nat.le_of_eq rfl) (hb hby d14_8) (fun _ _ => ⟨rfl, e2, (by decide : 0 + 0 ≤ _), (by decide : 0 + 0 ≤ _)⟩)
  dsimp only [Pt.U, Pt.locs, Pt.cells, Pt.slots] at X3 lq3 yq3 zq3 st3 hQ3
  subst lq3 yq3 zq3
  obtain ⟨rfl, N3q, hq3⟩ := hQ3
  have N0 := Fr.app N0 N3q
  have e3 : T3.heap = h0 := hq3
  refine Dn.st st3 ?_
  show Dn p e below s _ _ _ T3 (mkF m 11 #[.val (.ref a1)] [u])
  exact Dn.retR X3 hx Bd.notSynchronized Bd.returns rfl hr (own_nar hr) (hb hby d14_11) (by rw [e3]; exact ⟨rfl, N0, rfl⟩) (by decide) (by decide)
theorem d8_0 : decode jdk_21_method_25_code 0 = .ok (.aload_n 0, 1) := by decide +kernel
theorem d8_1 : decode jdk_21_method_25_code 1 = .ok (.getfield 3, 3) := by decide +kernel
theorem d8_4 : decode jdk_21_method_25_code 4 = .ok (.dup, 1) := by decide +kernel
theorem d8_5 : decode jdk_21_method_25_code 5 = .ok (.astore_n 1, 1) := by decide +kernel
theorem d8_6 : decode jdk_21_method_25_code 6 = .ok (.aload_n 0, 1) := by decide +kernel
theorem d8_7 : decode jdk_21_method_25_code 7 = .ok (.getfield 20, 3) := by decide +kernel
theorem d8_10 : decode jdk_21_method_25_code 10 = .ok (.aload_n 1, 1) := by decide +kernel
theorem d8_11 : decode jdk_21_method_25_code 11 = .ok (.arraylength, 1) := by decide +kernel
theorem d8_12 : decode jdk_21_method_25_code 12 = .ok (.invokestatic 68, 3) := by decide +kernel
theorem pd_1 : parseMethodDescriptor "(II)I" = some ⟨[.int, .int], some .int⟩ := by decide +kernel
theorem d8_15 : decode jdk_21_method_25_code 15 = .ok (.invokestatic 103, 3) := by decide +kernel
theorem d8_18 : decode jdk_21_method_25_code 18 = .ok (.areturn, 1) := by decide +kernel
theorem ef_rm8 (m : MethodId) (x0 : Addr) : entryFrame m #[(.ref x0)] 2 = mkF m 0 #[.val (.ref x0), .unset] [] := by first | (simp [entryFrame, mkF, argsToLocals, Value.category]; done) | rfl
def Q8 (Z : State) (a1 : Addr) (ar : Addr) (xt : Int32) (f : Nat → Value) (i : Nat) (u : Value) (h0 : Heap) (n0 : Nat) (v : Option Value) (h : Heap) (L : List Loc) : Prop := v = some u ∧ Fr n0 L ∧ h = h0
set_option maxRecDepth 65536 in
set_option maxHeartbeats 40000000 in
theorem rm8 (l : Launch) (Z : State) (a0 : Array Value) (hw : ∀ d ∈ tables_1, d.before a0 Z = true) (ws : List Jvm.Cond) (a1 : Addr) (ar : Addr) (xt : Int32) (f : Nat → Value) (i : Nat) (u : Value) (h0 : Heap) (n0 : Nat) (Z0 : n0 ≤ h0.size) (F_elements : Fld Z h0 a1 "java/util/ArrayDeque" "elements" "[Ljava/lang/Object;" (.ref ar)) (F_tail : Fld Z h0 a1 "java/util/ArrayDeque" "tail" "I" (.int xt)) (A : AryO Z h0 ar 17 f) (hdx : (own_dec xt (Nat.toInt32 17)).toInt = (i : Int)) (hi : i < 17) (hu : f i = u) (hr : u.isRef = true) :
    MetFree l (⟨"java/util/ArrayDeque", "peekLast", "()Ljava/lang/Object;"⟩ : MethodName) (head1 (Jvm.Cond.code (⟨"java/util/ArrayDeque", "peekLast", "()Ljava/lang/Object;"⟩ : MethodName) jdk_21_method_25_code 2 (some (.object "java/lang/Object")) :: ws) ({ frames := 1, cells := 0, slots := 0, locals := 14 } : Room)) (fun a U => a = #[(.ref a1)] ∧ Z.Warmed39 U.vm ∧ U.heap = h0) (fun _ _ _ _ _ => True) (fun _ U o U' => ∃ v L, o = .returned v ∧ Q8 Z a1 ar xt f i u h0 n0 v U'.heap L ∧ FrameEnd U o U' L ({ frames := 1, cells := 0, slots := 0, locals := 14 } : Room).cells ({ frames := 1, cells := 0, slots := 0, locals := 14 } : Room).slots) := by
  refine MetFree.of_bodySF (plainFor_of_name pn_0) hisR ?_
  intro p e s m args below meth c s₁ Bd hml0 hP hK
  obtain ⟨rfl, hZ, hh⟩ := hP
  have hx := Bd.exec
  have hby := Bd.bytes
  have hml : c.maxLocals = 2 := hml0
  have hown : s.vm.findClass "java/util/ArrayDeque" = some m.cls := findClass_of_methodNamed Bd.named
  have hnm := (name_of_methodNamed Bd.named Bd.method).1
  have X0 : Stand p l e ({ frames := 1, cells := 0, slots := 0, locals := 14 } : Room) s m #[(.ref a1)] below meth c s₁ [] 0 0 := Stand.of_body Bd
  have e0 : s₁.heap = h0 := by rw [← hh, Bd.state]; rfl
  have N0 := Fr.nil n0
  have K0 := Keep.refl h0 []
  suffices hD : Dn p e below s (Q8 Z a1 ar xt f i u h0 n0) ({ frames := 1, cells := 0, slots := 0, locals := 14 } : Room).cells ({ frames := 1, cells := 0, slots := 0, locals := 14 } : Room).slots s₁ (mkF m 0 #[.val (.ref a1), .unset] []) from by
    obtain ⟨s₂, o, q1, q2⟩ := hD
    exact ⟨s₂, o, castTop (ef_rm8 m a1) q1, q2⟩
  refine Dn.st (fun t q => XS.aloadN X0.here hx rfl (hb hby d8_0) rfl rfl  q) ?_
  show Dn p e below s _ _ _ s₁ (mkF m 1 #[.val (.ref a1), .unset] [(.ref a1)])
  obtain ⟨T1, X1, e1, st1⟩ := getF X0 hx hZ hown (host := "") (Or.inl (hw _ (List.mem_of_getElem? (i := 29) rfl))) Via.refl e0 F_elements (g := (mkF m 1 #[.val (.ref a1), .unset] [(.ref a1)])) rfl rfl (hb hby d8_1)
  refine Dn.st st1 ?_
  show Dn p e below s _ _ _ T1 (mkF m 4 #[.val (.ref a1), .unset] [(.ref ar)])
  refine Dn.st (fun t q => XS.dup X1.here hx rfl (hb hby d8_4) rfl rfl q) ?_
  show Dn p e below s _ _ _ T1 (mkF m 5 #[.val (.ref a1), .unset] [(.ref ar), (.ref ar)])
  refine Dn.st (fun t q => XS.astoreN X1.here hx rfl (hb hby d8_5) rfl rfl (l' := #[.val (.ref a1), .val (.ref ar)]) rfl q) ?_
  show Dn p e below s _ _ _ T1 (mkF m 6 #[.val (.ref a1), .val (.ref ar)] [(.ref ar)])
  refine Dn.st (fun t q => XS.aloadN X1.here hx rfl (hb hby d8_6) rfl rfl  q) ?_
  show Dn p e below s _ _ _ T1 (mkF m 7 #[.val (.ref a1), .val (.ref ar)] [(.ref a1), (.ref ar)])
  obtain ⟨T2, X2, e2, st2⟩ := getF X1 hx hZ hown (host := "") (Or.inl (hw _ (List.mem_of_getElem? (i := 56) rfl))) Via.refl e1 F_tail (g := (mkF m 7 #[.val (.ref a1), .val (.ref ar)] [(.ref a1), (.ref ar)])) rfl rfl (hb hby d8_7)
  refine Dn.st st2 ?_
  show Dn p e below s _ _ _ T2 (mkF m 10 #[.val (.ref a1), .val (.ref ar)] [(.int xt), (.ref ar)])
  refine Dn.st (fun t q => XS.aloadN X2.here hx rfl (hb hby d8_10) rfl rfl  q) ?_
  show Dn p e below s _ _ _ T2 (mkF m 11 #[.val (.ref a1), .val (.ref ar)] [(.ref ar), (.int xt), (.ref ar)])
  refine Dn.st (aLenO X2 hx hZ e2 A (g := (mkF m 11 #[.val (.ref a1), .val (.ref ar)] [(.ref ar), (.int xt), (.ref ar)])) rfl rfl (hb hby d8_11)) ?_
  show Dn p e below s _ _ _ T2 (mkF m 12 #[.val (.ref a1), .val (.ref ar)] [(.int (Nat.toInt32 17)), (.int xt), (.ref ar)])
  obtain ⟨_, _, ⟨T3, Lq3, kq_3, nq_3⟩, -, X3, ⟨Lc3, hQ3, lq3, yq3, zq3⟩, st3⟩ := Jvm.LawKit.callS X2 hx (y := (⟨"java/util/ArrayDeque", "dec", "(II)I"⟩ : MethodName)) hown (mvT hZ (hw _ (List.mem_of_getElem? (i := 63) rfl))) (mvT hZ (hw _ (List.mem_of_getElem? (i := 64) rfl))) (mvT hZ (hw _ (List.mem_of_getElem? (i := 16) rfl))) (mvT hZ (hw _ (List.mem_of_getElem? (i := 65) rfl))) (by decide) (backOf (W := 1) (rm9 l Z a0 hw [] xt (Nat.toInt32 17)  h0 n0 Z0 ) hZ (hw _ (List.mem_of_getElem? (i := 65) rfl)) (hw _ (List.mem_of_getElem? (i := 16) rfl)) (by decide) (by decide)) (g := (mkF m 12 #[.val (.ref a1), .val (.ref ar)] [(.int (Nat.toInt32 17)), (.int xt), (.ref ar)])) rfl (by rw [hml]; rfl) (argsL := [(.int xt), (.int (Nat.toInt32 17))]) (rest := [(.ref ar)]) (lenOf pd_1 rfl) rfl (by show 2 * 0 + _ ≤ _; exact Nat.le_of_eq rfl) (hb hby d8_12) (fun _ _ => ⟨rfl, e2, (by decide : 0 + 0 ≤ _), (by decide : 0 + 0 ≤ _)⟩)
  dsimp only [Pt.U, Pt.locs, Pt.cells, Pt.slots] at X3 lq3 yq3 zq3 st3 hQ3
  subst lq3 yq3 zq3
  obtain ⟨rfl, N3q, hq3⟩ := hQ3
  have N0 := Fr.app N0 N3q
  have e3 : T3.heap = h0 := hq3
  refine Dn.st st3 ?_
  show Dn p e below s _ _ _ T3 (mkF m 15 #[.val (.ref a1), .val (.ref ar)] [(.int (own_dec xt (Nat.toInt32 17))), (.ref ar)])
  obtain ⟨_, _, ⟨T4, Lq4, kq_4, nq_4⟩, -, X4, ⟨Lc4, hQ4, lq4, yq4, zq4⟩, st4⟩ := Jvm.LawKit.callS X3 hx (y := (⟨"java/util/ArrayDeque", "elementAt", "([Ljava/lang/Object;I)Ljava/lang/Object;"⟩ : MethodName)) hown (mvT hZ (hw _ (List.mem_of_getElem? (i := 66) rfl))) (mvT hZ (hw _ (List.mem_of_getElem? (i := 67) rfl))) (mvT hZ (hw _ (List.mem_of_getElem? (i := 16) rfl))) (mvT hZ (hw _ (List.mem_of_getElem? (i := 68) rfl))) (by decide) (backOf (W := 0) (rm10 l Z a0 hw [] ar (own_dec xt (Nat.toInt32 17)) f i u h0 n0 Z0 A hdx hi hu hr) hZ (hw _ (List.mem_of_getElem? (i := 68) rfl)) (hw _ (List.mem_of_getElem? (i := 16) rfl)) (by decide) (by decide)) (g := (mkF m 15 #[.val (.ref a1), .val (.ref ar)] [(.int (own_dec xt (Nat.toInt32 17))), (.ref ar)])) rfl (by rw [hml]; rfl) (argsL := [(.ref ar), (.int (own_dec xt (Nat.toInt32 17)))]) (rest := []) (lenOf pd_0 rfl) rfl (by show 2 * 0 + _ ≤ _; exact Nat.le_of_eq rfl) (hb hby d8_15) (fun _ _ => ⟨rfl, e3, (by decide : 0 + 0 ≤ _), (by decide : 0 + 0 ≤ _)⟩)
  dsimp only [Pt.U, Pt.locs, Pt.cells, Pt.slots] at X4 lq4 yq4 zq4 st4 hQ4
  subst lq4 yq4 zq4
  obtain ⟨rfl, N4q, hq4⟩ := hQ4
  have N0 := Fr.app N0 N4q
  have e4 : T4.heap = h0 := hq4
  refine Dn.st st4 ?_
  show Dn p e below s _ _ _ T4 (mkF m 18 #[.val (.ref a1), .val (.ref ar)] [u])
  exact Dn.retR X4 hx Bd.notSynchronized Bd.returns rfl hr (own_nar hr) (hb hby d8_18) (by rw [e4]; exact ⟨rfl, N0, rfl⟩) (by decide) (by decide)
theorem d12_0 : decode jdk_21_method_13_code 0 = .ok (.aload_n 1, 1) := by decide +kernel
theorem d12_1 : decode jdk_21_method_13_code 1 = .ok (.ifnonnull 11, 3) := by decide +kernel
theorem d12_12 : decode jdk_21_method_13_code 12 = .ok (.aload_n 0, 1) := by decide +kernel
theorem d12_13 : decode jdk_21_method_13_code 13 = .ok (.getfield 3, 3) := by decide +kernel
theorem d12_16 : decode jdk_21_method_13_code 16 = .ok (.astore_n 2, 1) := by decide +kernel
theorem d12_17 : decode jdk_21_method_13_code 17 = .ok (.aload_n 2, 1) := by decide +kernel
theorem d12_18 : decode jdk_21_method_13_code 18 = .ok (.aload_n 0, 1) := by decide +kernel
theorem d12_19 : decode jdk_21_method_13_code 19 = .ok (.getfield 20, 3) := by decide +kernel
theorem d12_22 : decode jdk_21_method_13_code 22 = .ok (.aload_n 1, 1) := by decide +kernel
theorem d12_23 : decode jdk_21_method_13_code 23 = .ok (.aastore, 1) := by decide +kernel
theorem d12_24 : decode jdk_21_method_13_code 24 = .ok (.aload_n 0, 1) := by decide +kernel
theorem d12_25 : decode jdk_21_method_13_code 25 = .ok (.getfield 24, 3) := by decide +kernel
theorem d12_28 : decode jdk_21_method_13_code 28 = .ok (.aload_n 0, 1) := by decide +kernel
theorem d12_29 : decode jdk_21_method_13_code 29 = .ok (.aload_n 0, 1) := by decide +kernel
theorem d12_30 : decode jdk_21_method_13_code 30 = .ok (.getfield 20, 3) := by decide +kernel
theorem d12_33 : decode jdk_21_method_13_code 33 = .ok (.aload_n 2, 1) := by decide +kernel
theorem d12_34 : decode jdk_21_method_13_code 34 = .ok (.arraylength, 1) := by decide +kernel
theorem d12_35 : decode jdk_21_method_13_code 35 = .ok (.invokestatic 74, 3) := by decide +kernel
theorem d12_38 : decode jdk_21_method_13_code 38 = .ok (.dup_x1, 1) := by decide +kernel
theorem d12_39 : decode jdk_21_method_13_code 39 = .ok (.putfield 20, 3) := by decide +kernel
theorem d12_42 : decode jdk_21_method_13_code 42 = .ok (.if_icmp .ne 8, 3) := by decide +kernel
theorem d12_50 : decode jdk_21_method_13_code 50 = .ok (.return_, 1) := by decide +kernel
theorem ef_rm12 (m : MethodId) (x0 : Addr) (x1 : Addr) : entryFrame m #[(.ref x0), (.ref x1)] 3 = mkF m 0 #[.val (.ref x0), .val (.ref x1), .unset] [] := by first | (simp [entryFrame, mkF, argsToLocals, Value.category]; done) | rfl
def Q12 (Z : State) (a1 : Addr) (a2 : Addr) (ar : Addr) (xh : Int32) (xt : Int32) (f : Nat → Value) (i : Nat) (h0 : Heap) (n0 : Nat) (v : Option Value) (h : Heap) (L : List Loc) : Prop := v = none ∧ Fr n0 L ∧ Keep h0 h [a1, ar] ∧ Fld Z h a1 "java/util/ArrayDeque" "elements" "[Ljava/lang/Object;" (.ref ar) ∧ Fld Z h a1 "java/util/ArrayDeque" "head" "I" (.int xh) ∧ Fld Z h a1 "java/util/ArrayDeque" "tail" "I" (.int (xt + (1 : Int32))) ∧ AryO Z h ar 17 (fun x => if x = i then .ref a2 else f x)
set_option maxRecDepth 65536 in
set_option maxHeartbeats 40000000 in
theorem rm12 (l : Launch) (Z : State) (a0 : Array Value) (hw : ∀ d ∈ tables_1, d.before a0 Z = true) (ws : List Jvm.Cond) (a1 : Addr) (a2 : Addr) (ar : Addr) (xh : Int32) (xt : Int32) (f : Nat → Value) (i : Nat) (h0 : Heap) (n0 : Nat) (Z0 : n0 ≤ h0.size) (E_a1 : Exa Z h0 a1 "java/util/ArrayDeque") (F_elements : Fld Z h0 a1 "java/util/ArrayDeque" "elements" "[Ljava/lang/Object;" (.ref ar)) (F_head : Fld Z h0 a1 "java/util/ArrayDeque" "head" "I" (.int xh)) (F_tail : Fld Z h0 a1 "java/util/ArrayDeque" "tail" "I" (.int xt)) (A : AryO Z h0 ar 17 f) (ne_a1_ar : a1 ≠ ar) (g_a1 : n0 ≤ a1) (g_ar : n0 ≤ ar) (hxt : xt.toInt = (i : Int)) (hi : i < 16) (hne : ¬ (xh = (xt + (1 : Int32)))) (Ie : Ins Z h0 a2 "java/lang/Object" true) :
    MetFree l (⟨"java/util/ArrayDeque", "addLast", "(Ljava/lang/Object;)V"⟩ : MethodName) (head1 (Jvm.Cond.code (⟨"java/util/ArrayDeque", "addLast", "(Ljava/lang/Object;)V"⟩ : MethodName) jdk_21_method_13_code 3 none :: ws) ({ frames := 1, cells := 0, slots := 0, locals := 15 } : Room)) (fun a U => a = #[(.ref a1), (.ref a2)] ∧ Z.Warmed39 U.vm ∧ U.heap = h0) (fun _ _ _ _ _ => True) (fun _ U o U' => ∃ v L, o = .returned v ∧ Q12 Z a1 a2 ar xh xt f i h0 n0 v U'.heap L ∧ FrameEnd U o U' L ({ frames := 1, cells := 0, slots := 0, locals := 15 } : Room).cells ({ frames := 1, cells := 0, slots := 0, locals := 15 } : Room).slots) := by
  refine MetFree.of_bodySF (plainFor_of_name pn_0) hisR ?_
  intro p e s m args below meth c s₁ Bd hml0 hP hK
  obtain ⟨rfl, hZ, hh⟩ := hP
  have hx := Bd.exec
  have hby := Bd.bytes
  have hml : c.maxLocals = 3 := hml0
  have hown : s.vm.findClass "java/util/ArrayDeque" = some m.cls := findClass_of_methodNamed Bd.named
  have hnm := (name_of_methodNamed Bd.named Bd.method).1
  have X0 : Stand p l e ({ frames := 1, cells := 0, slots := 0, locals := 15 } : Room) s m #[(.ref a1), (.ref a2)] below meth c s₁ [] 0 0 := Stand.of_body Bd
  have e0 : s₁.heap = h0 := by rw [← hh, Bd.state]; rfl
  have N0 := Fr.nil n0
  have K0 := Keep.refl h0 [a1, ar]
  suffices hD : Dn p e below s (Q12 Z a1 a2 ar xh xt f i h0 n0) ({ frames := 1, cells := 0, slots := 0, locals := 15 } : Room).cells ({ frames := 1, cells := 0, slots := 0, locals := 15 } : Room).slots s₁ (mkF m 0 #[.val (.ref a1), .val (.ref a2), .unset] []) from by
    obtain ⟨s₂, o, q1, q2⟩ := hD
    exact ⟨s₂, o, castTop (ef_rm12 m a1 a2) q1, q2⟩
  refine Dn.st (fun t q => XS.aloadN X0.here hx rfl (hb hby d12_0) rfl rfl  q) ?_
  show Dn p e below s _ _ _ s₁ (mkF m 1 #[.val (.ref a1), .val (.ref a2), .unset] [(.ref a2)])
  refine Dn.st (fun t q => XS.ifnonnullYes X0.here hx rfl (pc0 := 1) (pc' := 12) rfl (hb hby d12_1) rfl (by decide) (by decide) q) ?_
  show Dn p e below s _ _ _ s₁ (mkF m 12 #[.val (.ref a1), .val (.ref a2), .unset] [])
  refine Dn.st (fun t q => XS.aloadN X0.here hx rfl (hb hby d12_12) rfl rfl  q) ?_
  show Dn p e below s _ _ _ s₁ (mkF m 13 #[.val (.ref a1), .val (.ref a2), .unset] [(.ref a1)])
  obtain ⟨T1, X1, e1, st1⟩ := getF X0 hx hZ hown (host := "") (Or.inl (hw _ (List.mem_of_getElem? (i := 29) rfl))) Via.refl e0 F_elements (g := (mkF m 13 #[.val (.ref a1), .val (.ref a2), .unset] [(.ref a1)])) rfl rfl (hb hby d12_13)
  refine Dn.st st1 ?_
  show Dn p e below s _ _ _ T1 (mkF m 16 #[.val (.ref a1), .val (.ref a2), .unset] [(.ref ar)])
  refine Dn.st (fun t q => XS.astoreN X1.here hx rfl (hb hby d12_16) rfl rfl (l' := #[.val (.ref a1), .val (.ref a2), .val (.ref ar)]) rfl q) ?_
  show Dn p e below s _ _ _ T1 (mkF m 17 #[.val (.ref a1), .val (.ref a2), .val (.ref ar)] [])
  refine Dn.st (fun t q => XS.aloadN X1.here hx rfl (hb hby d12_17) rfl rfl  q) ?_
  show Dn p e below s _ _ _ T1 (mkF m 18 #[.val (.ref a1), .val (.ref a2), .val (.ref ar)] [(.ref ar)])
  refine Dn.st (fun t q => XS.aloadN X1.here hx rfl (hb hby d12_18) rfl rfl  q) ?_
  show Dn p e below s _ _ _ T1 (mkF m 19 #[.val (.ref a1), .val (.ref a2), .val (.ref ar)] [(.ref a1), (.ref ar)])
  obtain ⟨T2, X2, e2, st2⟩ := getF X1 hx hZ hown (host := "") (Or.inl (hw _ (List.mem_of_getElem? (i := 56) rfl))) Via.refl e1 F_tail (g := (mkF m 19 #[.val (.ref a1), .val (.ref a2), .val (.ref ar)] [(.ref a1), (.ref ar)])) rfl rfl (hb hby d12_19)
  refine Dn.st st2 ?_
  show Dn p e below s _ _ _ T2 (mkF m 22 #[.val (.ref a1), .val (.ref a2), .val (.ref ar)] [(.int xt), (.ref ar)])
  refine Dn.st (fun t q => XS.aloadN X2.here hx rfl (hb hby d12_22) rfl rfl  q) ?_
  show Dn p e below s _ _ _ T2 (mkF m 23 #[.val (.ref a1), .val (.ref a2), .val (.ref ar)] [(.ref a2), (.int xt), (.ref ar)])
  obtain ⟨T3, h3, X3, e3, W3, B3, st3⟩ := aStoO X2 hx hZ e2 A (Or.inr ⟨a2, rfl, Ie⟩) (i := i) hxt (by omega) (g := (mkF m 23 #[.val (.ref a1), .val (.ref a2), .val (.ref ar)] [(.ref a2), (.int xt), (.ref ar)])) rfl rfl (hb hby d12_23)
  have N0 := Fr.snoc X3 N0 g_ar
  have Z0 := Nat.le_trans Z0 (Keep.of_wr W3).1
  have K0 := K0.wr W3 (Or.inl (List.mem_of_getElem? (i := 1) rfl))
  have E_a1 := E_a1.wr W3
  have F_elements := F_elements.other W3 (Or.inl ne_a1_ar)
  have F_head := F_head.other W3 (Or.inl ne_a1_ar)
  have F_tail := F_tail.other W3 (Or.inl ne_a1_ar)
  have A : AryO Z h3 ar 17 (fun x => if x = i then .ref a2 else f x) := B3.congr (fun _ _ => rfl)
  refine Dn.st st3 ?_
  show Dn p e below s _ _ _ T3 (mkF m 24 #[.val (.ref a1), .val (.ref a2), .val (.ref ar)] [])
  refine Dn.st (fun t q => XS.aloadN X3.here hx rfl (hb hby d12_24) rfl rfl  q) ?_
  show Dn p e below s _ _ _ T3 (mkF m 25 #[.val (.ref a1), .val (.ref a2), .val (.ref ar)] [(.ref a1)])
  obtain ⟨T4, X4, e4, st4⟩ := getF X3 hx hZ hown (host := "") (Or.inl (hw _ (List.mem_of_getElem? (i := 54) rfl))) Via.refl e3 F_head (g := (mkF m 25 #[.val (.ref a1), .val (.ref a2), .val (.ref ar)] [(.ref a1)])) rfl rfl (hb hby d12_25)
  refine Dn.st st4 ?_
  show Dn p e below s _ _ _ T4 (mkF m 28 #[.val (.ref a1), .val (.ref a2), .val (.ref ar)] [(.int xh)])
  refine Dn.st (fun t q => XS.aloadN X4.here hx rfl (hb hby d12_28) rfl rfl  q) ?_
  show Dn p e below s _ _ _ T4 (mkF m 29 #[.val (.ref a1), .val (.ref a2), .val (.ref ar)] [(.ref a1), (.int xh)])
  refine Dn.st (fun t q => XS.aloadN X4.here hx rfl (hb hby d12_29) rfl rfl  q) ?_
  show Dn p e below s _ _ _ T4 (mkF m 30 #[.val (.ref a1), .val (.ref a2), .val (.ref ar)] [(.ref a1), (.ref a1), (.int xh)])
  obtain ⟨T5, X5, e5, st5⟩ := getF X4 hx hZ hown (host := "") (Or.inl (hw _ (List.mem_of_getElem? (i := 56) rfl))) Via.refl e4 F_tail (g := (mkF m 30 #[.val (.ref a1), .val (.ref a2), .val (.ref ar)] [(.ref a1), (.ref a1), (.int xh)])) rfl rfl (hb hby d12_30)
  refine Dn.st st5 ?_
  show Dn p e below s _ _ _ T5 (mkF m 33 #[.val (.ref a1), .val (.ref a2), .val (.ref ar)] [(.int xt), (.ref a1), (.int xh)])
  refine Dn.st (fun t q => XS.aloadN X5.here hx rfl (hb hby d12_33) rfl rfl  q) ?_
  show Dn p e below s _ _ _ T5 (mkF m 34 #[.val (.ref a1), .val (.ref a2), .val (.ref ar)] [(.ref ar), (.int xt), (.ref a1), (.int xh)])
  refine Dn.st (aLenO X5 hx hZ e5 A (g := (mkF m 34 #[.val (.ref a1), .val (.ref a2), .val (.ref ar)] [(.ref ar), (.int xt), (.ref a1), (.int xh)])) rfl rfl (hb hby d12_34)) ?_
  show Dn p e below s _ _ _ T5 (mkF m 35 #[.val (.ref a1), .val (.ref a2), .val (.ref ar)] [(.int (Nat.toInt32 17)), (.int xt), (.ref a1), (.int xh)])
  obtain ⟨_, _, ⟨T6, Lq6, kq_6, nq_6⟩, -, X6, ⟨Lc6, hQ6, lq6, yq6, zq6⟩, st6⟩ := Jvm.LawKit.callS X5 hx (y := (⟨"java/util/ArrayDeque", "inc", "(II)I"⟩ : MethodName)) hown (mvT hZ (hw _ (List.mem_of_getElem? (i := 86) rfl))) (mvT hZ (hw _ (List.mem_of_getElem? (i := 87) rfl))) (mvT hZ (hw _ (List.mem_of_getElem? (i := 16) rfl))) (mvT hZ (hw _ (List.mem_of_getElem? (i := 88) rfl))) (by decide) (backOf (W := 2) (rm13 l Z a0 hw [] xt (Nat.toInt32 17)  h3 n0 Z0 ) hZ (hw _ (List.mem_of_getElem? (i := 88) rfl)) (hw _ (List.mem_of_getElem? (i := 16) rfl)) (by decide) (by decide)) (g := (mkF m 35 #[.val (.ref a1), .val (.ref a2), .val (.ref ar)] [(.int (Nat.toInt32 17)), (.int xt), (.ref a1), (.int xh)])) rfl (by rw [hml]; rfl) (argsL := [(.int xt), (.int (Nat.toInt32 17))]) (rest := [(.ref a1), (.int xh)]) (lenOf pd_1 rfl) rfl (by show 2 * 0 + _ ≤ _; exact Nat.le_of_eq rfl) (hb hby d12_35) (fun _ _ => ⟨rfl, e5, (by decide : 0 + 0 ≤ _), (by decide : 0 + 0 ≤ _)⟩)
  dsimp only [Pt.U, Pt.locs, Pt.cells, Pt.slots] at X6 lq6 yq6 zq6 st6 hQ6
  subst lq6 yq6 zq6
  obtain ⟨rfl, N6q, hq6⟩ := hQ6
  have N0 := Fr.app N0 N6q
  have e6 : T6.heap = h3 := hq6
  refine Dn.st st6 ?_
  show Dn p e below s _ _ _ T6 (mkF m 38 #[.val (.ref a1), .val (.ref a2), .val (.ref ar)] [(.int (own_inc xt (Nat.toInt32 17))), (.ref a1), (.int xh)])
  rw [show (own_inc xt (Nat.toInt32 17)) = (xt + (1 : Int32)) from (own_inc_eq hxt hi)]
  show Dn p e below s _ _ _ T6 (mkF m 38 #[.val (.ref a1), .val (.ref a2), .val (.ref ar)] [(.int (xt + (1 : Int32))), (.ref a1), (.int xh)])
  refine Dn.st (fun t q => XS.dupX1 X6.here hx rfl (hb hby d12_38) rfl rfl rfl q) ?_
  show Dn p e below s _ _ _ T6 (mkF m 39 #[.val (.ref a1), .val (.ref a2), .val (.ref ar)] [(.int (xt + (1 : Int32))), (.ref a1), (.int (xt + (1 : Int32))), (.int xh)])
  obtain ⟨T7, h7, X7, e7, W7, st7⟩ := putF X6 hx hZ hown (host := "") (Or.inl (hw _ (List.mem_of_getElem? (i := 56) rfl))) Via.refl e6 F_tail E_a1 (Or.inl (hw _ (List.mem_of_getElem? (i := 57) rfl))) (hw _ (List.mem_of_getElem? (i := 15) rfl)) (ty := .int) (by decide) rfl rfl (g := (mkF m 39 #[.val (.ref a1), .val (.ref a2), .val (.ref ar)] [(.int (xt + (1 : Int32))), (.ref a1), (.int (xt + (1 : Int32))), (.int xh)])) rfl rfl (hb hby d12_39)
  have N0 := Fr.snoc X7 N0 g_a1
  have Z0 := Nat.le_trans Z0 (Keep.of_wr W7).1
  have K0 := K0.wr W7 (Or.inl (List.mem_of_getElem? (i := 0) rfl))
  have E_a1 := E_a1.wr W7
  have F_elements := F_elements.other W7 (Or.inr (slot_ne (Or.inl (hw _ (List.mem_of_getElem? (i := 30) rfl))) (Or.inl (hw _ (List.mem_of_getElem? (i := 57) rfl))) (by decide) (t := (.array (.object "java/lang/Object"))) (t' := .int) (by decide) (by decide)))
  have F_head := F_head.other W7 (Or.inr (slot_ne (Or.inl (hw _ (List.mem_of_getElem? (i := 55) rfl))) (Or.inl (hw _ (List.mem_of_getElem? (i := 57) rfl))) (by decide) (t := .int) (t' := .int) (by decide) (by decide)))
  have F_tail := F_tail.same W7
  have A := A.other W7 (Ne.symm ne_a1_ar)
  refine Dn.st st7 ?_
  show Dn p e below s _ _ _ T7 (mkF m 42 #[.val (.ref a1), .val (.ref a2), .val (.ref ar)] [(.int (xt + (1 : Int32))), (.int xh)])
  refine Dn.st (fun t q => XS.icmpYes X7.here hx rfl (pc0 := 42) (pc' := 50) rfl (hb hby d12_42) rfl (feq hne).2 (by decide) (by decide) q) ?_
  show Dn p e below s _ _ _ T7 (mkF m 50 #[.val (.ref a1), .val (.ref a2), .val (.ref ar)] [])
  exact Dn.retV X7 hx Bd.notSynchronized Bd.returns (hb hby d12_50) (by rw [e7]; exact ⟨rfl, N0, K0, F_elements, F_head, F_tail, A⟩) (by decide) (by decide)
theorem d17_0 : decode jdk_21_method_20_code 0 = .ok (.aload_n 0, 1) := by decide +kernel
theorem d17_1 : decode jdk_21_method_20_code 1 = .ok (.getfield 3, 3) := by decide +kernel
theorem d17_4 : decode jdk_21_method_20_code 4 = .ok (.dup, 1) := by decide +kernel
theorem d17_5 : decode jdk_21_method_20_code 5 = .ok (.astore_n 1, 1) := by decide +kernel
theorem d17_6 : decode jdk_21_method_20_code 6 = .ok (.aload_n 0, 1) := by decide +kernel
theorem d17_7 : decode jdk_21_method_20_code 7 = .ok (.getfield 24, 3) := by decide +kernel
theorem d17_10 : decode jdk_21_method_20_code 10 = .ok (.dup, 1) := by decide +kernel
theorem d17_11 : decode jdk_21_method_20_code 11 = .ok (.istore_n 2, 1) := by decide +kernel
theorem d17_12 : decode jdk_21_method_20_code 12 = .ok (.invokestatic 103, 3) := by decide +kernel
theorem d17_15 : decode jdk_21_method_20_code 15 = .ok (.astore_n 3, 1) := by decide +kernel
theorem d17_16 : decode jdk_21_method_20_code 16 = .ok (.aload_n 3, 1) := by decide +kernel
theorem d17_17 : decode jdk_21_method_20_code 17 = .ok (.ifnull 17, 3) := by decide +kernel
theorem d17_20 : decode jdk_21_method_20_code 20 = .ok (.aload_n 1, 1) := by decide +kernel
theorem d17_21 : decode jdk_21_method_20_code 21 = .ok (.iload_n 2, 1) := by decide +kernel
theorem d17_22 : decode jdk_21_method_20_code 22 = .ok (.aconst_null, 1) := by decide +kernel
theorem d17_23 : decode jdk_21_method_20_code 23 = .ok (.aastore, 1) := by decide +kernel
theorem d17_24 : decode jdk_21_method_20_code 24 = .ok (.aload_n 0, 1) := by decide +kernel
theorem d17_25 : decode jdk_21_method_20_code 25 = .ok (.iload_n 2, 1) := by decide +kernel
theorem d17_26 : decode jdk_21_method_20_code 26 = .ok (.aload_n 1, 1) := by decide +kernel
theorem d17_27 : decode jdk_21_method_20_code 27 = .ok (.arraylength, 1) := by decide +kernel
theorem d17_28 : decode jdk_21_method_20_code 28 = .ok (.invokestatic 74, 3) := by decide +kernel
theorem d17_31 : decode jdk_21_method_20_code 31 = .ok (.putfield 24, 3) := by decide +kernel
theorem d17_34 : decode jdk_21_method_20_code 34 = .ok (.aload_n 3, 1) := by decide +kernel
theorem d17_35 : decode jdk_21_method_20_code 35 = .ok (.areturn, 1) := by decide +kernel
theorem ef_rm17 (m : MethodId) (x0 : Addr) : entryFrame m #[(.ref x0)] 4 = mkF m 0 #[.val (.ref x0), .unset, .unset, .unset] [] := by first | (simp [entryFrame, mkF, argsToLocals, Value.category]; done) | rfl
def Q17 (Z : State) (a1 : Addr) (ar : Addr) (xh : Int32) (xt : Int32) (f : Nat → Value) (i : Nat) (ea : Addr) (h0 : Heap) (n0 : Nat) (v : Option Value) (h : Heap) (L : List Loc) : Prop := v = some (.ref ea) ∧ Fr n0 L ∧ Keep h0 h [a1, ar] ∧ Fld Z h a1 "java/util/ArrayDeque" "elements" "[Ljava/lang/Object;" (.ref ar) ∧ Fld Z h a1 "java/util/ArrayDeque" "head" "I" (.int (xh + (1 : Int32))) ∧ Fld Z h a1 "java/util/ArrayDeque" "tail" "I" (.int xt) ∧ AryO Z h ar 17 (fun x => if x = i then .null else f x)
set_option maxRecDepth 65536 in
set_option maxHeartbeats 40000000 in
theorem rm17 (l : Launch) (Z : State) (a0 : Array Value) (hw : ∀ d ∈ tables_1, d.before a0 Z = true) (ws : List Jvm.Cond) (a1 : Addr) (ar : Addr) (xh : Int32) (xt : Int32) (f : Nat → Value) (i : Nat) (ea : Addr) (h0 : Heap) (n0 : Nat) (Z0 : n0 ≤ h0.size) (E_a1 : Exa Z h0 a1 "java/util/ArrayDeque") (F_elements : Fld Z h0 a1 "java/util/ArrayDeque" "elements" "[Ljava/lang/Object;" (.ref ar)) (F_head : Fld Z h0 a1 "java/util/ArrayDeque" "head" "I" (.int xh)) (F_tail : Fld Z h0 a1 "java/util/ArrayDeque" "tail" "I" (.int xt)) (A : AryO Z h0 ar 17 f) (ne_a1_ar : a1 ≠ ar) (g_a1 : n0 ≤ a1) (g_ar : n0 ≤ ar) (hxh : xh.toInt = (i : Int)) (hi : i < 16) (hu : f i = .ref ea) :
    MetFree l (⟨"java/util/ArrayDeque", "pollFirst", "()Ljava/lang/Object;"⟩ : MethodName) (head1 (Jvm.Cond.code (⟨"java/util/ArrayDeque", "pollFirst", "()Ljava/lang/Object;"⟩ : MethodName) jdk_21_method_20_code 4 (some (.object "java/lang/Object")) :: ws) ({ frames := 1, cells := 0, slots := 0, locals := 14 } : Room)) (fun a U => a = #[(.ref a1)] ∧ Z.Warmed39 U.vm ∧ U.heap = h0) (fun _ _ _ _ _ => True) (fun _ U o U' => ∃ v L, o = .returned v ∧ Q17 Z a1 ar xh xt f i ea h0 n0 v U'.heap L ∧ FrameEnd U o U' L ({ frames := 1, cells := 0, slots := 0, locals := 14 } : Room).cells ({ frames := 1, cells := 0, slots := 0, locals := 14 } : Room).slots) := by
  refine MetFree.of_bodySF (plainFor_of_name pn_0) hisR ?_
  intro p e s m args below meth c s₁ Bd hml0 hP hK
  obtain ⟨rfl, hZ, hh⟩ := hP
  have hx := Bd.exec
  have hby := Bd.bytes
  have hml : c.maxLocals = 4 := hml0
  have hown : s.vm.findClass "java/util/ArrayDeque" = some m.cls := findClass_of_methodNamed Bd.named
  have hnm := (name_of_methodNamed Bd.named Bd.method).1
  have X0 : Stand p l e ({ frames := 1, cells := 0, slots := 0, locals := 14 } : Room) s m #[(.ref a1)] below meth c s₁ [] 0 0 := Stand.of_body Bd
  have e0 : s₁.heap = h0 := by rw [← hh, Bd.state]; rfl
  have N0 := Fr.nil n0
  have K0 := Keep.refl h0 [a1, ar]
  suffices hD : Dn p e below s (Q17 Z a1 ar xh xt f i ea h0 n0) ({ frames := 1, cells := 0, slots := 0, locals := 14 } : Room).cells ({ frames := 1, cells := 0, slots := 0, locals := 14 } : Room).slots s₁ (mkF m 0 #[.val (.ref a1), .unset, .unset, .unset] []) from by
    obtain ⟨s₂, o, q1, q2⟩ := hD
    exact ⟨s₂, o, castTop (ef_rm17 m a1) q1, q2⟩
  refine Dn.st (fun t q => XS.aloadN X0.here hx rfl (hb hby d17_0) rfl rfl  q) ?_
  show Dn p e below s _ _ _ s₁ (mkF m 1 #[.val (.ref a1), .unset, .unset, .unset] [(.ref a1)])
  obtain ⟨T1, X1, e1, st1⟩ := getF X0 hx hZ hown (host := "") (Or.inl (hw _ (List.mem_of_getElem? (i := 29) rfl))) Via.refl e0 F_elements (g := (mkF m 1 #[.val (.ref a1), .unset, .unset, .unset] [(.ref a1)])) rfl rfl (hb hby d17_1)
  refine Dn.st st1 ?_
  show Dn p e below s _ _ _ T1 (mkF m 4 #[.val (.ref a1), .unset, .unset, .unset] [(.ref ar)])
  refine Dn.st (fun t q => XS.dup X1.here hx rfl (hb hby d17_4) rfl rfl q) ?_
  show Dn p e below s _ _ _ T1 (mkF m 5 #[.val (.ref a1), .unset, .unset, .unset] [(.ref ar), (.ref ar)])
  refine Dn.st (fun t q => XS.astoreN X1.here hx rfl (hb hby d17_5) rfl rfl (l' := #[.val (.ref a1), .val (.ref ar), .unset, .unset]) rfl q) ?_
  show Dn p e below s _ _ _ T1 (mkF m 6 #[.val (.ref a1), .val (.ref ar), .unset, .unset] [(.ref ar)])
  refine Dn.st (fun t q => XS.aloadN X1.here hx rfl (hb hby d17_6) rfl rfl  q) ?_
  show Dn p e below s _ _ _ T1 (mkF m 7 #[.val (.ref a1), .val (.ref ar), .unset, .unset] [(.ref a1), (.ref ar)])
  obtain ⟨T2, X2, e2, st2⟩ := getF X1 hx hZ hown (host := "") (Or.inl (hw _ (List.mem_of_getElem? (i := 54) rfl))) Via.refl e1 F_head (g := (mkF m 7 #[.val (.ref a1), .val (.ref ar), .unset, .unset] [(.ref a1), (.ref ar)])) rfl rfl (hb hby d17_7)
  refine Dn.st st2 ?_
  show Dn p e below s _ _ _ T2 (mkF m 10 #[.val (.ref a1), .val (.ref ar), .unset, .unset] [(.int xh), (.ref ar)])
  refine Dn.st (fun t q => XS.dup X2.here hx rfl (hb hby d17_10) rfl rfl q) ?_
  show Dn p e below s _ _ _ T2 (mkF m 11 #[.val (.ref a1), .val (.ref ar), .unset, .unset] [(.int xh), (.int xh), (.ref ar)])
  refine Dn.st (fun t q => XS.istoreN X2.here hx rfl (hb hby d17_11) rfl (l' := #[.val (.ref a1), .val (.ref ar), .val (.int xh), .unset]) rfl q) ?_
  show Dn p e below s _ _ _ T2 (mkF m 12 #[.val (.ref a1), .val (.ref ar), .val (.int xh), .unset] [(.int xh), (.ref ar)])
  obtain ⟨_, _, ⟨T3, Lq3, kq_3, nq_3⟩, -, X3, ⟨Lc3, hQ3, lq3, yq3, zq3⟩, st3⟩ := Jvm.LawKit.callS X2 hx (y := (⟨"java/util/ArrayDeque", "elementAt", "([Ljava/lang/Object;I)Ljava/lang/Object;"⟩ : MethodName)) hown (mvT hZ (hw _ (List.mem_of_getElem? (i := 66) rfl))) (mvT hZ (hw _ (List.mem_of_getElem? (i := 67) rfl))) (mvT hZ (hw _ (List.mem_of_getElem? (i := 16) rfl))) (mvT hZ (hw _ (List.mem_of_getElem? (i := 68) rfl))) (by decide) (backOf (W := 0) (rm10 l Z a0 hw [] ar xh f i (.ref ea) h0 n0 Z0 A hxh (by omega) hu rfl) hZ (hw _ (List.mem_of_getElem? (i := 68) rfl)) (hw _ (List.mem_of_getElem? (i := 16) rfl)) (by decide) (by decide)) (g := (mkF m 12 #[.val (.ref a1), .val (.ref ar), .val (.int xh), .unset] [(.int xh), (.ref ar)])) rfl (by rw [hml]; rfl) (argsL := [(.ref ar), (.int xh)]) (rest := []) (lenOf pd_0 rfl) rfl (by show 2 * 0 + _ ≤ _; exact Nat.le_of_eq rfl) (hb hby d17_12) (fun _ _ => ⟨rfl, e2, (by decide : 0 + 0 ≤ _), (by decide : 0 + 0 ≤ _)⟩)
  dsimp only [Pt.U, Pt.locs, Pt.cells, Pt.slots] at X3 lq3 yq3 zq3 st3 hQ3
  subst lq3 yq3 zq3
  obtain ⟨rfl, N3q, hq3⟩ := hQ3
  have N0 := Fr.app N0 N3q
  have e3 : T3.heap = h0 := hq3
  refine Dn.st st3 ?_
  show Dn p e below s _ _ _ T3 (mkF m 15 #[.val (.ref a1), .val (.ref ar), .val (.int xh), .unset] [(.ref ea)])
  refine Dn.st (fun t q => XS.astoreN X3.here hx rfl (hb hby d17_15) rfl rfl (l' := #[.val (.ref a1), .val (.ref ar), .val (.int xh), .val (.ref ea)]) rfl q) ?_
  show Dn p e below s _ _ _ T3 (mkF m 16 #[.val (.ref a1), .val (.ref ar), .val (.int xh), .val (.ref ea)] [])
  refine Dn.st (fun t q => XS.aloadN X3.here hx rfl (hb hby d17_16) rfl rfl  q) ?_
  show Dn p e below s _ _ _ T3 (mkF m 17 #[.val (.ref a1), .val (.ref ar), .val (.int xh), .val (.ref ea)] [(.ref ea)])
  refine Dn.st (fun t q => XS.ifnullNo X3.here hx rfl (hb hby d17_17) rfl q) ?_
  show Dn p e below s _ _ _ T3 (mkF m 20 #[.val (.ref a1), .val (.ref ar), .val (.int xh), .val (.ref ea)] [])
  refine Dn.st (fun t q => XS.aloadN X3.here hx rfl (hb hby d17_20) rfl rfl  q) ?_
  show Dn p e below s _ _ _ T3 (mkF m 21 #[.val (.ref a1), .val (.ref ar), .val (.int xh), .val (.ref ea)] [(.ref ar)])
  refine Dn.st (fun t q => XS.iloadN X3.here hx rfl (hb hby d17_21) rfl  q) ?_
  show Dn p e below s _ _ _ T3 (mkF m 22 #[.val (.ref a1), .val (.ref ar), .val (.int xh), .val (.ref ea)] [(.int xh), (.ref ar)])
  refine Dn.st (fun t q => XS.aconstNull X3.here hx rfl (hb hby d17_22) q) ?_
  show Dn p e below s _ _ _ T3 (mkF m 23 #[.val (.ref a1), .val (.ref ar), .val (.int xh), .val (.ref ea)] [.null, (.int xh), (.ref ar)])
  obtain ⟨T4, h4, X4, e4, W4, B4, st4⟩ := aStoO X3 hx hZ e3 A (Or.inl rfl) (i := i) hxh (by omega) (g := (mkF m 23 #[.val (.ref a1), .val (.ref ar), .val (.int xh), .val (.ref ea)] [.null, (.int xh), (.ref ar)])) rfl rfl (hb hby d17_23)
  have N0 := Fr.snoc X4 N0 g_ar
  have Z0 := Nat.le_trans Z0 (Keep.of_wr W4).1
  have K0 := K0.wr W4 (Or.inl (List.mem_of_getElem? (i := 1) rfl))
  have E_a1 := E_a1.wr W4
  have F_elements := F_elements.other W4 (Or.inl ne_a1_ar)
  have F_head := F_head.other W4 (Or.inl ne_a1_ar)
  have F_tail := F_tail.other W4 (Or.inl ne_a1_ar)
  have A : AryO Z h4 ar 17 (fun x => if x = i then .null else f x) := B4.congr (fun _ _ => rfl)
  refine Dn.st st4 ?_
  show Dn p e below s _ _ _ T4 (mkF m 24 #[.val (.ref a1), .val (.ref ar), .val (.int xh), .val (.ref ea)] [])
  refine Dn.st (fun t q => XS.aloadN X4.here hx rfl (hb hby d17_24) rfl rfl  q) ?_
  show Dn p e below s _ _ _ T4 (mkF m 25 #[.val (.ref a1), .val (.ref ar), .val (.int xh), .val (.ref ea)] [(.ref a1)])
  refine Dn.st (fun t q => XS.iloadN X4.here hx rfl (hb hby d17_25) rfl  q) ?_
  show Dn p e below s _ _ _ T4 (mkF m 26 #[.val (.ref a1), .val (.ref ar), .val (.int xh), .val (.ref ea)] [(.int xh), (.ref a1)])
  refine Dn.st (fun t q => XS.aloadN X4.here hx rfl (hb hby d17_26) rfl rfl  q) ?_
  show Dn p e below s _ _ _ T4 (mkF m 27 #[.val (.ref a1), .val (.ref ar), .val (.int xh), .val (.ref ea)] [(.ref ar), (.int xh), (.ref a1)])
  refine Dn.st (aLenO X4 hx hZ e4 A (g := (mkF m 27 #[.val (.ref a1), .val (.ref ar), .val (.int xh), .val (.ref ea)] [(.ref ar), (.int xh), (.ref a1)])) rfl rfl (hb hby d17_27)) ?_
  show Dn p e below s _ _ _ T4 (mkF m 28 #[.val (.ref a1), .val (.ref ar), .val (.int xh), .val (.ref ea)] [(.int (Nat.toInt32 17)), (.int xh), (.ref a1)])
  obtain ⟨_, _, ⟨T5, Lq5, kq_5, nq_5⟩, -, X5, ⟨Lc5, hQ5, lq5, yq5, zq5⟩, st5⟩ := Jvm.LawKit.callS X4 hx (y := (⟨"java/util/ArrayDeque", "inc", "(II)I"⟩ : MethodName)) hown (mvT hZ (hw _ (List.mem_of_getElem? (i := 86) rfl))) (mvT hZ (hw _ (List.mem_of_getElem? (i := 87) rfl))) (mvT hZ (hw _ (List.mem_of_getElem? (i := 16) rfl))) (mvT hZ (hw _ (List.mem_of_getElem? (i := 88) rfl))) (by decide) (backOf (W := 1) (rm13 l Z a0 hw [] xh (Nat.toInt32 17)  h4 n0 Z0 ) hZ (hw _ (List.mem_of_getElem? (i := 88) rfl)) (hw _ (List.mem_of_getElem? (i := 16) rfl)) (by decide) (by decide)) (g := (mkF m 28 #[.val (.ref a1), .val (.ref ar), .val (.int xh), .val (.ref ea)] [(.int (Nat.toInt32 17)), (.int xh), (.ref a1)])) rfl (by rw [hml]; rfl) (argsL := [(.int xh), (.int (Nat.toInt32 17))]) (rest := [(.ref a1)]) (lenOf pd_1 rfl) rfl (by show 2 * 0 + _ ≤ _; exact Nat.le_of_eq rfl) (hb hby d17_28) (fun _ _ => ⟨rfl, e4, (by decide : 0 + 0 ≤ _), (by decide : 0 + 0 ≤ _)⟩)
  dsimp only [Pt.U, Pt.locs, Pt.cells, Pt.slots] at X5 lq5 yq5 zq5 st5 hQ5
  subst lq5 yq5 zq5
  obtain ⟨rfl, N5q, hq5⟩ := hQ5
  have N0 := Fr.app N0 N5q
  have e5 : T5.heap = h4 := hq5
  refine Dn.st st5 ?_
  show Dn p e below s _ _ _ T5 (mkF m 31 #[.val (.ref a1), .val (.ref ar), .val (.int xh), .val (.ref ea)] [(.int (own_inc xh (Nat.toInt32 17))), (.ref a1)])
  rw [show (own_inc xh (Nat.toInt32 17)) = (xh + (1 : Int32)) from (own_inc_eq hxh hi)]
  show Dn p e below s _ _ _ T5 (mkF m 31 #[.val (.ref a1), .val (.ref ar), .val (.int xh), .val (.ref ea)] [(.int (xh + (1 : Int32))), (.ref a1)])
  obtain ⟨T6, h6, X6, e6, W6, st6⟩ := putF X5 hx hZ hown (host := "") (Or.inl (hw _ (List.mem_of_getElem? (i := 54) rfl))) Via.refl e5 F_head E_a1 (Or.inl (hw _ (List.mem_of_getElem? (i := 55) rfl))) (hw _ (List.mem_of_getElem? (i := 15) rfl)) (ty := .int) (by decide) rfl rfl (g := (mkF m 31 #[.val (.ref a1), .val (.ref ar), .val (.int xh), .val (.ref ea)] [(.int (xh + (1 : Int32))), (.ref a1)])) rfl rfl (hb hby d17_31)
  have N0 := Fr.snoc X6 N0 g_a1
  have Z0 := Nat.le_trans Z0 (Keep.of_wr W6).1
  have K0 := K0.wr W6 (Or.inl (List.mem_of_getElem? (i := 0) rfl))
  have E_a1 := E_a1.wr W6
  have F_elements := F_elements.other W6 (Or.inr (slot_ne (Or.inl (hw _ (List.mem_of_getElem? (i := 30) rfl))) (Or.inl (hw _ (List.mem_of_getElem? (i := 55) rfl))) (by decide) (t := (.array (.object "java/lang/Object"))) (t' := .int) (by decide) (by decide)))
  have F_head := F_head.same W6
  have F_tail := F_tail.other W6 (Or.inr (slot_ne (Or.inl (hw _ (List.mem_of_getElem? (i := 57) rfl))) (Or.inl (hw _ (List.mem_of_getElem? (i := 55) rfl))) (by decide) (t := .int) (t' := .int) (by decide) (by decide)))
  have A := A.other W6 (Ne.symm ne_a1_ar)
  refine Dn.st st6 ?_
  show Dn p e below s _ _ _ T6 (mkF m 34 #[.val (.ref a1), .val (.ref ar), .val (.int xh), .val (.ref ea)] [])
  refine Dn.st (fun t q => XS.aloadN X6.here hx rfl (hb hby d17_34) rfl rfl  q) ?_
  show Dn p e below s _ _ _ T6 (mkF m 35 #[.val (.ref a1), .val (.ref ar), .val (.int xh), .val (.ref ea)] [(.ref ea)])
  exact Dn.retA X6 hx Bd.notSynchronized Bd.returns rfl rfl (hb hby d17_35) (by rw [e6]; exact ⟨rfl, N0, K0, F_elements, F_head, F_tail, A⟩) (by decide) (by decide)
theorem d16_0 : decode jdk_21_method_18_code 0 = .ok (.aload_n 0, 1) := by decide +kernel
theorem d16_1 : decode jdk_21_method_18_code 1 = .ok (.invokevirtual 93, 3) := by decide +kernel
theorem pd_2 : parseMethodDescriptor "()Ljava/lang/Object;" = some ⟨[], some (.object "java/lang/Object")⟩ := by decide +kernel
theorem d16_4 : decode jdk_21_method_18_code 4 = .ok (.astore_n 1, 1) := by decide +kernel
theorem d16_5 : decode jdk_21_method_18_code 5 = .ok (.aload_n 1, 1) := by decide +kernel
theorem d16_6 : decode jdk_21_method_18_code 6 = .ok (.ifnonnull 11, 3) := by decide +kernel
theorem d16_17 : decode jdk_21_method_18_code 17 = .ok (.aload_n 1, 1) := by decide +kernel
theorem d16_18 : decode jdk_21_method_18_code 18 = .ok (.areturn, 1) := by decide +kernel
theorem ef_rm16 (m : MethodId) (x0 : Addr) : entryFrame m #[(.ref x0)] 2 = mkF m 0 #[.val (.ref x0), .unset] [] := by first | (simp [entryFrame, mkF, argsToLocals, Value.category]; done) | rfl
def Q16 (Z : State) (a1 : Addr) (ar : Addr) (xh : Int32) (xt : Int32) (f : Nat → Value) (i : Nat) (ea : Addr) (h0 : Heap) (n0 : Nat) (v : Option Value) (h : Heap) (L : List Loc) : Prop := v = some (.ref ea) ∧ Fr n0 L ∧ Keep h0 h [a1, ar] ∧ Fld Z h a1 "java/util/ArrayDeque" "elements" "[Ljava/lang/Object;" (.ref ar) ∧ Fld Z h a1 "java/util/ArrayDeque" "head" "I" (.int (xh + (1 : Int32))) ∧ Fld Z h a1 "java/util/ArrayDeque" "tail" "I" (.int xt) ∧ AryO Z h ar 17 (fun x => if x = i then .null else f x)
set_option maxRecDepth 65536 in
set_option maxHeartbeats 40000000 in
theorem rm16 (l : Launch) (Z : State) (a0 : Array Value) (hw : ∀ d ∈ tables_1, d.before a0 Z = true) (ws : List Jvm.Cond) (a1 : Addr) (ar : Addr) (xh : Int32) (xt : Int32) (f : Nat → Value) (i : Nat) (ea : Addr) (h0 : Heap) (n0 : Nat) (Z0 : n0 ≤ h0.size) (E_a1 : Exa Z h0 a1 "java/util/ArrayDeque") (F_elements : Fld Z h0 a1 "java/util/ArrayDeque" "elements" "[Ljava/lang/Object;" (.ref ar)) (F_head : Fld Z h0 a1 "java/util/ArrayDeque" "head" "I" (.int xh)) (F_tail : Fld Z h0 a1 "java/util/ArrayDeque" "tail" "I" (.int xt)) (A : AryO Z h0 ar 17 f) (ne_a1_ar : a1 ≠ ar) (g_a1 : n0 ≤ a1) (g_ar : n0 ≤ ar) (hxh : xh.toInt = (i : Int)) (hi : i < 16) (hu : f i = .ref ea) :
    MetFree l (⟨"java/util/ArrayDeque", "removeFirst", "()Ljava/lang/Object;"⟩ : MethodName) (head1 (Jvm.Cond.code (⟨"java/util/ArrayDeque", "removeFirst", "()Ljava/lang/Object;"⟩ : MethodName) jdk_21_method_18_code 2 (some (.object "java/lang/Object")) :: ws) ({ frames := 2, cells := 0, slots := 0, locals := 29 } : Room)) (fun a U => a = #[(.ref a1)] ∧ Z.Warmed39 U.vm ∧ U.heap = h0) (fun _ _ _ _ _ => True) (fun _ U o U' => ∃ v L, o = .returned v ∧ Q16 Z a1 ar xh xt f i ea h0 n0 v U'.heap L ∧ FrameEnd U o U' L ({ frames := 2, cells := 0, slots := 0, locals := 29 } : Room).cells ({ frames := 2, cells := 0, slots := 0, locals := 29 } : Room).slots) := by
  refine MetFree.of_bodySF (plainFor_of_name pn_0) hisR ?_
  intro p e s m args below meth c s₁ Bd hml0 hP hK
  obtain ⟨rfl, hZ, hh⟩ := hP
  have hx := Bd.exec
  have hby := Bd.bytes
  have hml : c.maxLocals = 2 := hml0
  have hown : s.vm.findClass "java/util/ArrayDeque" = some m.cls := findClass_of_methodNamed Bd.named
  have hnm := (name_of_methodNamed Bd.named Bd.method).1
  have X0 : Stand p l e ({ frames := 2, cells := 0, slots := 0, locals := 29 } : Room) s m #[(.ref a1)] below meth c s₁ [] 0 0 := Stand.of_body Bd
  have e0 : s₁.heap = h0 := by rw [← hh, Bd.state]; rfl
  have N0 := Fr.nil n0
  have K0 := Keep.refl h0 [a1, ar]
  suffices hD : Dn p e below s (Q16 Z a1 ar xh xt f i ea h0 n0) ({ frames := 2, cells := 0, slots := 0, locals := 29 } : Room).cells ({ frames := 2, cells := 0, slots := 0, locals := 29 } : Room).slots s₁ (mkF m 0 #[.val (.ref a1), .unset] []) from by
    obtain ⟨s₂, o, q1, q2⟩ := hD
    exact ⟨s₂, o, castTop (ef_rm16 m a1) q1, q2⟩
  refine Dn.st (fun t q => XS.aloadN X0.here hx rfl (hb hby d16_0) rfl rfl  q) ?_
  show Dn p e below s _ _ _ s₁ (mkF m 1 #[.val (.ref a1), .unset] [(.ref a1)])
  obtain ⟨cq1, kq1, q1a, q1b, q1c⟩ := isOf hZ e0 E_a1
  obtain ⟨_, _, ⟨T1, Lq1, kq_1, nq_1⟩, -, X1, ⟨Lc1, hQ1, lq1, yq1, zq1⟩, st1⟩ := X0.virtualBack hx (y := (⟨"java/util/ArrayDeque", "pollFirst", "()Ljava/lang/Object;"⟩ : MethodName)) (z := (⟨"java/util/ArrayDeque", "pollFirst", "()Ljava/lang/Object;"⟩ : MethodName)) hown (mvT hZ (hw _ (List.mem_of_getElem? (i := 109) rfl))) (mvT hZ (hw _ (List.mem_of_getElem? (i := 110) rfl))) (notFace_of_selects (args := #[]) (mvT hZ (hw _ (List.mem_of_getElem? (i := 112) rfl)))) (mvT hZ (hw _ (List.mem_of_getElem? (i := 112) rfl))) (mvT hZ (hw _ (List.mem_of_getElem? (i := 111) rfl))) (by decide) (backOf (W := 0) (rm17 l Z a0 hw [] a1 ar xh xt f i ea h0 n0 Z0 E_a1 F_elements F_head F_tail A ne_a1_ar g_a1 g_ar hxh hi hu) hZ (hw _ (List.mem_of_getElem? (i := 113) rfl)) (hw _ (List.mem_of_getElem? (i := 16) rfl)) (by decide) (by decide)) q1a q1c (g := (mkF m 1 #[.val (.ref a1), .unset] [(.ref a1)])) rfl (by rw [hml]; rfl) (Steps.refl _) (argsL := []) (rest := []) (lenOf pd_2 rfl) rfl (by show 2 * 0 + _ ≤ _; exact Nat.le_of_eq rfl) (hb hby d16_1) (fun _ _ => ⟨rfl, e0, (by decide : 0 + 0 ≤ _), (by decide : 0 + 0 ≤ _)⟩)
  dsimp only [Pt.U, Pt.locs, Pt.cells, Pt.slots] at X1 lq1 yq1 zq1 st1 hQ1
  subst lq1 yq1 zq1
  obtain ⟨rfl, N1q, K1, F_elements, F_head, F_tail, A⟩ := hQ1
  have N0 := Fr.app N0 N1q
  have Z0 := Nat.le_trans Z0 K1.1
  have K0 := K0.trans K1 (allS (Or.inl (List.mem_of_getElem? (i := 0) rfl)) (allS (Or.inl (List.mem_of_getElem? (i := 1) rfl)) all0))
  have E_a1 := E_a1.keep K1
  refine Dn.tr st1 ?_
  show Dn p e below s _ _ _ T1 (mkF m 4 #[.val (.ref a1), .unset] [(.ref ea)])
  refine Dn.st (fun t q => XS.astoreN X1.here hx rfl (hb hby d16_4) rfl rfl (l' := #[.val (.ref a1), .val (.ref ea)]) rfl q) ?_
  show Dn p e below s _ _ _ T1 (mkF m 5 #[.val (.ref a1), .val (.ref ea)] [])
  refine Dn.st (fun t q => XS.aloadN X1.here hx rfl (hb hby d16_5) rfl rfl  q) ?_
  show Dn p e below s _ _ _ T1 (mkF m 6 #[.val (.ref a1), .val (.ref ea)] [(.ref ea)])
  refine Dn.st (fun t q => XS.ifnonnullYes X1.here hx rfl (pc0 := 6) (pc' := 17) rfl (hb hby d16_6) rfl (by decide) (by decide) q) ?_
  show Dn p e below s _ _ _ T1 (mkF m 17 #[.val (.ref a1), .val (.ref ea)] [])
  refine Dn.st (fun t q => XS.aloadN X1.here hx rfl (hb hby d16_17) rfl rfl  q) ?_
  show Dn p e below s _ _ _ T1 (mkF m 18 #[.val (.ref a1), .val (.ref ea)] [(.ref ea)])
  exact Dn.retA X1 hx Bd.notSynchronized Bd.returns rfl rfl (hb hby d16_18) (by exact ⟨rfl, N0, K0, F_elements, F_head, F_tail, A⟩) (by decide) (by decide)
theorem d19_0 : decode jdk_21_method_37_code 0 = .ok (.aload_n 0, 1) := by decide +kernel
theorem d19_1 : decode jdk_21_method_37_code 1 = .ok (.getfield 20, 3) := by decide +kernel
theorem d19_4 : decode jdk_21_method_37_code 4 = .ok (.aload_n 0, 1) := by decide +kernel
theorem d19_5 : decode jdk_21_method_37_code 5 = .ok (.getfield 24, 3) := by decide +kernel
theorem d19_8 : decode jdk_21_method_37_code 8 = .ok (.aload_n 0, 1) := by decide +kernel
theorem d19_9 : decode jdk_21_method_37_code 9 = .ok (.getfield 3, 3) := by decide +kernel
theorem d19_12 : decode jdk_21_method_37_code 12 = .ok (.arraylength, 1) := by decide +kernel
theorem d19_13 : decode jdk_21_method_37_code 13 = .ok (.invokestatic 127, 3) := by decide +kernel
theorem pd_3 : parseMethodDescriptor "(III)I" = some ⟨[.int, .int, .int], some .int⟩ := by decide +kernel
theorem d19_16 : decode jdk_21_method_37_code 16 = .ok (.ireturn, 1) := by decide +kernel
theorem ef_rm19 (m : MethodId) (x0 : Addr) : entryFrame m #[(.ref x0)] 1 = mkF m 0 #[.val (.ref x0)] [] := by first | (simp [entryFrame, mkF, argsToLocals, Value.category]; done) | rfl
def Q19 (Z : State) (a1 : Addr) (ar : Addr) (xh : Int32) (xt : Int32) (f : Nat → Value) (h0 : Heap) (n0 : Nat) (v : Option Value) (h : Heap) (L : List Loc) : Prop := v = some (.int (own_sub xt xh (Nat.toInt32 17))) ∧ Fr n0 L ∧ h = h0
set_option maxRecDepth 65536 in
set_option maxHeartbeats 40000000 in
theorem rm19 (l : Launch) (Z : State) (a0 : Array Value) (hw : ∀ d ∈ tables_1, d.before a0 Z = true) (ws : List Jvm.Cond) (a1 : Addr) (ar : Addr) (xh : Int32) (xt : Int32) (f : Nat → Value) (h0 : Heap) (n0 : Nat) (Z0 : n0 ≤ h0.size) (F_elements : Fld Z h0 a1 "java/util/ArrayDeque" "elements" "[Ljava/lang/Object;" (.ref ar)) (F_head : Fld Z h0 a1 "java/util/ArrayDeque" "head" "I" (.int xh)) (F_tail : Fld Z h0 a1 "java/util/ArrayDeque" "tail" "I" (.int xt)) (A : AryO Z h0 ar 17 f) :
    MetFree l (⟨"java/util/ArrayDeque", "size", "()I"⟩ : MethodName) (head1 (Jvm.Cond.code (⟨"java/util/ArrayDeque", "size", "()I"⟩ : MethodName) jdk_21_method_37_code 1 (some .int) :: ws) ({ frames := 1, cells := 0, slots := 0, locals := 14 } : Room)) (fun a U => a = #[(.ref a1)] ∧ Z.Warmed39 U.vm ∧ U.heap = h0) (fun _ _ _ _ _ => True) (fun _ U o U' => ∃ v L, o = .returned v ∧ Q19 Z a1 ar xh xt f h0 n0 v U'.heap L ∧ FrameEnd U o U' L ({ frames := 1, cells := 0, slots := 0, locals := 14 } : Room).cells ({ frames := 1, cells := 0, slots := 0, locals := 14 } : Room).slots) := by
  refine MetFree.of_bodySF (plainFor_of_name pn_0) hisR ?_
  intro p e s m args below meth c s₁ Bd hml0 hP hK
  obtain ⟨rfl, hZ, hh⟩ := hP
  have hx := Bd.exec
  have hby := Bd.bytes
  have hml : c.maxLocals = 1 := hml0
  have hown : s.vm.findClass "java/util/ArrayDeque" = some m.cls := findClass_of_methodNamed Bd.named
  have hnm := (name_of_methodNamed Bd.named Bd.method).1
  have X0 : Stand p l e ({ frames := 1, cells := 0, slots := 0, locals := 14 } : Room) s m #[(.ref a1)] below meth c s₁ [] 0 0 := Stand.of_body Bd
  have e0 : s₁.heap = h0 := by rw [← hh, Bd.state]; rfl
  have N0 := Fr.nil n0
  have K0 := Keep.refl h0 []
  suffices hD : Dn p e below s (Q19 Z a1 ar xh xt f h0 n0) ({ frames := 1, cells := 0, slots := 0, locals := 14 } : Room).cells ({ frames := 1, cells := 0, slots := 0, locals := 14 } : Room).slots s₁ (mkF m 0 #[.val (.ref a1)] []) from by
    obtain ⟨s₂, o, q1, q2⟩ := hD
    exact ⟨s₂, o, castTop (ef_rm19 m a1) q1, q2⟩
  refine Dn.st (fun t q => XS.aloadN X0.here hx rfl (hb hby d19_0) rfl rfl  q) ?_
  show Dn p e below s _ _ _ s₁ (mkF m 1 #[.val (.ref a1)] [(.ref a1)])
  obtain ⟨T1, X1, e1, st1⟩ := getF X0 hx hZ hown (host := "") (Or.inl (hw _ (List.mem_of_getElem? (i := 56) rfl))) Via.refl e0 F_tail (g := (mkF m 1 #[.val (.ref a1)] [(.ref a1)])) rfl rfl (hb hby d19_1)
  refine Dn.st st1 ?_
  show Dn p e below s _ _ _ T1 (mkF m 4 #[.val (.ref a1)] [(.int xt)])
  refine Dn.st (fun t q => XS.aloadN X1.here hx rfl (hb hby d19_4) rfl rfl  q) ?_
  show Dn p e below s _ _ _ T1 (mkF m 5 #[.val (.ref a1)] [(.ref a1), (.int xt)])
  obtain ⟨T2, X2, e2, st2⟩ := getF X1 hx hZ hown (host := "") (Or.inl (hw _ (List.mem_of_getElem? (i := 54) rfl))) Via.refl e1 F_head (g := (mkF m 5 #[.val (.ref a1)] [(.ref a1), (.int xt)])) rfl rfl (hb hby d19_5)
  refine Dn.st st2 ?_
  show Dn p e below s _ _ _ T2 (mkF m 8 #[.val (.ref a1)] [(.int xh), (.int xt)])
  refine Dn.st (fun t q => XS.aloadN X2.here hx rfl (hb hby d19_8) rfl rfl  q) ?_
  show Dn p e below s _ _ _ T2 (mkF m 9 #[.val (.ref a1)] [(.ref a1), (.int xh), (.int xt)])
  obtain ⟨T3, X3, e3, st3⟩ := getF X2 hx hZ hown (host := "") (Or.inl (hw _ (List.mem_of_getElem? (i := 29) rfl))) Via.refl e2 F_elements (g := (mkF m 9 #[.val (.ref a1)] [(.ref a1), (.int xh), (.int xt)])) rfl rfl (hb hby d19_9)
  refine Dn.st st3 ?_
  show Dn p e below s _ _ _ T3 (mkF m 12 #[.val (.ref a1)] [(.ref ar), (.int xh), (.int xt)])
  refine Dn.st (aLenO X3 hx hZ e3 A (g := (mkF m 12 #[.val (.ref a1)] [(.ref ar), (.int xh), (.int xt)])) rfl rfl (hb hby d19_12)) ?_
  show Dn p e below s _ _ _ T3 (mkF m 13 #[.val (.ref a1)] [(.int (Nat.toInt32 17)), (.int xh), (.int xt)])
  obtain ⟨_, _, ⟨T4, Lq4, kq_4, nq_4⟩, -, X4, ⟨Lc4, hQ4, lq4, yq4, zq4⟩, st4⟩ := Jvm.LawKit.callS X3 hx (y := (⟨"java/util/ArrayDeque", "sub", "(III)I"⟩ : MethodName)) hown (mvT hZ (hw _ (List.mem_of_getElem? (i := 124) rfl))) (mvT hZ (hw _ (List.mem_of_getElem? (i := 125) rfl))) (mvT hZ (hw _ (List.mem_of_getElem? (i := 16) rfl))) (mvT hZ (hw _ (List.mem_of_getElem? (i := 126) rfl))) (by decide) (backOf (W := 0) (rm20 l Z a0 hw [] xt xh (Nat.toInt32 17)  h0 n0 Z0 ) hZ (hw _ (List.mem_of_getElem? (i := 126) rfl)) (hw _ (List.mem_of_getElem? (i := 16) rfl)) (by decide) (by decide)) (g := (mkF m 13 #[.val (.ref a1)] [(.int (Nat.toInt32 17)), (.int xh), (.int xt)])) rfl (by rw [hml]; rfl) (argsL := [(.int xt), (.int xh), (.int (Nat.toInt32 17))]) (rest := []) (lenOf pd_3 rfl) rfl (by show 2 * 0 + _ ≤ _; exact Nat.le_of_eq rfl) (hb hby d19_13) (fun _ _ => ⟨rfl, e3, (by decide : 0 + 0 ≤ _), (by decide : 0 + 0 ≤ _)⟩)
  dsimp only [Pt.U, Pt.locs, Pt.cells, Pt.slots] at X4 lq4 yq4 zq4 st4 hQ4
  subst lq4 yq4 zq4
  obtain ⟨rfl, N4q, hq4⟩ := hQ4
  have N0 := Fr.app N0 N4q
  have e4 : T4.heap = h0 := hq4
  refine Dn.st st4 ?_
  show Dn p e below s _ _ _ T4 (mkF m 16 #[.val (.ref a1)] [(.int (own_sub xt xh (Nat.toInt32 17)))])
  exact Dn.retI X4 hx Bd.notSynchronized Bd.returns (hb hby d19_16) (by rw [e4]; exact ⟨rfl, N0, rfl⟩) (by decide) (by decide)
theorem d15_0 : decode prog_17_method_9_code 0 = .ok (.lload_n 2, 1) := by decide +kernel
theorem d15_1 : decode prog_17_method_9_code 1 = .ok (.aload_n 1, 1) := by decide +kernel
theorem d15_2 : decode prog_17_method_9_code 2 = .ok (.getfield 58, 3) := by decide +kernel
theorem d15_5 : decode prog_17_method_9_code 5 = .ok (.lsub, 1) := by decide +kernel
theorem d15_6 : decode prog_17_method_9_code 6 = .ok (.aload_n 0, 1) := by decide +kernel
theorem d15_7 : decode prog_17_method_9_code 7 = .ok (.getfield 23, 3) := by decide +kernel
theorem d15_10 : decode prog_17_method_9_code 10 = .ok (.lcmp, 1) := by decide +kernel
theorem d15_11 : decode prog_17_method_9_code 11 = .ok (.ifCond .lt 7, 3) := by decide +kernel
theorem d15_18 : decode prog_17_method_9_code 18 = .ok (.iconst 0, 1) := by decide +kernel
theorem d15_19 : decode prog_17_method_9_code 19 = .ok (.ireturn, 1) := by decide +kernel
theorem d15_14 : decode prog_17_method_9_code 14 = .ok (.iconst 1, 1) := by decide +kernel
theorem d15_15 : decode prog_17_method_9_code 15 = .ok (.goto 4, 3) := by decide +kernel
theorem pn_1 : plainName "com/example/scripted_rate_limiter/scriptedratelimiter/PermitLog" = true := by first | (simp [plainName, overriddenIn]; done) | decide +kernel
theorem ef_rm15 (m : MethodId) (x0 : Addr) (x1 : Addr) (x2 : Int64) : entryFrame m #[(.ref x0), (.ref x1), (.long x2)] 4 = mkF m 0 #[.val (.ref x0), .val (.ref x1), .val (.long x2), .second] [] := by first | (simp [entryFrame, mkF, argsToLocals, Value.category]; done) | rfl
def Q15 (Z : State) (a1 : Addr) (a2 : Addr) (y1 : Int64) (yt : Int64) (yw : Int64) (h0 : Heap) (n0 : Nat) (v : Option Value) (h : Heap) (L : List Loc) : Prop := v = some (.int (if (y1 - yt) < yw then (0 : Int32) else (1 : Int32))) ∧ Fr n0 L ∧ h = h0
set_option maxRecDepth 65536 in
set_option maxHeartbeats 40000000 in
theorem rm15 (l : Launch) (Z : State) (a0 : Array Value) (hw : ∀ d ∈ tables_1, d.before a0 Z = true) (ws : List Jvm.Cond) (a1 : Addr) (a2 : Addr) (y1 : Int64) (yt : Int64) (yw : Int64) (h0 : Heap) (n0 : Nat) (Z0 : n0 ≤ h0.size) (F_tick : Fld Z h0 a2 "com/example/scripted_rate_limiter/scriptedratelimiter/PermitLog$Entry" "tick" "J" (.long yt)) (F_windowTicks : Fld Z h0 a1 "com/example/scripted_rate_limiter/scriptedratelimiter/PermitLog" "windowTicks" "J" (.long yw)) :
    MetFree l (⟨"com/example/scripted_rate_limiter/scriptedratelimiter/PermitLog", "hasLeft", "(Lcom/example/scripted_rate_limiter/scriptedratelimiter/PermitLog$Entry;J)Z"⟩ : MethodName) (head1 (Jvm.Cond.code (⟨"com/example/scripted_rate_limiter/scriptedratelimiter/PermitLog", "hasLeft", "(Lcom/example/scripted_rate_limiter/scriptedratelimiter/PermitLog$Entry;J)Z"⟩ : MethodName) prog_17_method_9_code 4 (some .boolean) :: ws) ({ frames := 0, cells := 0, slots := 0, locals := 0 } : Room)) (fun a U => a = #[(.ref a1), (.ref a2), (.long y1)] ∧ Z.Warmed39 U.vm ∧ U.heap = h0) (fun _ _ _ _ _ => True) (fun _ U o U' => ∃ v L, o = .returned v ∧ Q15 Z a1 a2 y1 yt yw h0 n0 v U'.heap L ∧ FrameEnd U o U' L ({ frames := 0, cells := 0, slots := 0, locals := 0 } : Room).cells ({ frames := 0, cells := 0, slots := 0, locals := 0 } : Room).slots) := by
  refine MetFree.of_bodySF (plainFor_of_name pn_1) hisR ?_
  intro p e s m args below meth c s₁ Bd hml0 hP hK
  obtain ⟨rfl, hZ, hh⟩ := hP
  have hx := Bd.exec
  have hby := Bd.bytes
  have hml : c.maxLocals = 4 := hml0
  have hown : s.vm.findClass "com/example/scripted_rate_limiter/scriptedratelimiter/PermitLog" = some m.cls := findClass_of_methodNamed Bd.named
  have hnm := (name_of_methodNamed Bd.named Bd.method).1
  have X0 : Stand p l e ({ frames := 0, cells := 0, slots := 0, locals := 0 } : Room) s m #[(.ref a1), (.ref a2), (.long y1)] below meth c s₁ [] 0 0 := Stand.of_body Bd
  have e0 : s₁.heap = h0 := by rw [← hh, Bd.state]; rfl
  have N0 := Fr.nil n0
  have K0 := Keep.refl h0 []
  suffices hD : Dn p e below s (Q15 Z a1 a2 y1 yt yw h0 n0) ({ frames := 0, cells := 0, slots := 0, locals := 0 } : Room).cells ({ frames := 0, cells := 0, slots := 0, locals := 0 } : Room).slots s₁ (mkF m 0 #[.val (.ref a1), .val (.ref a2), .val (.long y1), .second] []) from by
    obtain ⟨s₂, o, q1, q2⟩ := hD
    exact ⟨s₂, o, castTop (ef_rm15 m a1 a2 y1) q1, q2⟩
  refine Dn.st (fun t q => XS.lloadN X0.here hx rfl (hb hby d15_0) rfl  q) ?_
  show Dn p e below s _ _ _ s₁ (mkF m 1 #[.val (.ref a1), .val (.ref a2), .val (.long y1), .second] [(.long y1)])
  refine Dn.st (fun t q => XS.aloadN X0.here hx rfl (hb hby d15_1) rfl rfl  q) ?_
  show Dn p e below s _ _ _ s₁ (mkF m 2 #[.val (.ref a1), .val (.ref a2), .val (.long y1), .second] [(.ref a2), (.long y1)])
  refine Dn.st (getFR X0 hx hZ hown (hw _ (List.mem_of_getElem? (i := 101) rfl)) e0 F_tick (g := (mkF m 2 #[.val (.ref a1), .val (.ref a2), .val (.long y1), .second] [(.ref a2), (.long y1)])) rfl rfl (hb hby d15_2)) ?_
  show Dn p e below s _ _ _ s₁ (mkF m 5 #[.val (.ref a1), .val (.ref a2), .val (.long y1), .second] [(.long yt), (.long y1)])
  refine Dn.st (fun t q => XS.lsub X0.here hx rfl (hb hby d15_5) rfl q) ?_
  show Dn p e below s _ _ _ s₁ (mkF m 6 #[.val (.ref a1), .val (.ref a2), .val (.long y1), .second] [(.long (y1 - yt))])
  refine Dn.st (fun t q => XS.aloadN X0.here hx rfl (hb hby d15_6) rfl rfl  q) ?_
  show Dn p e below s _ _ _ s₁ (mkF m 7 #[.val (.ref a1), .val (.ref a2), .val (.long y1), .second] [(.ref a1), (.long (y1 - yt))])
  obtain ⟨T1, X1, e1, st1⟩ := getF X0 hx hZ hown (host := "") (Or.inl (hw _ (List.mem_of_getElem? (i := 37) rfl))) Via.refl e0 F_windowTicks (g := (mkF m 7 #[.val (.ref a1), .val (.ref a2), .val (.long y1), .second] [(.ref a1), (.long (y1 - yt))])) rfl rfl (hb hby d15_7)
  refine Dn.st st1 ?_
  show Dn p e below s _ _ _ T1 (mkF m 10 #[.val (.ref a1), .val (.ref a2), .val (.long y1), .second] [(.long yw), (.long (y1 - yt))])
  refine Dn.st (fun t q => XS.lcmp X1.here hx rfl (hb hby d15_10) rfl q) ?_
  show Dn p e below s _ _ _ T1 (mkF m 11 #[.val (.ref a1), .val (.ref a2), .val (.long y1), .second] [(.int (lcmpW (y1 - yt) yw))])
  by_cases hc : (y1 - yt) < yw
  · refine Dn.st (fun t q => XS.ifYes X1.here hx rfl (pc0 := 11) (pc' := 18) rfl (hb hby d15_11) rfl ((if0 _ _).trans (tlt ((lw_lt _ _).mpr hc)).1) (by decide) (by decide) q) ?_
    show Dn p e below s _ _ _ T1 (mkF m 18 #[.val (.ref a1), .val (.ref a2), .val (.long y1), .second] [])
    refine Dn.st (fun t q => XS.iconst X1.here hx rfl (hb hby d15_18) q) ?_
    show Dn p e below s _ _ _ T1 (mkF m 19 #[.val (.ref a1), .val (.ref a2), .val (.long y1), .second] [(.int (0 : Int32))])
    exact Dn.retZ X1 hx Bd.notSynchronized (t := .boolean) Bd.returns (by simp) (hb hby d15_19) (by rw [e1]; exact ⟨congrArg (fun z => some (Value.int z)) (if_pos hc).symm, N0, rfl⟩) (by decide) (by decide)
  · refine Dn.st (fun t q => XS.ifNo X1.here hx rfl (hb hby d15_11) rfl ((if0 _ _).trans (flt (mt (lw_lt _ _).mp hc)).1) q) ?_
    show Dn p e below s _ _ _ T1 (mkF m 14 #[.val (.ref a1), .val (.ref a2), .val (.long y1), .second] [])
    refine Dn.st (fun t q => XS.iconst X1.here hx rfl (hb hby d15_14) q) ?_
    show Dn p e below s _ _ _ T1 (mkF m 15 #[.val (.ref a1), .val (.ref a2), .val (.long y1), .second] [(.int (1 : Int32))])
    refine Dn.st (fun t q => XS.goto X1.here hx rfl (pc0 := 15) (pc' := 19) rfl (hb hby d15_15) (by decide) (by decide) q) ?_
    show Dn p e below s _ _ _ T1 (mkF m 19 #[.val (.ref a1), .val (.ref a2), .val (.long y1), .second] [(.int (1 : Int32))])
    exact Dn.retZ X1 hx Bd.notSynchronized (t := .boolean) Bd.returns (by simp) (hb hby d15_19) (by rw [e1]; exact ⟨congrArg (fun z => some (Value.int z)) (if_neg hc).symm, N0, rfl⟩) (by decide) (by decide)
theorem d11_0 : decode prog_18_method_1_code 0 = .ok (.aload_n 0, 1) := by decide +kernel
theorem d11_1 : decode prog_18_method_1_code 1 = .ok (.invokespecial 1, 3) := by decide +kernel
theorem d11_4 : decode prog_18_method_1_code 4 = .ok (.aload_n 0, 1) := by decide +kernel
theorem d11_5 : decode prog_18_method_1_code 5 = .ok (.lload_n 1, 1) := by decide +kernel
theorem d11_6 : decode prog_18_method_1_code 6 = .ok (.putfield 7, 3) := by decide +kernel
theorem d11_9 : decode prog_18_method_1_code 9 = .ok (.aload_n 0, 1) := by decide +kernel
theorem d11_10 : decode prog_18_method_1_code 10 = .ok (.lload_n 3, 1) := by decide +kernel
theorem d11_11 : decode prog_18_method_1_code 11 = .ok (.putfield 13, 3) := by decide +kernel
theorem d11_14 : decode prog_18_method_1_code 14 = .ok (.return_, 1) := by decide +kernel
theorem pn_2 : plainName "com/example/scripted_rate_limiter/scriptedratelimiter/PermitLog$Entry" = true := by first | (simp [plainName, overriddenIn]; done) | decide +kernel
theorem ef_rm11 (m : MethodId) (x0 : Addr) (x1 : Int64) (x2 : Int64) : entryFrame m #[(.ref x0), (.long x1), (.long x2)] 5 = mkF m 0 #[.val (.ref x0), .val (.long x1), .second, .val (.long x2), .second] [] := by first | (simp [entryFrame, mkF, argsToLocals, Value.category]; done) | rfl
def Q11 (Z : State) (a1 : Addr) (y1 : Int64) (y2 : Int64) (u0 : Value) (u1 : Value) (h0 : Heap) (n0 : Nat) (v : Option Value) (h : Heap) (L : List Loc) : Prop := v = none ∧ Fr n0 L ∧ Keep h0 h [a1] ∧ Fld Z h a1 "com/example/scripted_rate_limiter/scriptedratelimiter/PermitLog$Entry" "tick" "J" (.long y1) ∧ Fld Z h a1 "com/example/scripted_rate_limiter/scriptedratelimiter/PermitLog$Entry" "permits" "J" (.long y2)
set_option maxRecDepth 65536 in
set_option maxHeartbeats 40000000 in
theorem rm11 (l : Launch) (Z : State) (a0 : Array Value) (hw : ∀ d ∈ tables_1, d.before a0 Z = true) (ws : List Jvm.Cond) (a1 : Addr) (y1 : Int64) (y2 : Int64) (u0 : Value) (u1 : Value) (h0 : Heap) (n0 : Nat) (Z0 : n0 ≤ h0.size) (E_a1 : Exa Z h0 a1 "com/example/scripted_rate_limiter/scriptedratelimiter/PermitLog$Entry") (F_tick : Fld Z h0 a1 "com/example/scripted_rate_limiter/scriptedratelimiter/PermitLog$Entry" "tick" "J" u0) (F_permits : Fld Z h0 a1 "com/example/scripted_rate_limiter/scriptedratelimiter/PermitLog$Entry" "permits" "J" u1) (g_a1 : n0 ≤ a1) :
    MetFree l (⟨"com/example/scripted_rate_limiter/scriptedratelimiter/PermitLog$Entry", "<init>", "(JJ)V"⟩ : MethodName) (head1 (Jvm.Cond.code (⟨"com/example/scripted_rate_limiter/scriptedratelimiter/PermitLog$Entry", "<init>", "(JJ)V"⟩ : MethodName) prog_18_method_1_code 5 none :: ws) ({ frames := 1, cells := 0, slots := 0, locals := 12 } : Room)) (fun a U => a = #[(.ref a1), (.long y1), (.long y2)] ∧ Z.Warmed39 U.vm ∧ U.heap = h0) (fun _ _ _ _ _ => True) (fun _ U o U' => ∃ v L, o = .returned v ∧ Q11 Z a1 y1 y2 u0 u1 h0 n0 v U'.heap L ∧ FrameEnd U o U' L ({ frames := 1, cells := 0, slots := 0, locals := 12 } : Room).cells ({ frames := 1, cells := 0, slots := 0, locals := 12 } : Room).slots) := by
  refine MetFree.of_bodySF (plainFor_of_name pn_2) hisR ?_
  intro p e s m args below meth c s₁ Bd hml0 hP hK
  obtain ⟨rfl, hZ, hh⟩ := hP
  have hx := Bd.exec
  have hby := Bd.bytes
  have hml : c.maxLocals = 5 := hml0
  have hown : s.vm.findClass "com/example/scripted_rate_limiter/scriptedratelimiter/PermitLog$Entry" = some m.cls := findClass_of_methodNamed Bd.named
  have hnm := (name_of_methodNamed Bd.named Bd.method).1
  have X0 : Stand p l e ({ frames := 1, cells := 0, slots := 0, locals := 12 } : Room) s m #[(.ref a1), (.long y1), (.long y2)] below meth c s₁ [] 0 0 := Stand.of_body Bd
  have e0 : s₁.heap = h0 := by rw [← hh, Bd.state]; rfl
  have N0 := Fr.nil n0
  have K0 := Keep.refl h0 [a1]
  suffices hD : Dn p e below s (Q11 Z a1 y1 y2 u0 u1 h0 n0) ({ frames := 1, cells := 0, slots := 0, locals := 12 } : Room).cells ({ frames := 1, cells := 0, slots := 0, locals := 12 } : Room).slots s₁ (mkF m 0 #[.val (.ref a1), .val (.long y1), .second, .val (.long y2), .second] []) from by
    obtain ⟨s₂, o, q1, q2⟩ := hD
    exact ⟨s₂, o, castTop (ef_rm11 m a1 y1 y2) q1, q2⟩
  refine Dn.st (fun t q => XS.aloadN X0.here hx rfl (hb hby d11_0) rfl rfl  q) ?_
  show Dn p e below s _ _ _ s₁ (mkF m 1 #[.val (.ref a1), .val (.long y1), .second, .val (.long y2), .second] [(.ref a1)])
  obtain ⟨T1, X1, e1, st1⟩ := initO X0 hx hZ hown (hw _ (List.mem_of_getElem? (i := 75) rfl)) (hw _ (List.mem_of_getElem? (i := 12) rfl)) (hw _ (List.mem_of_getElem? (i := 13) rfl)) e0 (g := (mkF m 1 #[.val (.ref a1), .val (.long y1), .second, .val (.long y2), .second] [(.ref a1)])) rfl (by rw [hml]; rfl) rfl (hb hby d11_1) (by decide) (W := 0) (by show 2 * 0 + _ ≤ _; exact Nat.le_of_eq rfl) (by decide)
  refine Dn.st st1 ?_
  show Dn p e below s _ _ _ T1 (mkF m 4 #[.val (.ref a1), .val (.long y1), .second, .val (.long y2), .second] [])
  refine Dn.st (fun t q => XS.aloadN X1.here hx rfl (hb hby d11_4) rfl rfl  q) ?_
  show Dn p e below s _ _ _ T1 (mkF m 5 #[.val (.ref a1), .val (.long y1), .second, .val (.long y2), .second] [(.ref a1)])
  refine Dn.st (fun t q => XS.lloadN X1.here hx rfl (hb hby d11_5) rfl  q) ?_
  show Dn p e below s _ _ _ T1 (mkF m 6 #[.val (.ref a1), .val (.long y1), .second, .val (.long y2), .second] [(.long y1), (.ref a1)])
  obtain ⟨T2, h2, X2, e2, W2, st2⟩ := putF X1 hx hZ hown (host := "") (Or.inl (hw _ (List.mem_of_getElem? (i := 76) rfl))) Via.refl e1 F_tick E_a1 (Or.inr ⟨(hw _ (List.mem_of_getElem? (i := 77) rfl)), rfl, hnm⟩) (hw _ (List.mem_of_getElem? (i := 70) rfl)) (ty := .long) (by decide) rfl rfl (g := (mkF m 6 #[.val (.ref a1), .val (.long y1), .second, .val (.long y2), .second] [(.long y1), (.ref a1)])) rfl rfl (hb hby d11_6)
  have N0 := Fr.snoc X2 N0 g_a1
  have Z0 := Nat.le_trans Z0 (Keep.of_wr W2).1
  have K0 := K0.wr W2 (Or.inl (List.mem_of_getElem? (i := 0) rfl))
  have E_a1 := E_a1.wr W2
  have F_tick := F_tick.same W2
  have F_permits := F_permits.other W2 (Or.inr (slot_ne (Or.inl (hw _ (List.mem_of_getElem? (i := 79) rfl))) (Or.inr (hw _ (List.mem_of_getElem? (i := 77) rfl))) (by decide) (t := .long) (t' := .long) (by decide) (by decide)))
  refine Dn.st st2 ?_
  show Dn p e below s _ _ _ T2 (mkF m 9 #[.val (.ref a1), .val (.long y1), .second, .val (.long y2), .second] [])
  refine Dn.st (fun t q => XS.aloadN X2.here hx rfl (hb hby d11_9) rfl rfl  q) ?_
  show Dn p e below s _ _ _ T2 (mkF m 10 #[.val (.ref a1), .val (.long y1), .second, .val (.long y2), .second] [(.ref a1)])
  refine Dn.st (fun t q => XS.lloadN X2.here hx rfl (hb hby d11_10) rfl  q) ?_
  show Dn p e below s _ _ _ T2 (mkF m 11 #[.val (.ref a1), .val (.long y1), .second, .val (.long y2), .second] [(.long y2), (.ref a1)])
  obtain ⟨T3, h3, X3, e3, W3, st3⟩ := putF X2 hx hZ hown (host := "") (Or.inl (hw _ (List.mem_of_getElem? (i := 78) rfl))) Via.refl e2 F_permits E_a1 (Or.inl (hw _ (List.mem_of_getElem? (i := 79) rfl))) (hw _ (List.mem_of_getElem? (i := 70) rfl)) (ty := .long) (by decide) rfl rfl (g := (mkF m 11 #[.val (.ref a1), .val (.long y1), .second, .val (.long y2), .second] [(.long y2), (.ref a1)])) rfl rfl (hb hby d11_11)
  have N0 := Fr.snoc X3 N0 g_a1
  have Z0 := Nat.le_trans Z0 (Keep.of_wr W3).1
  have K0 := K0.wr W3 (Or.inl (List.mem_of_getElem? (i := 0) rfl))
  have E_a1 := E_a1.wr W3
  have F_tick := F_tick.other W3 (Or.inr (slot_ne (Or.inr (hw _ (List.mem_of_getElem? (i := 77) rfl))) (Or.inl (hw _ (List.mem_of_getElem? (i := 79) rfl))) (by decide) (t := .long) (t' := .long) (by decide) (by decide)))
  have F_permits := F_permits.same W3
  refine Dn.st st3 ?_
  show Dn p e below s _ _ _ T3 (mkF m 14 #[.val (.ref a1), .val (.long y1), .second, .val (.long y2), .second] [])
  exact Dn.retV X3 hx Bd.notSynchronized Bd.returns (hb hby d11_14) (by rw [e3]; exact ⟨rfl, N0, K0, F_tick, F_permits⟩) (by decide) (by decide)
theorem d4_0 : decode jdk_22_method_1_code 0 = .ok (.aload_n 0, 1) := by decide +kernel
theorem d4_1 : decode jdk_22_method_1_code 1 = .ok (.invokespecial 1, 3) := by decide +kernel
theorem d4_4 : decode jdk_22_method_1_code 4 = .ok (.return_, 1) := by decide +kernel
theorem pn_3 : plainName "java/util/AbstractCollection" = true := by first | (simp [plainName, overriddenIn]; done) | decide +kernel
theorem ef_rm4 (m : MethodId) (x0 : Addr) : entryFrame m #[(.ref x0)] 1 = mkF m 0 #[.val (.ref x0)] [] := by first | (simp [entryFrame, mkF, argsToLocals, Value.category]; done) | rfl
def Q4 (Z : State) (a1 : Addr) (h0 : Heap) (n0 : Nat) (v : Option Value) (h : Heap) (L : List Loc) : Prop := v = none ∧ Fr n0 L ∧ h = h0
set_option maxRecDepth 65536 in
set_option maxHeartbeats 40000000 in
theorem rm4 (l : Launch) (Z : State) (a0 : Array Value) (hw : ∀ d ∈ tables_1, d.before a0 Z = true) (ws : List Jvm.Cond) (a1 : Addr) (h0 : Heap) (n0 : Nat) (Z0 : n0 ≤ h0.size) :
    MetFree l (⟨"java/util/AbstractCollection", "<init>", "()V"⟩ : MethodName) (head1 (Jvm.Cond.code (⟨"java/util/AbstractCollection", "<init>", "()V"⟩ : MethodName) jdk_22_method_1_code 1 none :: ws) ({ frames := 1, cells := 0, slots := 0, locals := 12 } : Room)) (fun a U => a = #[(.ref a1)] ∧ Z.Warmed39 U.vm ∧ U.heap = h0) (fun _ _ _ _ _ => True) (fun _ U o U' => ∃ v L, o = .returned v ∧ Q4 Z a1 h0 n0 v U'.heap L ∧ FrameEnd U o U' L ({ frames := 1, cells := 0, slots := 0, locals := 12 } : Room).cells ({ frames := 1, cells := 0, slots := 0, locals := 12 } : Room).slots) := by
  refine MetFree.of_bodySF (plainFor_of_name pn_3) hisR ?_
  intro p e s m args below meth c s₁ Bd hml0 hP hK
  obtain ⟨rfl, hZ, hh⟩ := hP
  have hx := Bd.exec
  have hby := Bd.bytes
  have hml : c.maxLocals = 1 := hml0
  have hown : s.vm.findClass "java/util/AbstractCollection" = some m.cls := findClass_of_methodNamed Bd.named
  have hnm := (name_of_methodNamed Bd.named Bd.method).1
  have X0 : Stand p l e ({ frames := 1, cells := 0, slots := 0, locals := 12 } : Room) s m #[(.ref a1)] below meth c s₁ [] 0 0 := Stand.of_body Bd
  have e0 : s₁.heap = h0 := by rw [← hh, Bd.state]; rfl
  have N0 := Fr.nil n0
  have K0 := Keep.refl h0 []
  suffices hD : Dn p e below s (Q4 Z a1 h0 n0) ({ frames := 1, cells := 0, slots := 0, locals := 12 } : Room).cells ({ frames := 1, cells := 0, slots := 0, locals := 12 } : Room).slots s₁ (mkF m 0 #[.val (.ref a1)] []) from by
    obtain ⟨s₂, o, q1, q2⟩ := hD
    exact ⟨s₂, o, castTop (ef_rm4 m a1) q1, q2⟩
  refine Dn.st (fun t q => XS.aloadN X0.here hx rfl (hb hby d4_0) rfl rfl  q) ?_
  show Dn p e below s _ _ _ s₁ (mkF m 1 #[.val (.ref a1)] [(.ref a1)])
  obtain ⟨T1, X1, e1, st1⟩ := initO X0 hx hZ hown (hw _ (List.mem_of_getElem? (i := 26) rfl)) (hw _ (List.mem_of_getElem? (i := 12) rfl)) (hw _ (List.mem_of_getElem? (i := 13) rfl)) e0 (g := (mkF m 1 #[.val (.ref a1)] [(.ref a1)])) rfl (by rw [hml]; rfl) rfl (hb hby d4_1) (by decide) (W := 0) (by show 2 * 0 + _ ≤ _; exact Nat.le_of_eq rfl) (by decide)
  refine Dn.st st1 ?_
  show Dn p e below s _ _ _ T1 (mkF m 4 #[.val (.ref a1)] [])
  exact Dn.retV X1 hx Bd.notSynchronized Bd.returns (hb hby d4_4) (by rw [e1]; exact ⟨rfl, N0, rfl⟩) (by decide) (by decide)
theorem d3_0 : decode jdk_21_method_3_code 0 = .ok (.aload_n 0, 1) := by decide +kernel
theorem d3_1 : decode jdk_21_method_3_code 1 = .ok (.invokespecial 42, 3) := by decide +kernel
theorem pd_4 : parseMethodDescriptor "()V" = some ⟨[], none⟩ := by decide +kernel
theorem d3_4 : decode jdk_21_method_3_code 4 = .ok (.aload_n 0, 1) := by decide +kernel
theorem d3_5 : decode jdk_21_method_3_code 5 = .ok (.bipush 17, 2) := by decide +kernel
theorem d3_7 : decode jdk_21_method_3_code 7 = .ok (.anewarray 47, 3) := by decide +kernel
theorem d3_10 : decode jdk_21_method_3_code 10 = .ok (.putfield 3, 3) := by decide +kernel
theorem d3_13 : decode jdk_21_method_3_code 13 = .ok (.return_, 1) := by decide +kernel
theorem ef_rm3 (m : MethodId) (x0 : Addr) : entryFrame m #[(.ref x0)] 1 = mkF m 0 #[.val (.ref x0)] [] := by first | (simp [entryFrame, mkF, argsToLocals, Value.category]; done) | rfl
def Q3 (Z : State) (a1 : Addr) (u0 : Value) (h0 : Heap) (n0 : Nat) (v : Option Value) (h : Heap) (L : List Loc) : Prop := ∃ b : Addr, v = none ∧ Fr n0 L ∧ Keep h0 h [a1] ∧ h0.size ≤ b ∧ Fld Z h a1 "java/util/ArrayDeque" "elements" "[Ljava/lang/Object;" (.ref b) ∧ Fld Z h a1 "java/util/ArrayDeque" "head" "I" (.int (0 : Int32)) ∧ Fld Z h a1 "java/util/ArrayDeque" "tail" "I" (.int (0 : Int32)) ∧ AryO Z h b 17 (fun _ => .null)
set_option maxRecDepth 65536 in
set_option maxHeartbeats 40000000 in
theorem rm3 (l : Launch) (Z : State) (a0 : Array Value) (hw : ∀ d ∈ tables_1, d.before a0 Z = true) (ws : List Jvm.Cond) (a1 : Addr) (u0 : Value) (h0 : Heap) (n0 : Nat) (Z0 : n0 ≤ h0.size) (E_a1 : Exa Z h0 a1 "java/util/ArrayDeque") (F_elements : Fld Z h0 a1 "java/util/ArrayDeque" "elements" "[Ljava/lang/Object;" u0) (F_head : Fld Z h0 a1 "java/util/ArrayDeque" "head" "I" (.int (0 : Int32))) (F_tail : Fld Z h0 a1 "java/util/ArrayDeque" "tail" "I" (.int (0 : Int32))) (g_a1 : n0 ≤ a1) :
    MetFree l (⟨"java/util/ArrayDeque", "<init>", "()V"⟩ : MethodName) (head1 (Jvm.Cond.code (⟨"java/util/ArrayDeque", "<init>", "()V"⟩ : MethodName) jdk_21_method_3_code 1 none :: ws) ({ frames := 2, cells := 1, slots := 17, locals := 24 } : Room)) (fun a U => a = #[(.ref a1)] ∧ Z.Warmed39 U.vm ∧ U.heap = h0) (fun _ _ _ _ _ => True) (fun _ U o U' => ∃ v L, o = .returned v ∧ Q3 Z a1 u0 h0 n0 v U'.heap L ∧ FrameEnd U o U' L ({ frames := 2, cells := 1, slots := 17, locals := 24 } : Room).cells ({ frames := 2, cells := 1, slots := 17, locals := 24 } : Room).slots) := by
  refine MetFree.of_bodySF (plainFor_of_name pn_0) hisR ?_
  intro p e s m args below meth c s₁ Bd hml0 hP hK
  obtain ⟨rfl, hZ, hh⟩ := hP
  have hx := Bd.exec
  have hby := Bd.bytes
  have hml : c.maxLocals = 1 := hml0
  have hown : s.vm.findClass "java/util/ArrayDeque" = some m.cls := findClass_of_methodNamed Bd.named
  have hnm := (name_of_methodNamed Bd.named Bd.method).1
  have X0 : Stand p l e ({ frames := 2, cells := 1, slots := 17, locals := 24 } : Room) s m #[(.ref a1)] below meth c s₁ [] 0 0 := Stand.of_body Bd
  have e0 : s₁.heap = h0 := by rw [← hh, Bd.state]; rfl
  have N0 := Fr.nil n0
  have K0 := Keep.refl h0 [a1]
  suffices hD : Dn p e below s (Q3 Z a1 u0 h0 n0) ({ frames := 2, cells := 1, slots := 17, locals := 24 } : Room).cells ({ frames := 2, cells := 1, slots := 17, locals := 24 } : Room).slots s₁ (mkF m 0 #[.val (.ref a1)] []) from by
    obtain ⟨s₂, o, q1, q2⟩ := hD
    exact ⟨s₂, o, castTop (ef_rm3 m a1) q1, q2⟩
  refine Dn.st (fun t q => XS.aloadN X0.here hx rfl (hb hby d3_0) rfl rfl  q) ?_
  show Dn p e below s _ _ _ s₁ (mkF m 1 #[.val (.ref a1)] [(.ref a1)])
  obtain ⟨_, _, ⟨T1, Lq1, kq_1, nq_1⟩, -, X1, ⟨Lc1, hQ1, lq1, yq1, zq1⟩, st1⟩ := X0.specialBack hx (y := (⟨"java/util/AbstractCollection", "<init>", "()V"⟩ : MethodName)) rfl hown (mvT hZ (hw _ (List.mem_of_getElem? (i := 20) rfl))) (mvT hZ (hw _ (List.mem_of_getElem? (i := 21) rfl))) (mvT hZ (hw _ (List.mem_of_getElem? (i := 25) rfl))) (by decide) (backOf (W := 0) (rm4 l Z a0 hw [] a1  h0 n0 Z0 ) hZ (hw _ (List.mem_of_getElem? (i := 25) rfl)) (hw _ (List.mem_of_getElem? (i := 24) rfl)) (by decide) (by decide)) (g := (mkF m 1 #[.val (.ref a1)] [(.ref a1)])) rfl (by rw [hml]; rfl) (Steps.refl _) (a := a1) (argsL := []) (rest := []) (lenOf pd_4 rfl) rfl (by show 2 * 0 + _ ≤ _; exact Nat.le_of_eq rfl) (hb hby d3_1) (fun _ _ => ⟨rfl, e0, (by decide : 0 + 0 ≤ _), (by decide : 0 + 0 ≤ _)⟩)
  dsimp only [Pt.U, Pt.locs, Pt.cells, Pt.slots] at X1 lq1 yq1 zq1 st1 hQ1
  subst lq1 yq1 zq1
  obtain ⟨rfl, N1q, hq1⟩ := hQ1
  have N0 := Fr.app N0 N1q
  have e1 : T1.heap = h0 := hq1
  refine Dn.tr st1 ?_
  show Dn p e below s _ _ _ T1 (mkF m 4 #[.val (.ref a1)] [])
  refine Dn.st (fun t q => XS.aloadN X1.here hx rfl (hb hby d3_4) rfl rfl  q) ?_
  show Dn p e below s _ _ _ T1 (mkF m 5 #[.val (.ref a1)] [(.ref a1)])
  refine Dn.st (fun t q => XS.bipush X1.here hx rfl (hb hby d3_5) q) ?_
  show Dn p e below s _ _ _ T1 (mkF m 7 #[.val (.ref a1)] [(.int (17 : Int32)), (.ref a1)])
  obtain ⟨T2, h2, k2, X2, e2, E2, A2, O2, st2⟩ := newR X1 hx hZ hown (hw _ (List.mem_of_getElem? (i := 27) rfl)) (hw _ (List.mem_of_getElem? (i := 28) rfl)) e1 (g := (mkF m 7 #[.val (.ref a1)] [(.int (17 : Int32)), (.ref a1)])) rfl (hb hby d3_7) rfl (by decide) (cap := 17) (by decide) (by decide) (by decide) (by decide)
  obtain ⟨b1, g2⟩ : ∃ z, z = h0.size := ⟨_, rfl⟩
  rw [← g2] at A2 st2
  have ne_a1_b1 : a1 ≠ b1 := own_ne E_a1.lt g2
  have g_b1 : n0 ≤ b1 := Nat.le_trans Z0 (Nat.le_of_eq g2.symm)
  have sz_b1 : h0.size ≤ b1 := Nat.le_trans K0.1 (Nat.le_of_eq g2.symm)
  have Z0 := Nat.le_trans Z0 E2.1
  have K0 := K0.ext E2
  have E_a1 := E_a1.ext E2
  have F_elements := F_elements.ext E2
  have F_head := F_head.ext E2
  have F_tail := F_tail.ext E2
  have A_b1 : AryO Z h2 b1 17 (fun _ => .null) := AryO.new A2 O2 (by decide)
  refine Dn.st st2 ?_
  show Dn p e below s _ _ _ T2 (mkF m 10 #[.val (.ref a1)] [(.ref b1), (.ref a1)])
  obtain ⟨T3, h3, X3, e3, W3, st3⟩ := putF X2 hx hZ hown (host := "") (Or.inl (hw _ (List.mem_of_getElem? (i := 29) rfl))) Via.refl e2 F_elements E_a1 (Or.inl (hw _ (List.mem_of_getElem? (i := 30) rfl))) (hw _ (List.mem_of_getElem? (i := 15) rfl)) (ty := (.array (.object "java/lang/Object"))) (by decide) rfl rfl (g := (mkF m 10 #[.val (.ref a1)] [(.ref b1), (.ref a1)])) rfl rfl (hb hby d3_10)
  have N0 := Fr.snoc X3 N0 g_a1
  have Z0 := Nat.le_trans Z0 (Keep.of_wr W3).1
  have K0 := K0.wr W3 (Or.inl (List.mem_of_getElem? (i := 0) rfl))
  have E_a1 := E_a1.wr W3
  have F_elements := F_elements.same W3
  have F_head := F_head.other W3 (Or.inr (slot_ne (Or.inl (hw _ (List.mem_of_getElem? (i := 55) rfl))) (Or.inl (hw _ (List.mem_of_getElem? (i := 30) rfl))) (by decide) (t := .int) (t' := (.array (.object "java/lang/Object"))) (by decide) (by decide)))
  have F_tail := F_tail.other W3 (Or.inr (slot_ne (Or.inl (hw _ (List.mem_of_getElem? (i := 57) rfl))) (Or.inl (hw _ (List.mem_of_getElem? (i := 30) rfl))) (by decide) (t := .int) (t' := (.array (.object "java/lang/Object"))) (by decide) (by decide)))
  have A_b1 := A_b1.other W3 (Ne.symm ne_a1_b1)
  refine Dn.st st3 ?_
  show Dn p e below s _ _ _ T3 (mkF m 13 #[.val (.ref a1)] [])
  exact Dn.retV X3 hx Bd.notSynchronized Bd.returns (hb hby d3_13) (by rw [e3]; exact ⟨b1, rfl, N0, K0, sz_b1, F_elements, F_head, F_tail, A_b1⟩) (by decide) (by decide)
theorem d1_0 : decode prog_17_method_1_code 0 = .ok (.aload_n 0, 1) := by decide +kernel
theorem d1_1 : decode prog_17_method_1_code 1 = .ok (.invokespecial 1, 3) := by decide +kernel
theorem d1_4 : decode prog_17_method_1_code 4 = .ok (.aload_n 0, 1) := by decide +kernel
theorem d1_5 : decode prog_17_method_1_code 5 = .ok (.new 7, 3) := by decide +kernel
theorem d1_8 : decode prog_17_method_1_code 8 = .ok (.dup, 1) := by decide +kernel
theorem d1_9 : decode prog_17_method_1_code 9 = .ok (.invokespecial 9, 3) := by decide +kernel
theorem d1_12 : decode prog_17_method_1_code 12 = .ok (.putfield 10, 3) := by decide +kernel
theorem d1_15 : decode prog_17_method_1_code 15 = .ok (.aload_n 0, 1) := by decide +kernel
theorem d1_16 : decode prog_17_method_1_code 16 = .ok (.lload_n 1, 1) := by decide +kernel
theorem d1_17 : decode prog_17_method_1_code 17 = .ok (.putfield 16, 3) := by decide +kernel
theorem d1_20 : decode prog_17_method_1_code 20 = .ok (.aload_n 0, 1) := by decide +kernel
theorem d1_21 : decode prog_17_method_1_code 21 = .ok (.lload_n 3, 1) := by decide +kernel
theorem d1_22 : decode prog_17_method_1_code 22 = .ok (.putfield 20, 3) := by decide +kernel
theorem d1_25 : decode prog_17_method_1_code 25 = .ok (.aload_n 0, 1) := by decide +kernel
theorem d1_26 : decode prog_17_method_1_code 26 = .ok (.lload 5, 2) := by decide +kernel
theorem d1_28 : decode prog_17_method_1_code 28 = .ok (.putfield 23, 3) := by decide +kernel
theorem d1_31 : decode prog_17_method_1_code 31 = .ok (.return_, 1) := by decide +kernel
theorem ef_rm1 (m : MethodId) (x0 : Addr) (x1 : Int64) (x2 : Int64) (x3 : Int64) : entryFrame m #[(.ref x0), (.long x1), (.long x2), (.long x3)] 7 = mkF m 0 #[.val (.ref x0), .val (.long x1), .second, .val (.long x2), .second, .val (.long x3), .second] [] := by first | (simp [entryFrame, mkF, argsToLocals, Value.category]; done) | rfl
def Q1 (Z : State) (a1 : Addr) (y1 : Int64) (y2 : Int64) (y3 : Int64) (u0 : Value) (u1 : Value) (u2 : Value) (u3 : Value) (u4 : Value) (h0 : Heap) (n0 : Nat) (v : Option Value) (h : Heap) (L : List Loc) : Prop := ∃ b b2 : Addr, v = none ∧ Fr n0 L ∧ Keep h0 h [a1] ∧ h0.size ≤ b ∧ h0.size ≤ b2 ∧ b ≠ b2 ∧ Fld Z h a1 "com/example/scripted_rate_limiter/scriptedratelimiter/PermitLog" "entries" "Ljava/util/ArrayDeque;" (.ref b) ∧ Fld Z h a1 "com/example/scripted_rate_limiter/scriptedratelimiter/PermitLog" "windowTicks" "J" (.long y3) ∧ Fld Z h a1 "com/example/scripted_rate_limiter/scriptedratelimiter/PermitLog" "permits" "J" u4 ∧ Exa Z h b "java/util/ArrayDeque" ∧ Fld Z h b "java/util/ArrayDeque" "elements" "[Ljava/lang/Object;" (.ref b2) ∧ Fld Z h b "java/util/ArrayDeque" "head" "I" (.int (0 : Int32)) ∧ Fld Z h b "java/util/ArrayDeque" "tail" "I" (.int (0 : Int32)) ∧ AryO Z h b2 17 (fun _ => .null)
set_option maxRecDepth 65536 in
set_option maxHeartbeats 40000000 in
theorem rm1 (l : Launch) (Z : State) (a0 : Array Value) (hw : ∀ d ∈ tables_1, d.before a0 Z = true) (ws : List Jvm.Cond) (a1 : Addr) (y1 : Int64) (y2 : Int64) (y3 : Int64) (u0 : Value) (u1 : Value) (u2 : Value) (u3 : Value) (u4 : Value) (h0 : Heap) (n0 : Nat) (Z0 : n0 ≤ h0.size) (E_a1 : Exa Z h0 a1 "com/example/scripted_rate_limiter/scriptedratelimiter/PermitLog") (F_entries : Fld Z h0 a1 "com/example/scripted_rate_limiter/scriptedratelimiter/PermitLog" "entries" "Ljava/util/ArrayDeque;" u0) (F_limit : Fld Z h0 a1 "com/example/scripted_rate_limiter/scriptedratelimiter/PermitLog" "limit" "J" u1) (F_tickMillis : Fld Z h0 a1 "com/example/scripted_rate_limiter/scriptedratelimiter/PermitLog" "tickMillis" "J" u2) (F_windowTicks : Fld Z h0 a1 "com/example/scripted_rate_limiter/scriptedratelimiter/PermitLog" "windowTicks" "J" u3) (F_permits : Fld Z h0 a1 "com/example/scripted_rate_limiter/scriptedratelimiter/PermitLog" "permits" "J" u4) (g_a1 : n0 ≤ a1) :
    MetFree l (⟨"com/example/scripted_rate_limiter/scriptedratelimiter/PermitLog", "<init>", "(JJJ)V"⟩ : MethodName) (head1 (Jvm.Cond.code (⟨"com/example/scripted_rate_limiter/scriptedratelimiter/PermitLog", "<init>", "(JJJ)V"⟩ : MethodName) prog_17_method_1_code 7 none :: ws) ({ frames := 3, cells := 2, slots := 20, locals := 38 } : Room)) (fun a U => a = #[(.ref a1), (.long y1), (.long y2), (.long y3)] ∧ Z.Warmed39 U.vm ∧ U.heap = h0) (fun _ _ _ _ _ => True) (fun _ U o U' => ∃ v L, o = .returned v ∧ Q1 Z a1 y1 y2 y3 u0 u1 u2 u3 u4 h0 n0 v U'.heap L ∧ FrameEnd U o U' L ({ frames := 3, cells := 2, slots := 20, locals := 38 } : Room).cells ({ frames := 3, cells := 2, slots := 20, locals := 38 } : Room).slots) := by
  refine MetFree.of_bodySF (plainFor_of_name pn_1) hisR ?_
  intro p e s m args below meth c s₁ Bd hml0 hP hK
  obtain ⟨rfl, hZ, hh⟩ := hP
  have hx := Bd.exec
  have hby := Bd.bytes
  have hml : c.maxLocals = 7 := hml0
  have hown : s.vm.findClass "com/example/scripted_rate_limiter/scriptedratelimiter/PermitLog" = some m.cls := findClass_of_methodNamed Bd.named
  have hnm := (name_of_methodNamed Bd.named Bd.method).1
  have X0 : Stand p l e ({ frames := 3, cells := 2, slots := 20, locals := 38 } : Room) s m #[(.ref a1), (.long y1), (.long y2), (.long y3)] below meth c s₁ [] 0 0 := Stand.of_body Bd
  have e0 : s₁.heap = h0 := by rw [← hh, Bd.state]; rfl
  have N0 := Fr.nil n0
  have K0 := Keep.refl h0 [a1]
  suffices hD : Dn p e below s (Q1 Z a1 y1 y2 y3 u0 u1 u2 u3 u4 h0 n0) ({ frames := 3, cells := 2, slots := 20, locals := 38 } : Room).cells ({ frames := 3, cells := 2, slots := 20, locals := 38 } : Room).slots s₁ (mkF m 0 #[.val (.ref a1), .val (.long y1), .second, .val (.long y2), .second, .val (.long y3), .second] []) from by
    obtain ⟨s₂, o, q1, q2⟩ := hD
    exact ⟨s₂, o, castTop (ef_rm1 m a1 y1 y2 y3) q1, q2⟩
  refine Dn.st (fun t q => XS.aloadN X0.here hx rfl (hb hby d1_0) rfl rfl  q) ?_
  show Dn p e below s _ _ _ s₁ (mkF m 1 #[.val (.ref a1), .val (.long y1), .second, .val (.long y2), .second, .val (.long y3), .second] [(.ref a1)])
  obtain ⟨T1, X1, e1, st1⟩ := initO X0 hx hZ hown (hw _ (List.mem_of_getElem? (i := 11) rfl)) (hw _ (List.mem_of_getElem? (i := 12) rfl)) (hw _ (List.mem_of_getElem? (i := 13) rfl)) e0 (g := (mkF m 1 #[.val (.ref a1), .val (.long y1), .second, .val (.long y2), .second, .val (.long y3), .second] [(.ref a1)])) rfl (by rw [hml]; rfl) rfl (hb hby d1_1) (by decide) (W := 0) (by show 2 * 0 + _ ≤ _; exact Nat.le_of_eq rfl) (by decide)
  refine Dn.st st1 ?_
  show Dn p e below s _ _ _ T1 (mkF m 4 #[.val (.ref a1), .val (.long y1), .second, .val (.long y2), .second, .val (.long y3), .second] [])
  refine Dn.st (fun t q => XS.aloadN X1.here hx rfl (hb hby d1_4) rfl rfl  q) ?_
  show Dn p e below s _ _ _ T1 (mkF m 5 #[.val (.ref a1), .val (.long y1), .second, .val (.long y2), .second, .val (.long y3), .second] [(.ref a1)])
  obtain ⟨T2, h2, X2, e2, E2, A2, D2, -, st2⟩ := newO X1 hx hZ hown (hw _ (List.mem_of_getElem? (i := 14) rfl)) (hw _ (List.mem_of_getElem? (i := 15) rfl)) (hw _ (List.mem_of_getElem? (i := 16) rfl)) e1 (g := (mkF m 5 #[.val (.ref a1), .val (.long y1), .second, .val (.long y2), .second, .val (.long y3), .second] [(.ref a1)])) rfl (hb hby d1_5) (by decide) (by decide)
  obtain ⟨b1, g2⟩ : ∃ z, z = h0.size := ⟨_, rfl⟩
  rw [← g2] at A2 D2 st2
  have ne_a1_b1 : a1 ≠ b1 := own_ne E_a1.lt g2
  have g_b1 : n0 ≤ b1 := Nat.le_trans Z0 (Nat.le_of_eq g2.symm)
  have sz_b1 : h0.size ≤ b1 := Nat.le_trans K0.1 (Nat.le_of_eq g2.symm)
  have Z0 := Nat.le_trans Z0 E2.1
  have K0 := K0.ext E2
  have E_a1 := E_a1.ext E2
  have F_entries := F_entries.ext E2
  have F_limit := F_limit.ext E2
  have F_tickMillis := F_tickMillis.ext E2
  have F_windowTicks := F_windowTicks.ext E2
  have F_permits := F_permits.ext E2
  have E_b1 := A2
  have F_elements_b1 : Fld Z h2 b1 "java/util/ArrayDeque" "elements" "[Ljava/lang/Object;" .null := D2 (Or.inl (hw _ (List.mem_of_getElem? (i := 30) rfl))) (ty := (.array (.object "java/lang/Object"))) (by decide)
  have F_head_b1 : Fld Z h2 b1 "java/util/ArrayDeque" "head" "I" (.int (0 : Int32)) := D2 (Or.inl (hw _ (List.mem_of_getElem? (i := 55) rfl))) (ty := .int) (by decide)
  have F_tail_b1 : Fld Z h2 b1 "java/util/ArrayDeque" "tail" "I" (.int (0 : Int32)) := D2 (Or.inl (hw _ (List.mem_of_getElem? (i := 57) rfl))) (ty := .int) (by decide)
  refine Dn.st st2 ?_
  show Dn p e below s _ _ _ T2 (mkF m 8 #[.val (.ref a1), .val (.long y1), .second, .val (.long y2), .second, .val (.long y3), .second] [(.ref b1), (.ref a1)])
  refine Dn.st (fun t q => XS.dup X2.here hx rfl (hb hby d1_8) rfl rfl q) ?_
  show Dn p e below s _ _ _ T2 (mkF m 9 #[.val (.ref a1), .val (.long y1), .second, .val (.long y2), .second, .val (.long y3), .second] [(.ref b1), (.ref b1), (.ref a1)])
  have Zq3 := Z0
  have Kq3 := K0
  have lt_a1_3 : a1 < h2.size := E_a1.lt
  have lt_b1_3 : b1 < h2.size := E_b1.lt
  obtain ⟨_, _, ⟨T3, Lq3, kq_3, nq_3⟩, -, X3, ⟨Lc3, hQ3, lq3, yq3, zq3⟩, st3⟩ := X2.specialBack hx (y := (⟨"java/util/ArrayDeque", "<init>", "()V"⟩ : MethodName)) rfl hown (mvT hZ (hw _ (List.mem_of_getElem? (i := 17) rfl))) (mvT hZ (hw _ (List.mem_of_getElem? (i := 18) rfl))) (mvT hZ (hw _ (List.mem_of_getElem? (i := 19) rfl))) (by decide) (backOf (W := 2) (rm3 l Z a0 hw [] b1 .null h2 n0 Z0 E_b1 F_elements_b1 F_head_b1 F_tail_b1 g_b1) hZ (hw _ (List.mem_of_getElem? (i := 19) rfl)) (hw _ (List.mem_of_getElem? (i := 16) rfl)) (by decide) (by decide)) (g := (mkF m 9 #[.val (.ref a1), .val (.long y1), .second, .val (.long y2), .second, .val (.long y3), .second] [(.ref b1), (.ref b1), (.ref a1)])) rfl (by rw [hml]; rfl) (Steps.refl _) (a := b1) (argsL := []) (rest := [(.ref b1), (.ref a1)]) (lenOf pd_4 rfl) rfl (by show 2 * 0 + _ ≤ _; exact Nat.le_of_eq rfl) (hb hby d1_9) (fun _ _ => ⟨rfl, e2, (by decide : 1 + 1 ≤ _), (by decide : 3 + 17 ≤ _)⟩)
  dsimp only [Pt.U, Pt.locs, Pt.cells, Pt.slots] at X3 lq3 yq3 zq3 st3 hQ3
  subst lq3 yq3 zq3
  obtain ⟨b2, rfl, N3q, K3, le3, F_elements_b1, F_head_b1, F_tail_b1, A⟩ := hQ3
  have N0 := Fr.app N0 N3q
  have Z0 := Nat.le_trans Z0 K3.1
  have K0 := K0.trans K3 (allS (Or.inr sz_b1) all0)
  have E_a1 := E_a1.keep K3
  have F_entries := F_entries.keep K3 (ninS ne_a1_b1 nin0)
  have F_limit := F_limit.keep K3 (ninS ne_a1_b1 nin0)
  have F_tickMillis := F_tickMillis.keep K3 (ninS ne_a1_b1 nin0)
  have F_windowTicks := F_windowTicks.keep K3 (ninS ne_a1_b1 nin0)
  have F_permits := F_permits.keep K3 (ninS ne_a1_b1 nin0)
  have E_b1 := E_b1.keep K3
  have ne_a1_b2 : a1 ≠ b2 := own_ne' lt_a1_3 le3
  have ne_b1_b2 : b1 ≠ b2 := own_ne' lt_b1_3 le3
  have g_b2 : n0 ≤ b2 := Nat.le_trans Zq3 le3
  have sz_b2 : h0.size ≤ b2 := Nat.le_trans Kq3.1 le3
  refine Dn.tr st3 ?_
  show Dn p e below s _ _ _ T3 (mkF m 12 #[.val (.ref a1), .val (.long y1), .second, .val (.long y2), .second, .val (.long y3), .second] [(.ref b1), (.ref a1)])
  obtain ⟨T4, h4, X4, e4, W4, st4⟩ := putF X3 hx hZ hown (host := "") (Or.inl (hw _ (List.mem_of_getElem? (i := 31) rfl))) Via.refl rfl F_entries E_a1 (Or.inr ⟨(hw _ (List.mem_of_getElem? (i := 32) rfl)), rfl, hnm⟩) (hw _ (List.mem_of_getElem? (i := 5) rfl)) (ty := (.object "java/util/ArrayDeque")) (by decide) rfl rfl (g := (mkF m 12 #[.val (.ref a1), .val (.long y1), .second, .val (.long y2), .second, .val (.long y3), .second] [(.ref b1), (.ref a1)])) rfl rfl (hb hby d1_12)
  have N0 := Fr.snoc X4 N0 g_a1
  have Z0 := Nat.le_trans Z0 (Keep.of_wr W4).1
  have K0 := K0.wr W4 (Or.inl (List.mem_of_getElem? (i := 0) rfl))
  have E_a1 := E_a1.wr W4
  have F_entries := F_entries.same W4
  have F_limit := F_limit.other W4 (Or.inr (slot_ne (Or.inr (hw _ (List.mem_of_getElem? (i := 34) rfl))) (Or.inr (hw _ (List.mem_of_getElem? (i := 32) rfl))) (by decide) (t := .long) (t' := (.object "java/util/ArrayDeque")) (by decide) (by decide)))
  have F_tickMillis := F_tickMillis.other W4 (Or.inr (slot_ne (Or.inr (hw _ (List.mem_of_getElem? (i := 36) rfl))) (Or.inr (hw _ (List.mem_of_getElem? (i := 32) rfl))) (by decide) (t := .long) (t' := (.object "java/util/ArrayDeque")) (by decide) (by decide)))
  have F_windowTicks := F_windowTicks.other W4 (Or.inr (slot_ne (Or.inr (hw _ (List.mem_of_getElem? (i := 38) rfl))) (Or.inr (hw _ (List.mem_of_getElem? (i := 32) rfl))) (by decide) (t := .long) (t' := (.object "java/util/ArrayDeque")) (by decide) (by decide)))
  have F_permits := F_permits.other W4 (Or.inr (slot_ne (Or.inl (hw _ (List.mem_of_getElem? (i := 90) rfl))) (Or.inr (hw _ (List.mem_of_getElem? (i := 32) rfl))) (by decide) (t := .long) (t' := (.object "java/util/ArrayDeque")) (by decide) (by decide)))
  have E_b1 := E_b1.wr W4
  have F_elements_b1 := F_elements_b1.other W4 (Or.inl (Ne.symm ne_a1_b1))
  have F_head_b1 := F_head_b1.other W4 (Or.inl (Ne.symm ne_a1_b1))
  have F_tail_b1 := F_tail_b1.other W4 (Or.inl (Ne.symm ne_a1_b1))
  have A := A.other W4 (Ne.symm ne_a1_b2)
  refine Dn.st st4 ?_
  show Dn p e below s _ _ _ T4 (mkF m 15 #[.val (.ref a1), .val (.long y1), .second, .val (.long y2), .second, .val (.long y3), .second] [])
  refine Dn.st (fun t q => XS.aloadN X4.here hx rfl (hb hby d1_15) rfl rfl  q) ?_
  show Dn p e below s _ _ _ T4 (mkF m 16 #[.val (.ref a1), .val (.long y1), .second, .val (.long y2), .second, .val (.long y3), .second] [(.ref a1)])
  refine Dn.st (fun t q => XS.lloadN X4.here hx rfl (hb hby d1_16) rfl  q) ?_
  show Dn p e below s _ _ _ T4 (mkF m 17 #[.val (.ref a1), .val (.long y1), .second, .val (.long y2), .second, .val (.long y3), .second] [(.long y1), (.ref a1)])
  obtain ⟨T5, h5, X5, e5, W5, st5⟩ := putF X4 hx hZ hown (host := "") (Or.inl (hw _ (List.mem_of_getElem? (i := 33) rfl))) Via.refl e4 F_limit E_a1 (Or.inr ⟨(hw _ (List.mem_of_getElem? (i := 34) rfl)), rfl, hnm⟩) (hw _ (List.mem_of_getElem? (i := 5) rfl)) (ty := .long) (by decide) rfl rfl (g := (mkF m 17 #[.val (.ref a1), .val (.long y1), .second, .val (.long y2), .second, .val (.long y3), .second] [(.long y1), (.ref a1)])) rfl rfl (hb hby d1_17)
  have N0 := Fr.snoc X5 N0 g_a1
  have Z0 := Nat.le_trans Z0 (Keep.of_wr W5).1
  have K0 := K0.wr W5 (Or.inl (List.mem_of_getElem? (i := 0) rfl))
  have E_a1 := E_a1.wr W5
  have F_entries := F_entries.other W5 (Or.inr (slot_ne (Or.inr (hw _ (List.mem_of_getElem? (i := 32) rfl))) (Or.inr (hw _ (List.mem_of_getElem? (i := 34) rfl))) (by decide) (t := (.object "java/util/ArrayDeque")) (t' := .long) (by decide) (by decide)))
  have F_limit := F_limit.same W5
  have F_tickMillis := F_tickMillis.other W5 (Or.inr (slot_ne (Or.inr (hw _ (List.mem_of_getElem? (i := 36) rfl))) (Or.inr (hw _ (List.mem_of_getElem? (i := 34) rfl))) (by decide) (t := .long) (t' := .long) (by decide) (by decide)))
  have F_windowTicks := F_windowTicks.other W5 (Or.inr (slot_ne (Or.inr (hw _ (List.mem_of_getElem? (i := 38) rfl))) (Or.inr (hw _ (List.mem_of_getElem? (i := 34) rfl))) (by decide) (t := .long) (t' := .long) (by decide) (by decide)))
  have F_permits := F_permits.other W5 (Or.inr (slot_ne (Or.inl (hw _ (List.mem_of_getElem? (i := 90) rfl))) (Or.inr (hw _ (List.mem_of_getElem? (i := 34) rfl))) (by decide) (t := .long) (t' := .long) (by decide) (by decide)))
  have E_b1 := E_b1.wr W5
  have F_elements_b1 := F_elements_b1.other W5 (Or.inl (Ne.symm ne_a1_b1))
  have F_head_b1 := F_head_b1.other W5 (Or.inl (Ne.symm ne_a1_b1))
  have F_tail_b1 := F_tail_b1.other W5 (Or.inl (Ne.symm ne_a1_b1))
  have A := A.other W5 (Ne.symm ne_a1_b2)
  refine Dn.st st5 ?_
  show Dn p e below s _ _ _ T5 (mkF m 20 #[.val (.ref a1), .val (.long y1), .second, .val (.long y2), .second, .val (.long y3), .second] [])
  refine Dn.st (fun t q => XS.aloadN X5.here hx rfl (hb hby d1_20) rfl rfl  q) ?_
  show Dn p e below s _ _ _ T5 (mkF m 21 #[.val (.ref a1), .val (.long y1), .second, .val (.long y2), .second, .val (.long y3), .second] [(.ref a1)])
  refine Dn.st (fun t q => XS.lloadN X5.here hx rfl (hb hby d1_21) rfl  q) ?_
  show Dn p e below s _ _ _ T5 (mkF m 22 #[.val (.ref a1), .val (.long y1), .second, .val (.long y2), .second, .val (.long y3), .second] [(.long y2), (.ref a1)])
  obtain ⟨T6, h6, X6, e6, W6, st6⟩ := putF X5 hx hZ hown (host := "") (Or.inl (hw _ (List.mem_of_getElem? (i := 35) rfl))) Via.refl e5 F_tickMillis E_a1 (Or.inr ⟨(hw _ (List.mem_of_getElem? (i := 36) rfl)), rfl, hnm⟩) (hw _ (List.mem_of_getElem? (i := 5) rfl)) (ty := .long) (by decide) rfl rfl (g := (mkF m 22 #[.val (.ref a1), .val (.long y1), .second, .val (.long y2), .second, .val (.long y3), .second] [(.long y2), (.ref a1)])) rfl rfl (hb hby d1_22)
  have N0 := Fr.snoc X6 N0 g_a1
  have Z0 := Nat.le_trans Z0 (Keep.of_wr W6).1
  have K0 := K0.wr W6 (Or.inl (List.mem_of_getElem? (i := 0) rfl))
  have E_a1 := E_a1.wr W6
  have F_entries := F_entries.other W6 (Or.inr (slot_ne (Or.inr (hw _ (List.mem_of_getElem? (i := 32) rfl))) (Or.inr (hw _ (List.mem_of_getElem? (i := 36) rfl))) (by decide) (t := (.object "java/util/ArrayDeque")) (t' := .long) (by decide) (by decide)))
  have F_limit := F_limit.other W6 (Or.inr (slot_ne (Or.inr (hw _ (List.mem_of_getElem? (i := 34) rfl))) (Or.inr (hw _ (List.mem_of_getElem? (i := 36) rfl))) (by decide) (t := .long) (t' := .long) (by decide) (by decide)))
  have F_tickMillis := F_tickMillis.same W6
  have F_windowTicks := F_windowTicks.other W6 (Or.inr (slot_ne (Or.inr (hw _ (List.mem_of_getElem? (i := 38) rfl))) (Or.inr (hw _ (List.mem_of_getElem? (i := 36) rfl))) (by decide) (t := .long) (t' := .long) (by decide) (by decide)))
  have F_permits := F_permits.other W6 (Or.inr (slot_ne (Or.inl (hw _ (List.mem_of_getElem? (i := 90) rfl))) (Or.inr (hw _ (List.mem_of_getElem? (i := 36) rfl))) (by decide) (t := .long) (t' := .long) (by decide) (by decide)))
  have E_b1 := E_b1.wr W6
  have F_elements_b1 := F_elements_b1.other W6 (Or.inl (Ne.symm ne_a1_b1))
  have F_head_b1 := F_head_b1.other W6 (Or.inl (Ne.symm ne_a1_b1))
  have F_tail_b1 := F_tail_b1.other W6 (Or.inl (Ne.symm ne_a1_b1))
  have A := A.other W6 (Ne.symm ne_a1_b2)
  refine Dn.st st6 ?_
  show Dn p e below s _ _ _ T6 (mkF m 25 #[.val (.ref a1), .val (.long y1), .second, .val (.long y2), .second, .val (.long y3), .second] [])
  refine Dn.st (fun t q => XS.aloadN X6.here hx rfl (hb hby d1_25) rfl rfl  q) ?_
  show Dn p e below s _ _ _ T6 (mkF m 26 #[.val (.ref a1), .val (.long y1), .second, .val (.long y2), .second, .val (.long y3), .second] [(.ref a1)])
  refine Dn.st (fun t q => XS.lload X6.here hx rfl (hb hby d1_26) rfl  q) ?_
  show Dn p e below s _ _ _ T6 (mkF m 28 #[.val (.ref a1), .val (.long y1), .second, .val (.long y2), .second, .val (.long y3), .second] [(.long y3), (.ref a1)])
  obtain ⟨T7, h7, X7, e7, W7, st7⟩ := putF X6 hx hZ hown (host := "") (Or.inl (hw _ (List.mem_of_getElem? (i := 37) rfl))) Via.refl e6 F_windowTicks E_a1 (Or.inr ⟨(hw _ (List.mem_of_getElem? (i := 38) rfl)), rfl, hnm⟩) (hw _ (List.mem_of_getElem? (i := 5) rfl)) (ty := .long) (by decide) rfl rfl (g := (mkF m 28 #[.val (.ref a1), .val (.long y1), .second, .val (.long y2), .second, .val (.long y3), .second] [(.long y3), (.ref a1)])) rfl rfl (hb hby d1_28)
  have N0 := Fr.snoc X7 N0 g_a1
  have Z0 := Nat.le_trans Z0 (Keep.of_wr W7).1
  have K0 := K0.wr W7 (Or.inl (List.mem_of_getElem? (i := 0) rfl))
  have E_a1 := E_a1.wr W7
  have F_entries := F_entries.other W7 (Or.inr (slot_ne (Or.inr (hw _ (List.mem_of_getElem? (i := 32) rfl))) (Or.inr (hw _ (List.mem_of_getElem? (i := 38) rfl))) (by decide) (t := (.object "java/util/ArrayDeque")) (t' := .long) (by decide) (by decide)))
  have F_limit := F_limit.other W7 (Or.inr (slot_ne (Or.inr (hw _ (List.mem_of_getElem? (i := 34) rfl))) (Or.inr (hw _ (List.mem_of_getElem? (i := 38) rfl))) (by decide) (t := .long) (t' := .long) (by decide) (by decide)))
  have F_tickMillis := F_tickMillis.other W7 (Or.inr (slot_ne (Or.inr (hw _ (List.mem_of_getElem? (i := 36) rfl))) (Or.inr (hw _ (List.mem_of_getElem? (i := 38) rfl))) (by decide) (t := .long) (t' := .long) (by decide) (by decide)))
  have F_windowTicks := F_windowTicks.same W7
  have F_permits := F_permits.other W7 (Or.inr (slot_ne (Or.inl (hw _ (List.mem_of_getElem? (i := 90) rfl))) (Or.inr (hw _ (List.mem_of_getElem? (i := 38) rfl))) (by decide) (t := .long) (t' := .long) (by decide) (by decide)))
  have E_b1 := E_b1.wr W7
  have F_elements_b1 := F_elements_b1.other W7 (Or.inl (Ne.symm ne_a1_b1))
  have F_head_b1 := F_head_b1.other W7 (Or.inl (Ne.symm ne_a1_b1))
  have F_tail_b1 := F_tail_b1.other W7 (Or.inl (Ne.symm ne_a1_b1))
  have A := A.other W7 (Ne.symm ne_a1_b2)
  refine Dn.st st7 ?_
  show Dn p e below s _ _ _ T7 (mkF m 31 #[.val (.ref a1), .val (.long y1), .second, .val (.long y2), .second, .val (.long y3), .second] [])
  exact Dn.retV X7 hx Bd.notSynchronized Bd.returns (hb hby d1_31) (by rw [e7]; exact ⟨b1, b2, rfl, N0, K0, sz_b1, sz_b2, ne_b1_b2, F_entries, F_windowTicks, F_permits, E_b1, F_elements_b1, F_head_b1, F_tail_b1, A⟩) (by decide) (by decide)
theorem d6_0 : decode prog_17_method_5_code 0 = .ok (.aload_n 0, 1) := by decide +kernel
theorem d6_1 : decode prog_17_method_5_code 1 = .ok (.getfield 10, 3) := by decide +kernel
theorem d6_4 : decode prog_17_method_5_code 4 = .ok (.invokevirtual 85, 3) := by decide +kernel
theorem pd_5 : parseMethodDescriptor "()Z" = some ⟨[], some .boolean⟩ := by decide +kernel
theorem d6_7 : decode prog_17_method_5_code 7 = .ok (.ifCond .ne 46, 3) := by decide +kernel
theorem d6_53 : decode prog_17_method_5_code 53 = .ok (.return_, 1) := by decide +kernel
theorem d6_10 : decode prog_17_method_5_code 10 = .ok (.aload_n 0, 1) := by decide +kernel
theorem d6_11 : decode prog_17_method_5_code 11 = .ok (.aload_n 0, 1) := by decide +kernel
theorem d6_12 : decode prog_17_method_5_code 12 = .ok (.getfield 10, 3) := by decide +kernel
theorem d6_15 : decode prog_17_method_5_code 15 = .ok (.invokevirtual 88, 3) := by decide +kernel
theorem d6_18 : decode prog_17_method_5_code 18 = .ok (.checkcast 56, 3) := by decide +kernel
theorem d6_21 : decode prog_17_method_5_code 21 = .ok (.lload_n 1, 1) := by decide +kernel
theorem d6_22 : decode prog_17_method_5_code 22 = .ok (.invokevirtual 80, 3) := by decide +kernel
theorem pd_6 : parseMethodDescriptor "(Lcom/example/scripted_rate_limiter/scriptedratelimiter/PermitLog$Entry;J)Z" = some ⟨[(.object "com/example/scripted_rate_limiter/scriptedratelimiter/PermitLog$Entry"), .long], some .boolean⟩ := by decide +kernel
theorem d6_25 : decode prog_17_method_5_code 25 = .ok (.ifCond .eq 28, 3) := by decide +kernel
theorem d6_28 : decode prog_17_method_5_code 28 = .ok (.aload_n 0, 1) := by decide +kernel
theorem d6_29 : decode prog_17_method_5_code 29 = .ok (.dup, 1) := by decide +kernel
theorem d6_30 : decode prog_17_method_5_code 30 = .ok (.getfield 64, 3) := by decide +kernel
theorem d6_33 : decode prog_17_method_5_code 33 = .ok (.aload_n 0, 1) := by decide +kernel
theorem d6_34 : decode prog_17_method_5_code 34 = .ok (.getfield 10, 3) := by decide +kernel
theorem d6_37 : decode prog_17_method_5_code 37 = .ok (.invokevirtual 91, 3) := by decide +kernel
theorem d6_40 : decode prog_17_method_5_code 40 = .ok (.checkcast 56, 3) := by decide +kernel
theorem d6_43 : decode prog_17_method_5_code 43 = .ok (.getfield 84, 3) := by decide +kernel
theorem d6_46 : decode prog_17_method_5_code 46 = .ok (.lsub, 1) := by decide +kernel
theorem d6_47 : decode prog_17_method_5_code 47 = .ok (.putfield 64, 3) := by decide +kernel
theorem d6_50 : decode prog_17_method_5_code 50 = .ok (.goto (-50), 3) := by decide +kernel
theorem ef_rm6 (m : MethodId) (x0 : Addr) (x1 : Int64) : entryFrame m #[(.ref x0), (.long x1)] 3 = mkF m 0 #[.val (.ref x0), .val (.long x1), .second] [] := by first | (simp [entryFrame, mkF, argsToLocals, Value.category]; done) | rfl
def Q6 (Z : State) (a1 : Addr) (y1 : Int64) (qd : Addr) (ar : Addr) (yw : Int64) (yp : Int64) (xh : Int32) (xt : Int32) (hd : Nat) (es : List Ent) (h0 : Heap) (n0 : Nat) (v : Option Value) (h : Heap) (L : List Loc) : Prop := v = none ∧ Fr n0 L ∧ Keep h0 h [a1, qd, ar] ∧ Fld Z h a1 "com/example/scripted_rate_limiter/scriptedratelimiter/PermitLog" "entries" "Ljava/util/ArrayDeque;" (.ref qd) ∧ Fld Z h a1 "com/example/scripted_rate_limiter/scriptedratelimiter/PermitLog" "windowTicks" "J" (.long yw) ∧ Fld Z h a1 "com/example/scripted_rate_limiter/scriptedratelimiter/PermitLog" "permits" "J" (.long (own_dp y1 yw yp es)) ∧ Fld Z h qd "java/util/ArrayDeque" "elements" "[Ljava/lang/Object;" (.ref ar) ∧ Fld Z h qd "java/util/ArrayDeque" "head" "I" (.int (own_dh y1 yw xh es)) ∧ Fld Z h qd "java/util/ArrayDeque" "tail" "I" (.int xt) ∧ AryO Z h ar 17 (own_at (own_dn y1 yw hd es) (own_dw y1 yw es))
set_option maxRecDepth 65536 in
set_option maxHeartbeats 40000000 in
theorem rm6 (l : Launch) (Z : State) (a0 : Array Value) (hw : ∀ d ∈ tables_1, d.before a0 Z = true) (ws : List Jvm.Cond) (a1 : Addr) (y1 : Int64) (qd : Addr) (ar : Addr) (yw : Int64) (yp : Int64) (xh : Int32) (xt : Int32) (hd : Nat) (es : List Ent) (h0 : Heap) (n0 : Nat) (Z0 : n0 ≤ h0.size) (E_a1 : Exa Z h0 a1 "com/example/scripted_rate_limiter/scriptedratelimiter/PermitLog") (F_entries : Fld Z h0 a1 "com/example/scripted_rate_limiter/scriptedratelimiter/PermitLog" "entries" "Ljava/util/ArrayDeque;" (.ref qd)) (F_windowTicks : Fld Z h0 a1 "com/example/scripted_rate_limiter/scriptedratelimiter/PermitLog" "windowTicks" "J" (.long yw)) (F_permits : Fld Z h0 a1 "com/example/scripted_rate_limiter/scriptedratelimiter/PermitLog" "permits" "J" (.long yp)) (E_q : Exa Z h0 qd "java/util/ArrayDeque") (F_elements : Fld Z h0 qd "java/util/ArrayDeque" "elements" "[Ljava/lang/Object;" (.ref ar)) (F_head : Fld Z h0 qd "java/util/ArrayDeque" "head" "I" (.int xh)) (F_tail : Fld Z h0 qd "java/util/ArrayDeque" "tail" "I" (.int xt)) (A : AryO Z h0 ar 17 (own_at hd es)) (En : Ens Z h0 es) (ne_a1_qd : a1 ≠ qd) (ne_a1_ar : a1 ≠ ar) (ne_qd_ar : qd ≠ ar) (g_a1 : n0 ≤ a1) (g_qd : n0 ≤ qd) (g_ar : n0 ≤ ar) (hxh : xh.toInt = (hd : Int)) (hxt : xt.toInt = ((hd + es.length : Nat) : Int)) (hbe : hd + es.length ≤ 3) (hne : own_off es a1 qd ar) :
    MetFree l (⟨"com/example/scripted_rate_limiter/scriptedratelimiter/PermitLog", "dropLeft", "(J)V"⟩ : MethodName) (head1 (Jvm.Cond.code (⟨"com/example/scripted_rate_limiter/scriptedratelimiter/PermitLog", "dropLeft", "(J)V"⟩ : MethodName) prog_17_method_5_code 3 none :: ws) ({ frames := 3, cells := 0, slots := 0, locals := 45 } : Room)) (fun a U => a = #[(.ref a1), (.long y1)] ∧ Z.Warmed39 U.vm ∧ U.heap = h0) (fun _ _ _ _ _ => True) (fun _ U o U' => ∃ v L, o = .returned v ∧ Q6 Z a1 y1 qd ar yw yp xh xt hd es h0 n0 v U'.heap L ∧ FrameEnd U o U' L ({ frames := 3, cells := 0, slots := 0, locals := 45 } : Room).cells ({ frames := 3, cells := 0, slots := 0, locals := 45 } : Room).slots) := by
  refine MetFree.of_bodySF (plainFor_of_name pn_1) hisR ?_
  intro p e s m args below meth c s₁ Bd hml0 hP hK
  obtain ⟨rfl, hZ, hh⟩ := hP
  have hx := Bd.exec
  have hby := Bd.bytes
  have hml : c.maxLocals = 3 := hml0
  have hown : s.vm.findClass "com/example/scripted_rate_limiter/scriptedratelimiter/PermitLog" = some m.cls := findClass_of_methodNamed Bd.named
  have hnm := (name_of_methodNamed Bd.named Bd.method).1
  have X0 : Stand p l e ({ frames := 3, cells := 0, slots := 0, locals := 45 } : Room) s m #[(.ref a1), (.long y1)] below meth c s₁ [] 0 0 := Stand.of_body Bd
  have e0 : s₁.heap = h0 := by rw [← hh, Bd.state]; rfl
  have N0 := Fr.nil n0
  have K0 := Keep.refl h0 [a1, qd, ar]
  suffices hD : Dn p e below s (Q6 Z a1 y1 qd ar yw yp xh xt hd es h0 n0) ({ frames := 3, cells := 0, slots := 0, locals := 45 } : Room).cells ({ frames := 3, cells := 0, slots := 0, locals := 45 } : Room).slots s₁ (mkF m 0 #[.val (.ref a1), .val (.long y1), .second] []) from by
    obtain ⟨s₂, o, q1, q2⟩ := hD
    exact ⟨s₂, o, castTop (ef_rm6 m a1 y1) q1, q2⟩
  have lp : ∀ (ej : List Ent) (dj : Nat) (xj : Int32) (pj : Int64) (TL : State) (lcL : List Loc) (XL : Stand p l e ({ frames := 3, cells := 0, slots := 0, locals := 45 } : Room) s m #[(.ref a1), (.long y1)] below meth c TL lcL 0 0) (hL : Heap) (eL : TL.heap = hL) (N0 : Fr n0 lcL) (Z0 : n0 ≤ hL.size) (K0 : Keep h0 hL [a1, qd, ar]) (E_a1 : Exa Z hL a1 "com/example/scripted_rate_limiter/scriptedratelimiter/PermitLog") (F_entries : Fld Z hL a1 "com/example/scripted_rate_limiter/scriptedratelimiter/PermitLog" "entries" "Ljava/util/ArrayDeque;" (.ref qd)) (F_windowTicks : Fld Z hL a1 "com/example/scripted_rate_limiter/scriptedratelimiter/PermitLog" "windowTicks" "J" (.long yw)) (F_permits : Fld Z hL a1 "com/example/scripted_rate_limiter/scriptedratelimiter/PermitLog" "permits" "J" (.long pj)) (E_q : Exa Z hL qd "java/util/ArrayDeque") (F_elements : Fld Z hL qd "java/util/ArrayDeque" "elements" "[Ljava/lang/Object;" (.ref ar)) (F_head : Fld Z hL qd "java/util/ArrayDeque" "head" "I" (.int xj)) (F_tail : Fld Z hL qd "java/util/ArrayDeque" "tail" "I" (.int xt)) (A : AryO Z hL ar 17 (own_at dj ej)) (En : Ens Z hL ej) (hxj : xj.toInt = (dj : Int)) (hxt2 : xt.toInt = ((dj + ej.length : Nat) : Int)) (hbj : dj + ej.length ≤ 3) (hne : own_off ej a1 qd ar) (hR : own_same y1 yw pj xj dj ej yp xh hd es), Dn p e below s (Q6 Z a1 y1 qd ar yw yp xh xt hd es h0 n0) (({ frames := 3, cells := 0, slots := 0, locals := 45 } : Room).cells) (({ frames := 3, cells := 0, slots := 0, locals := 45 } : Room).slots) TL (mkF m 0 #[.val (.ref a1), .val (.long y1), .second] []) := by
    intro ej
    induction ej with
    | nil =>
      intro dj xj pj TL lcL XL hL eL N0 Z0 K0 E_a1 F_entries F_windowTicks F_permits E_q F_elements F_head F_tail A En hxj hxt2 hbj hne hR
      refine Dn.st (fun t q => XS.aloadN XL.here hx rfl (hb hby d6_0) rfl rfl  q) ?_
      show Dn p e below s _ _ _ TL (mkF m 1 #[.val (.ref a1), .val (.long y1), .second] [(.ref a1)])
      obtain ⟨T1, X1, e1, st1⟩ := getF XL hx hZ hown (host := "") (Or.inl (hw _ (List.mem_of_getElem? (i := 31) rfl))) Via.refl eL F_entries (g := (mkF m 1 #[.val (.ref a1), .val (.long y1), .second] [(.ref a1)])) rfl rfl (hb hby d6_1)
      refine Dn.st st1 ?_
      show Dn p e below s _ _ _ T1 (mkF m 4 #[.val (.ref a1), .val (.long y1), .second] [(.ref qd)])
      obtain ⟨cq2, kq2, q2a, q2b, q2c⟩ := isOf hZ e1 E_q
      obtain ⟨_, _, ⟨T2, Lq2, kq_2, nq_2⟩, -, X2, ⟨Lc2, hQ2, lq2, yq2, zq2⟩, st2⟩ := X1.virtualBack hx (y := (⟨"java/util/ArrayDeque", "isEmpty", "()Z"⟩ : MethodName)) (z := (⟨"java/util/ArrayDeque", "isEmpty", "()Z"⟩ : MethodName)) hown (mvT hZ (hw _ (List.mem_of_getElem? (i := 49) rfl))) (mvT hZ (hw _ (List.mem_of_getElem? (i := 50) rfl))) (notFace_of_selects (args := #[]) (mvT hZ (hw _ (List.mem_of_getElem? (i := 52) rfl)))) (mvT hZ (hw _ (List.mem_of_getElem? (i := 52) rfl))) (mvT hZ (hw _ (List.mem_of_getElem? (i := 51) rfl))) (by decide) (backOf (W := 0) (rm7 l Z a0 hw [] qd xj xt hL n0 Z0 F_head F_tail) hZ (hw _ (List.mem_of_getElem? (i := 53) rfl)) (hw _ (List.mem_of_getElem? (i := 16) rfl)) (by decide) (by decide)) q2a q2c (g := (mkF m 4 #[.val (.ref a1), .val (.long y1), .second] [(.ref qd)])) rfl (by rw [hml]; rfl) (Steps.refl _) (argsL := []) (rest := []) (lenOf pd_5 rfl) rfl (by show 2 * 0 + _ ≤ _; exact Nat.le_of_eq rfl) (hb hby d6_4) (fun _ _ => ⟨rfl, e1, (by decide : 0 + 0 ≤ _), (by decide : 0 + 0 ≤ _)⟩)
      dsimp only [Pt.U, Pt.locs, Pt.cells, Pt.slots] at X2 lq2 yq2 zq2 st2 hQ2
      subst lq2 yq2 zq2
      obtain ⟨rfl, N2q, hq2⟩ := hQ2
      have N0 := Fr.app N0 N2q
      have e2 : T2.heap = hL := hq2
      refine Dn.tr st2 ?_
      show Dn p e below s _ _ _ T2 (mkF m 7 #[.val (.ref a1), .val (.long y1), .second] [(.int (if xj = xt then (1 : Int32) else (0 : Int32)))])
      rw [show (if xj = xt then (1 : Int32) else (0 : Int32)) = (1 : Int32) from (if_pos (own_xeq hxj hxt2))]
      show Dn p e below s _ _ _ T2 (mkF m 7 #[.val (.ref a1), .val (.long y1), .second] [(.int (1 : Int32))])
      refine Dn.st (fun t q => XS.ifYes X2.here hx rfl (pc0 := 7) (pc' := 53) rfl (hb hby d6_7) rfl ((if0 _ _).trans (feq (by decide)).2) (by decide) (by decide) q) ?_
      show Dn p e below s _ _ _ T2 (mkF m 53 #[.val (.ref a1), .val (.long y1), .second] [])
      obtain ⟨r1, r2, r3, r4⟩ := own_nil hR
      exact Dn.retV X2 hx Bd.notSynchronized Bd.returns (hb hby d6_53) (by rw [e2]; exact ⟨rfl, N0, K0, F_entries, F_windowTicks, (by rw [r2]; exact F_permits), F_elements, (by rw [r3]; exact F_head), F_tail, (by rw [r4, r1]; exact A)⟩) (by decide) (by decide)
    | cons e1 ej ih =>
      intro dj xj pj TL lcL XL hL eL N0 Z0 K0 E_a1 F_entries F_windowTicks F_permits E_q F_elements F_head F_tail A En hxj hxt2 hbj hne hR
      obtain ⟨ea, et, ep⟩ := e1
      obtain ⟨E_ea, F_tick_ea, F_permits_ea⟩ := En.hd
      have En := En.tl
      have hn1 := own_off_hd hne
      have hnt := own_off_tl hne
      refine Dn.st (fun t q => XS.aloadN XL.here hx rfl (hb hby d6_0) rfl rfl  q) ?_
      show Dn p e below s _ _ _ TL (mkF m 1 #[.val (.ref a1), .val (.long y1), .second] [(.ref a1)])
      obtain ⟨T3, X3, e3, st3⟩ := getF XL hx hZ hown (host := "") (Or.inl (hw _ (List.mem_of_getElem? (i := 31) rfl))) Via.refl eL F_entries (g := (mkF m 1 #[.val (.ref a1), .val (.long y1), .second] [(.ref a1)])) rfl rfl (hb hby d6_1)
      refine Dn.st st3 ?_
      show Dn p e below s _ _ _ T3 (mkF m 4 #[.val (.ref a1), .val (.long y1), .second] [(.ref qd)])
      obtain ⟨cq4, kq4, q4a, q4b, q4c⟩ := isOf hZ e3 E_q
      obtain ⟨_, _, ⟨T4, Lq4, kq_4, nq_4⟩, -, X4, ⟨Lc4, hQ4, lq4, yq4, zq4⟩, st4⟩ := X3.virtualBack hx (y := (⟨"java/util/ArrayDeque", "isEmpty", "()Z"⟩ : MethodName)) (z := (⟨"java/util/ArrayDeque", "isEmpty", "()Z"⟩ : MethodName)) hown (mvT hZ (hw _ (List.mem_of_getElem? (i := 49) rfl))) (mvT hZ (hw _ (List.mem_of_getElem? (i := 50) rfl))) (notFace_of_selects (args := #[]) (mvT hZ (hw _ (List.mem_of_getElem? (i := 52) rfl)))) (mvT hZ (hw _ (List.mem_of_getElem? (i := 52) rfl))) (mvT hZ (hw _ (List.mem_of_getElem? (i := 51) rfl))) (by decide) (backOf (W := 0) (rm7 l Z a0 hw [] qd xj xt hL n0 Z0 F_head F_tail) hZ (hw _ (List.mem_of_getElem? (i := 53) rfl)) (hw _ (List.mem_of_getElem? (i := 16) rfl)) (by decide) (by decide)) q4a q4c (g := (mkF m 4 #[.val (.ref a1), .val (.long y1), .second] [(.ref qd)])) rfl (by rw [hml]; rfl) (Steps.refl _) (argsL := []) (rest := []) (lenOf pd_5 rfl) rfl (by show 2 * 0 + _ ≤ _; exact Nat.le_of_eq rfl) (hb hby d6_4) (fun _ _ => ⟨rfl, e3, (by decide : 0 + 0 ≤ _), (by decide : 0 + 0 ≤ _)⟩)
      dsimp only [Pt.U, Pt.locs, Pt.cells, Pt.slots] at X4 lq4 yq4 zq4 st4 hQ4
      subst lq4 yq4 zq4
      obtain ⟨rfl, N4q, hq4⟩ := hQ4
      have N0 := Fr.app N0 N4q
      have e4 : T4.heap = hL := hq4
      refine Dn.tr st4 ?_
      show Dn p e below s _ _ _ T4 (mkF m 7 #[.val (.ref a1), .val (.long y1), .second] [(.int (if xj = xt then (1 : Int32) else (0 : Int32)))])
      rw [show (if xj = xt then (1 : Int32) else (0 : Int32)) = (0 : Int32) from (if_neg (own_xne hxj hxt2))]
      show Dn p e below s _ _ _ T4 (mkF m 7 #[.val (.ref a1), .val (.long y1), .second] [(.int (0 : Int32))])
      refine Dn.st (fun t q => XS.ifNo X4.here hx rfl (hb hby d6_7) rfl ((if0 _ _).trans (teq rfl).2) q) ?_
      show Dn p e below s _ _ _ T4 (mkF m 10 #[.val (.ref a1), .val (.long y1), .second] [])
      refine Dn.st (fun t q => XS.aloadN X4.here hx rfl (hb hby d6_10) rfl rfl  q) ?_
      show Dn p e below s _ _ _ T4 (mkF m 11 #[.val (.ref a1), .val (.long y1), .second] [(.ref a1)])
      refine Dn.st (fun t q => XS.aloadN X4.here hx rfl (hb hby d6_11) rfl rfl  q) ?_
      show Dn p e below s _ _ _ T4 (mkF m 12 #[.val (.ref a1), .val (.long y1), .second] [(.ref a1), (.ref a1)])
      obtain ⟨T5, X5, e5, st5⟩ := getF X4 hx hZ hown (host := "") (Or.inl (hw _ (List.mem_of_getElem? (i := 31) rfl))) Via.refl e4 F_entries (g := (mkF m 12 #[.val (.ref a1), .val (.long y1), .second] [(.ref a1), (.ref a1)])) rfl rfl (hb hby d6_12)
      refine Dn.st st5 ?_
      show Dn p e below s _ _ _ T5 (mkF m 15 #[.val (.ref a1), .val (.long y1), .second] [(.ref qd), (.ref a1)])
      obtain ⟨cq6, kq6, q6a, q6b, q6c⟩ := isOf hZ e5 E_q
      obtain ⟨_, _, ⟨T6, Lq6, kq_6, nq_6⟩, -, X6, ⟨Lc6, hQ6, lq6, yq6, zq6⟩, st6⟩ := X5.virtualBack hx (y := (⟨"java/util/ArrayDeque", "peekFirst", "()Ljava/lang/Object;"⟩ : MethodName)) (z := (⟨"java/util/ArrayDeque", "peekFirst", "()Ljava/lang/Object;"⟩ : MethodName)) hown (mvT hZ (hw _ (List.mem_of_getElem? (i := 91) rfl))) (mvT hZ (hw _ (List.mem_of_getElem? (i := 92) rfl))) (notFace_of_selects (args := #[]) (mvT hZ (hw _ (List.mem_of_getElem? (i := 94) rfl)))) (mvT hZ (hw _ (List.mem_of_getElem? (i := 94) rfl))) (mvT hZ (hw _ (List.mem_of_getElem? (i := 93) rfl))) (by decide) (backOf (W := 1) (rm14 l Z a0 hw [] qd ar xj (own_at dj ((ea, et, ep) :: ej)) dj (.ref ea) hL n0 Z0 F_elements F_head A hxj (own_b17 hbj) own_at_hd rfl) hZ (hw _ (List.mem_of_getElem? (i := 95) rfl)) (hw _ (List.mem_of_getElem? (i := 16) rfl)) (by decide) (by decide)) q6a q6c (g := (mkF m 15 #[.val (.ref a1), .val (.long y1), .second] [(.ref qd), (.ref a1)])) rfl (by rw [hml]; rfl) (Steps.refl _) (argsL := []) (rest := [(.ref a1)]) (lenOf pd_2 rfl) rfl (by show 2 * 0 + _ ≤ _; exact Nat.le_of_eq rfl) (hb hby d6_15) (fun _ _ => ⟨rfl, e5, (by decide : 0 + 0 ≤ _), (by decide : 0 + 0 ≤ _)⟩)
      dsimp only [Pt.U, Pt.locs, Pt.cells, Pt.slots] at X6 lq6 yq6 zq6 st6 hQ6
      subst lq6 yq6 zq6
      obtain ⟨rfl, N6q, hq6⟩ := hQ6
      have N0 := Fr.app N0 N6q
      have e6 : T6.heap = hL := hq6
      refine Dn.tr st6 ?_
      show Dn p e below s _ _ _ T6 (mkF m 18 #[.val (.ref a1), .val (.long y1), .second] [(.ref ea), (.ref a1)])
      obtain ⟨T7, X7, e7, st7⟩ := castY X6 hx hZ hown (hw _ (List.mem_of_getElem? (i := 69) rfl)) e6 (Ins.self E_ea) (g := (mkF m 18 #[.val (.ref a1), .val (.long y1), .second] [(.ref ea), (.ref a1)])) rfl rfl (hb hby d6_18)
      refine Dn.st st7 ?_
      show Dn p e below s _ _ _ T7 (mkF m 21 #[.val (.ref a1), .val (.long y1), .second] [(.ref ea), (.ref a1)])
      refine Dn.st (fun t q => XS.lloadN X7.here hx rfl (hb hby d6_21) rfl  q) ?_
      show Dn p e below s _ _ _ T7 (mkF m 22 #[.val (.ref a1), .val (.long y1), .second] [(.long y1), (.ref ea), (.ref a1)])
      obtain ⟨cq8, q8, q8'⟩ := E_a1.cell
      obtain ⟨_, _, ⟨T8, Lq8, kq_8, nq_8⟩, -, X8, ⟨Lc8, hQ8, lq8, yq8, zq8⟩, st8⟩ := X7.privateBack hx (y := (⟨"com/example/scripted_rate_limiter/scriptedratelimiter/PermitLog", "hasLeft", "(Lcom/example/scripted_rate_limiter/scriptedratelimiter/PermitLog$Entry;J)Z"⟩ : MethodName)) hown (mvT hZ (hw _ (List.mem_of_getElem? (i := 97) rfl))) (mvT hZ (hw _ (List.mem_of_getElem? (i := 98) rfl))) (own_self (mvT hZ (hw _ (List.mem_of_getElem? (i := 5) rfl))) (mvP hZ (hw _ (List.mem_of_getElem? (i := 99) rfl))) (mvT hZ (hw _ (List.mem_of_getElem? (i := 98) rfl))) (by decide)) (Cond.privateMethod_at (mvP hZ (hw _ (List.mem_of_getElem? (i := 99) rfl)) (args := #[]))) (mvT hZ (hw _ (List.mem_of_getElem? (i := 100) rfl))) (by decide) (backOf (W := 0) (rm15 l Z a0 hw [] a1 ea y1 et yw hL n0 Z0 F_tick_ea F_windowTicks) hZ (hw _ (List.mem_of_getElem? (i := 100) rfl)) (hw _ (List.mem_of_getElem? (i := 6) rfl)) (by decide) (by decide)) (g := (mkF m 22 #[.val (.ref a1), .val (.long y1), .second] [(.long y1), (.ref ea), (.ref a1)])) rfl (by rw [hml]; rfl) (Steps.refl _) (a := a1) (by rw [e7]; exact q8) q8' (argsL := [(.ref ea), (.long y1)]) (rest := []) (lenOf pd_6 rfl) rfl (by show 2 * 0 + _ ≤ _; exact Nat.le_of_eq rfl) (hb hby d6_22) (fun _ _ => ⟨rfl, e7, (by decide : 0 + 0 ≤ _), (by decide : 0 + 0 ≤ _)⟩)
      dsimp only [Pt.U, Pt.locs, Pt.cells, Pt.slots] at X8 lq8 yq8 zq8 st8 hQ8
      subst lq8 yq8 zq8
      obtain ⟨rfl, N8q, hq8⟩ := hQ8
      have N0 := Fr.app N0 N8q
      have e8 : T8.heap = hL := hq8
      refine Dn.tr st8 ?_
      show Dn p e below s _ _ _ T8 (mkF m 25 #[.val (.ref a1), .val (.long y1), .second] [(.int (if (y1 - et) < yw then (0 : Int32) else (1 : Int32)))])
      by_cases hl : (y1 - et) < yw
      · rw [show (if (y1 - et) < yw then (0 : Int32) else (1 : Int32)) = (0 : Int32) from (if_pos hl)]
        show Dn p e below s _ _ _ T8 (mkF m 25 #[.val (.ref a1), .val (.long y1), .second] [(.int (0 : Int32))])
        refine Dn.st (fun t q => XS.ifYes X8.here hx rfl (pc0 := 25) (pc' := 53) rfl (hb hby d6_25) rfl ((if0 _ _).trans (teq rfl).1) (by decide) (by decide) q) ?_
        show Dn p e below s _ _ _ T8 (mkF m 53 #[.val (.ref a1), .val (.long y1), .second] [])
        obtain ⟨r1, r2, r3, r4⟩ := own_stay hl hR
        exact Dn.retV X8 hx Bd.notSynchronized Bd.returns (hb hby d6_53) (by rw [e8]; exact ⟨rfl, N0, K0, F_entries, F_windowTicks, (by rw [r2]; exact F_permits), F_elements, (by rw [r3]; exact F_head), F_tail, (by rw [r4, r1]; exact A)⟩) (by decide) (by decide)
      · rw [show (if (y1 - et) < yw then (0 : Int32) else (1 : Int32)) = (1 : Int32) from (if_neg hl)]
        show Dn p e below s _ _ _ T8 (mkF m 25 #[.val (.ref a1), .val (.long y1), .second] [(.int (1 : Int32))])
        refine Dn.st (fun t q => XS.ifNo X8.here hx rfl (hb hby d6_25) rfl ((if0 _ _).trans (feq (by decide)).1) q) ?_
        show Dn p e below s _ _ _ T8 (mkF m 28 #[.val (.ref a1), .val (.long y1), .second] [])
        refine Dn.st (fun t q => XS.aloadN X8.here hx rfl (hb hby d6_28) rfl rfl  q) ?_
        show Dn p e below s _ _ _ T8 (mkF m 29 #[.val (.ref a1), .val (.long y1), .second] [(.ref a1)])
        refine Dn.st (fun t q => XS.dup X8.here hx rfl (hb hby d6_29) rfl rfl q) ?_
        show Dn p e below s _ _ _ T8 (mkF m 30 #[.val (.ref a1), .val (.long y1), .second] [(.ref a1), (.ref a1)])
        obtain ⟨T9, X9, e9, st9⟩ := getF X8 hx hZ hown (host := "") (Or.inl (hw _ (List.mem_of_getElem? (i := 89) rfl))) Via.refl e8 F_permits (g := (mkF m 30 #[.val (.ref a1), .val (.long y1), .second] [(.ref a1), (.ref a1)])) rfl rfl (hb hby d6_30)
        refine Dn.st st9 ?_
        show Dn p e below s _ _ _ T9 (mkF m 33 #[.val (.ref a1), .val (.long y1), .second] [(.long pj), (.ref a1)])
        refine Dn.st (fun t q => XS.aloadN X9.here hx rfl (hb hby d6_33) rfl rfl  q) ?_
        show Dn p e below s _ _ _ T9 (mkF m 34 #[.val (.ref a1), .val (.long y1), .second] [(.ref a1), (.long pj), (.ref a1)])
        obtain ⟨T10, X10, e10, st10⟩ := getF X9 hx hZ hown (host := "") (Or.inl (hw _ (List.mem_of_getElem? (i := 31) rfl))) Via.refl e9 F_entries (g := (mkF m 34 #[.val (.ref a1), .val (.long y1), .second] [(.ref a1), (.long pj), (.ref a1)])) rfl rfl (hb hby d6_34)
        refine Dn.st st10 ?_
        show Dn p e below s _ _ _ T10 (mkF m 37 #[.val (.ref a1), .val (.long y1), .second] [(.ref qd), (.long pj), (.ref a1)])
        obtain ⟨cq11, kq11, q11a, q11b, q11c⟩ := isOf hZ e10 E_q
        obtain ⟨_, _, ⟨T11, Lq11, kq_11, nq_11⟩, -, X11, ⟨Lc11, hQ11, lq11, yq11, zq11⟩, st11⟩ := X10.virtualBack hx (y := (⟨"java/util/ArrayDeque", "removeFirst", "()Ljava/lang/Object;"⟩ : MethodName)) (z := (⟨"java/util/ArrayDeque", "removeFirst", "()Ljava/lang/Object;"⟩ : MethodName)) hown (mvT hZ (hw _ (List.mem_of_getElem? (i := 104) rfl))) (mvT hZ (hw _ (List.mem_of_getElem? (i := 105) rfl))) (notFace_of_selects (args := #[]) (mvT hZ (hw _ (List.mem_of_getElem? (i := 107) rfl)))) (mvT hZ (hw _ (List.mem_of_getElem? (i := 107) rfl))) (mvT hZ (hw _ (List.mem_of_getElem? (i := 106) rfl))) (by decide) (backOf (W := 3) (rm16 l Z a0 hw [] qd ar xj xt (own_at dj ((ea, et, ep) :: ej)) dj ea hL n0 Z0 E_q F_elements F_head F_tail A ne_qd_ar g_qd g_ar hxj (own_b16 hbj) own_at_hd) hZ (hw _ (List.mem_of_getElem? (i := 108) rfl)) (hw _ (List.mem_of_getElem? (i := 16) rfl)) (by decide) (by decide)) q11a q11c (g := (mkF m 37 #[.val (.ref a1), .val (.long y1), .second] [(.ref qd), (.long pj), (.ref a1)])) rfl (by rw [hml]; rfl) (Steps.refl _) (argsL := []) (rest := [(.long pj), (.ref a1)]) (lenOf pd_2 rfl) rfl (by show 2 * 0 + _ ≤ _; exact Nat.le_of_eq rfl) (hb hby d6_37) (fun _ _ => ⟨rfl, e10, (by decide : 0 + 0 ≤ _), (by decide : 0 + 0 ≤ _)⟩)
        dsimp only [Pt.U, Pt.locs, Pt.cells, Pt.slots] at X11 lq11 yq11 zq11 st11 hQ11
        subst lq11 yq11 zq11
        obtain ⟨rfl, N11q, K11, F_elements, F_head, F_tail, A⟩ := hQ11
        have N0 := Fr.app N0 N11q
        have Z0 := Nat.le_trans Z0 K11.1
        have K0 := K0.trans K11 (allS (Or.inl (List.mem_of_getElem? (i := 1) rfl)) (allS (Or.inl (List.mem_of_getElem? (i := 2) rfl)) all0))
        have E_a1 := E_a1.keep K11
        have F_entries := F_entries.keep K11 (ninS ne_a1_qd (ninS ne_a1_ar nin0))
        have F_windowTicks := F_windowTicks.keep K11 (ninS ne_a1_qd (ninS ne_a1_ar nin0))
        have F_permits := F_permits.keep K11 (ninS ne_a1_qd (ninS ne_a1_ar nin0))
        have E_q := E_q.keep K11
        have En := En.keep K11 (fun z hz => (ninS ((own_off2 hnt) z hz) (ninS ((own_off3 hnt) z hz) nin0)))
        have E_ea := E_ea.keep K11
        have F_tick_ea := F_tick_ea.keep K11 (ninS hn1.2.1 (ninS hn1.2.2 nin0))
        have F_permits_ea := F_permits_ea.keep K11 (ninS hn1.2.1 (ninS hn1.2.2 nin0))
        have A : AryO Z T11.heap ar 17 (own_at (dj + 1) ej) := A.congr (fun j _ => own_at_tl j)
        refine Dn.tr st11 ?_
        show Dn p e below s _ _ _ T11 (mkF m 40 #[.val (.ref a1), .val (.long y1), .second] [(.ref ea), (.long pj), (.ref a1)])
        obtain ⟨T12, X12, e12, st12⟩ := castY X11 hx hZ hown (hw _ (List.mem_of_getElem? (i := 69) rfl)) rfl (Ins.self E_ea) (g := (mkF m 40 #[.val (.ref a1), .val (.long y1), .second] [(.ref ea), (.long pj), (.ref a1)])) rfl rfl (hb hby d6_40)
        refine Dn.st st12 ?_
        show Dn p e below s _ _ _ T12 (mkF m 43 #[.val (.ref a1), .val (.long y1), .second] [(.ref ea), (.long pj), (.ref a1)])
        refine Dn.st (getFR X12 hx hZ hown (hw _ (List.mem_of_getElem? (i := 102) rfl)) e12 F_permits_ea (g := (mkF m 43 #[.val (.ref a1), .val (.long y1), .second] [(.ref ea), (.long pj), (.ref a1)])) rfl rfl (hb hby d6_43)) ?_
        show Dn p e below s _ _ _ T12 (mkF m 46 #[.val (.ref a1), .val (.long y1), .second] [(.long ep), (.long pj), (.ref a1)])
        refine Dn.st (fun t q => XS.lsub X12.here hx rfl (hb hby d6_46) rfl q) ?_
        show Dn p e below s _ _ _ T12 (mkF m 47 #[.val (.ref a1), .val (.long y1), .second] [(.long (pj - ep)), (.ref a1)])
        obtain ⟨T13, h13, X13, e13, W13, st13⟩ := putF X12 hx hZ hown (host := "") (Or.inl (hw _ (List.mem_of_getElem? (i := 89) rfl))) Via.refl e12 F_permits E_a1 (Or.inl (hw _ (List.mem_of_getElem? (i := 90) rfl))) (hw _ (List.mem_of_getElem? (i := 5) rfl)) (ty := .long) (by decide) rfl rfl (g := (mkF m 47 #[.val (.ref a1), .val (.long y1), .second] [(.long (pj - ep)), (.ref a1)])) rfl rfl (hb hby d6_47)
        have N0 := Fr.snoc X13 N0 g_a1
        have Z0 := Nat.le_trans Z0 (Keep.of_wr W13).1
        have K0 := K0.wr W13 (Or.inl (List.mem_of_getElem? (i := 0) rfl))
        have E_a1 := E_a1.wr W13
        have F_entries := F_entries.other W13 (Or.inr (slot_ne (Or.inr (hw _ (List.mem_of_getElem? (i := 32) rfl))) (Or.inl (hw _ (List.mem_of_getElem? (i := 90) rfl))) (by decide) (t := (.object "java/util/ArrayDeque")) (t' := .long) (by decide) (by decide)))
        have F_windowTicks := F_windowTicks.other W13 (Or.inr (slot_ne (Or.inr (hw _ (List.mem_of_getElem? (i := 38) rfl))) (Or.inl (hw _ (List.mem_of_getElem? (i := 90) rfl))) (by decide) (t := .long) (t' := .long) (by decide) (by decide)))
        have F_permits := F_permits.same W13
        have E_q := E_q.wr W13
        have En := En.wr W13 (own_off1 hnt)
        have E_ea := E_ea.wr W13
        have F_tick_ea := F_tick_ea.other W13 (Or.inl hn1.1)
        have F_permits_ea := F_permits_ea.other W13 (Or.inl hn1.1)
        have F_elements := F_elements.other W13 (Or.inl (Ne.symm ne_a1_qd))
        have F_head := F_head.other W13 (Or.inl (Ne.symm ne_a1_qd))
        have F_tail := F_tail.other W13 (Or.inl (Ne.symm ne_a1_qd))
        have A := A.other W13 (Ne.symm ne_a1_ar)
        refine Dn.st st13 ?_
        show Dn p e below s _ _ _ T13 (mkF m 50 #[.val (.ref a1), .val (.long y1), .second] [])
        refine Dn.st (fun t q => XS.goto X13.here hx rfl (pc0 := 50) (pc' := 0) rfl (hb hby d6_50) (by decide) (by decide) q) ?_
        show Dn p e below s _ _ _ T13 (mkF m 0 #[.val (.ref a1), .val (.long y1), .second] [])
        exact ih (dj + 1) (xj + (1 : Int32)) (pj - ep) _ _ X13 _ e13 N0 Z0 K0 E_a1 F_entries F_windowTicks F_permits E_q F_elements F_head F_tail A En (own_up1 hxj hbj) (own_up2 hxt2) (own_up3 hbj) hnt (own_leave hl hR)
  exact lp es hd xh yp _ _ X0 _ e0 N0 Z0 K0 E_a1 F_entries F_windowTicks F_permits E_q F_elements F_head F_tail A En hxh hxt hbe hne ⟨rfl, rfl, rfl, rfl⟩
theorem d5_0 : decode prog_17_method_6_code 0 = .ok (.aload_n 0, 1) := by decide +kernel
theorem d5_1 : decode prog_17_method_6_code 1 = .ok (.lload_n 1, 1) := by decide +kernel
theorem d5_2 : decode prog_17_method_6_code 2 = .ok (.invokevirtual 94, 3) := by decide +kernel
theorem pd_7 : parseMethodDescriptor "(J)V" = some ⟨[.long], none⟩ := by decide +kernel
theorem d5_5 : decode prog_17_method_6_code 5 = .ok (.aload_n 0, 1) := by decide +kernel
theorem d5_6 : decode prog_17_method_6_code 6 = .ok (.getfield 10, 3) := by decide +kernel
theorem d5_9 : decode prog_17_method_6_code 9 = .ok (.invokevirtual 52, 3) := by decide +kernel
theorem d5_12 : decode prog_17_method_6_code 12 = .ok (.checkcast 56, 3) := by decide +kernel
theorem d5_15 : decode prog_17_method_6_code 15 = .ok (.astore 5, 2) := by decide +kernel
theorem d5_17 : decode prog_17_method_6_code 17 = .ok (.aload 5, 2) := by decide +kernel
theorem d5_19 : decode prog_17_method_6_code 19 = .ok (.ifnull 27, 3) := by decide +kernel
theorem d5_46 : decode prog_17_method_6_code 46 = .ok (.aload_n 0, 1) := by decide +kernel
theorem d5_47 : decode prog_17_method_6_code 47 = .ok (.getfield 10, 3) := by decide +kernel
theorem d5_50 : decode prog_17_method_6_code 50 = .ok (.new 56, 3) := by decide +kernel
theorem d5_53 : decode prog_17_method_6_code 53 = .ok (.dup, 1) := by decide +kernel
theorem d5_54 : decode prog_17_method_6_code 54 = .ok (.lload_n 1, 1) := by decide +kernel
theorem d5_55 : decode prog_17_method_6_code 55 = .ok (.lload_n 3, 1) := by decide +kernel
theorem d5_56 : decode prog_17_method_6_code 56 = .ok (.invokespecial 98, 3) := by decide +kernel
theorem pd_8 : parseMethodDescriptor "(JJ)V" = some ⟨[.long, .long], none⟩ := by decide +kernel
theorem d5_59 : decode prog_17_method_6_code 59 = .ok (.invokevirtual 100, 3) := by decide +kernel
theorem pd_9 : parseMethodDescriptor "(Ljava/lang/Object;)V" = some ⟨[(.object "java/lang/Object")], none⟩ := by decide +kernel
theorem d5_62 : decode prog_17_method_6_code 62 = .ok (.aload_n 0, 1) := by decide +kernel
theorem d5_63 : decode prog_17_method_6_code 63 = .ok (.dup, 1) := by decide +kernel
theorem d5_64 : decode prog_17_method_6_code 64 = .ok (.getfield 64, 3) := by decide +kernel
theorem d5_67 : decode prog_17_method_6_code 67 = .ok (.lload_n 3, 1) := by decide +kernel
theorem d5_68 : decode prog_17_method_6_code 68 = .ok (.ladd, 1) := by decide +kernel
theorem d5_69 : decode prog_17_method_6_code 69 = .ok (.putfield 64, 3) := by decide +kernel
theorem d5_72 : decode prog_17_method_6_code 72 = .ok (.return_, 1) := by decide +kernel
theorem ef_rm5n (m : MethodId) (x0 : Addr) (x1 : Int64) (x2 : Int64) : entryFrame m #[(.ref x0), (.long x1), (.long x2)] 6 = mkF m 0 #[.val (.ref x0), .val (.long x1), .second, .val (.long x2), .second, .unset] [] := by first | (simp [entryFrame, mkF, argsToLocals, Value.category]; done) | rfl
def Q5n (Z : State) (a1 : Addr) (y1 : Int64) (y2 : Int64) (qd : Addr) (ar : Addr) (yw : Int64) (yp : Int64) (xh : Int32) (xt : Int32) (hd : Nat) (es : List Ent) (h0 : Heap) (n0 : Nat) (v : Option Value) (h : Heap) (L : List Loc) : Prop := ∃ es2 : List Ent, v = none ∧ Fr n0 L ∧ Keep h0 h [a1, qd, ar] ∧ own_added h0.size es y1 y2 es2 ∧ Ens Z h es2 ∧ ∃ xt2 : Int32, xt2.toInt = ((hd + es2.length : Nat) : Int) ∧ Fld Z h a1 "com/example/scripted_rate_limiter/scriptedratelimiter/PermitLog" "entries" "Ljava/util/ArrayDeque;" (.ref qd) ∧ Fld Z h a1 "com/example/scripted_rate_limiter/scriptedratelimiter/PermitLog" "windowTicks" "J" (.long yw) ∧ Fld Z h a1 "com/example/scripted_rate_limiter/scriptedratelimiter/PermitLog" "permits" "J" (.long (yp + y2)) ∧ Fld Z h qd "java/util/ArrayDeque" "elements" "[Ljava/lang/Object;" (.ref ar) ∧ Fld Z h qd "java/util/ArrayDeque" "head" "I" (.int xh) ∧ Fld Z h qd "java/util/ArrayDeque" "tail" "I" (.int xt2) ∧ AryO Z h ar 17 (own_at hd es2)
set_option maxRecDepth 65536 in
set_option maxHeartbeats 40000000 in
theorem rm5n (l : Launch) (Z : State) (a0 : Array Value) (hw : ∀ d ∈ tables_1, d.before a0 Z = true) (ws : List Jvm.Cond) (a1 : Addr) (y1 : Int64) (y2 : Int64) (qd : Addr) (ar : Addr) (yw : Int64) (yp : Int64) (xh : Int32) (xt : Int32) (hd : Nat) (es : List Ent) (h0 : Heap) (n0 : Nat) (Z0 : n0 ≤ h0.size) (E_a1 : Exa Z h0 a1 "com/example/scripted_rate_limiter/scriptedratelimiter/PermitLog") (F_entries : Fld Z h0 a1 "com/example/scripted_rate_limiter/scriptedratelimiter/PermitLog" "entries" "Ljava/util/ArrayDeque;" (.ref qd)) (F_windowTicks : Fld Z h0 a1 "com/example/scripted_rate_limiter/scriptedratelimiter/PermitLog" "windowTicks" "J" (.long yw)) (F_permits : Fld Z h0 a1 "com/example/scripted_rate_limiter/scriptedratelimiter/PermitLog" "permits" "J" (.long yp)) (E_q : Exa Z h0 qd "java/util/ArrayDeque") (F_elements : Fld Z h0 qd "java/util/ArrayDeque" "elements" "[Ljava/lang/Object;" (.ref ar)) (F_head : Fld Z h0 qd "java/util/ArrayDeque" "head" "I" (.int xh)) (F_tail : Fld Z h0 qd "java/util/ArrayDeque" "tail" "I" (.int xt)) (A : AryO Z h0 ar 17 (own_at hd es)) (En : Ens Z h0 es) (ne_a1_qd : a1 ≠ qd) (ne_a1_ar : a1 ≠ ar) (ne_qd_ar : qd ≠ ar) (g_a1 : n0 ≤ a1) (g_qd : n0 ≤ qd) (g_ar : n0 ≤ ar) (hxh : xh.toInt = (hd : Int)) (hxt : xt.toInt = ((hd + es.length : Nat) : Int)) (hbe : hd + es.length ≤ 3) (hne : own_off es a1 qd ar) (hnd : ∀ e ∈ es, (y1 - e.2.1) < yw) (he : es = []) :
    MetFree l (⟨"com/example/scripted_rate_limiter/scriptedratelimiter/PermitLog", "add", "(JJ)V"⟩ : MethodName) (head1 (Jvm.Cond.code (⟨"com/example/scripted_rate_limiter/scriptedratelimiter/PermitLog", "add", "(JJ)V"⟩ : MethodName) prog_17_method_6_code 6 none :: ws) ({ frames := 4, cells := 1, slots := 2, locals := 59 } : Room)) (fun a U => a = #[(.ref a1), (.long y1), (.long y2)] ∧ Z.Warmed39 U.vm ∧ U.heap = h0) (fun _ _ _ _ _ => True) (fun _ U o U' => ∃ v L, o = .returned v ∧ Q5n Z a1 y1 y2 qd ar yw yp xh xt hd es h0 n0 v U'.heap L ∧ FrameEnd U o U' L ({ frames := 4, cells := 1, slots := 2, locals := 59 } : Room).cells ({ frames := 4, cells := 1, slots := 2, locals := 59 } : Room).slots) := by
  refine MetFree.of_bodySF (plainFor_of_name pn_1) hisR ?_
  intro p e s m args below meth c s₁ Bd hml0 hP hK
  obtain ⟨rfl, hZ, hh⟩ := hP
  have hx := Bd.exec
  have hby := Bd.bytes
  have hml : c.maxLocals = 6 := hml0
  have hown : s.vm.findClass "com/example/scripted_rate_limiter/scriptedratelimiter/PermitLog" = some m.cls := findClass_of_methodNamed Bd.named
  have hnm := (name_of_methodNamed Bd.named Bd.method).1
  have X0 : Stand p l e ({ frames := 4, cells := 1, slots := 2, locals := 59 } : Room) s m #[(.ref a1), (.long y1), (.long y2)] below meth c s₁ [] 0 0 := Stand.of_body Bd
  have e0 : s₁.heap = h0 := by rw [← hh, Bd.state]; rfl
  have N0 := Fr.nil n0
  have K0 := Keep.refl h0 [a1, qd, ar]
  suffices hD : Dn p e below s (Q5n Z a1 y1 y2 qd ar yw yp xh xt hd es h0 n0) ({ frames := 4, cells := 1, slots := 2, locals := 59 } : Room).cells ({ frames := 4, cells := 1, slots := 2, locals := 59 } : Room).slots s₁ (mkF m 0 #[.val (.ref a1), .val (.long y1), .second, .val (.long y2), .second, .unset] []) from by
    obtain ⟨s₂, o, q1, q2⟩ := hD
    exact ⟨s₂, o, castTop (ef_rm5n m a1 y1 y2) q1, q2⟩
  refine Dn.st (fun t q => XS.aloadN X0.here hx rfl (hb hby d5_0) rfl rfl  q) ?_
  show Dn p e below s _ _ _ s₁ (mkF m 1 #[.val (.ref a1), .val (.long y1), .second, .val (.long y2), .second, .unset] [(.ref a1)])
  refine Dn.st (fun t q => XS.lloadN X0.here hx rfl (hb hby d5_1) rfl  q) ?_
  show Dn p e below s _ _ _ s₁ (mkF m 2 #[.val (.ref a1), .val (.long y1), .second, .val (.long y2), .second, .unset] [(.long y1), (.ref a1)])
  obtain ⟨cq1, kq1, q1a, q1b, q1c⟩ := isOf hZ e0 E_a1
  obtain ⟨_, _, ⟨T1, Lq1, kq_1, nq_1⟩, -, X1, ⟨Lc1, hQ1, lq1, yq1, zq1⟩, st1⟩ := X0.virtualBack hx (y := (⟨"com/example/scripted_rate_limiter/scriptedratelimiter/PermitLog", "dropLeft", "(J)V"⟩ : MethodName)) (z := (⟨"com/example/scripted_rate_limiter/scriptedratelimiter/PermitLog", "dropLeft", "(J)V"⟩ : MethodName)) hown (mvT hZ (hw _ (List.mem_of_getElem? (i := 44) rfl))) (mvT hZ (hw _ (List.mem_of_getElem? (i := 45) rfl))) (notFace_of_selects (args := #[]) (mvT hZ (hw _ (List.mem_of_getElem? (i := 47) rfl)))) (mvT hZ (hw _ (List.mem_of_getElem? (i := 47) rfl))) (mvT hZ (hw _ (List.mem_of_getElem? (i := 46) rfl))) (by decide) (backOf (W := 0) (rm6 l Z a0 hw [] a1 y1 qd ar yw yp xh xt hd es h0 n0 Z0 E_a1 F_entries F_windowTicks F_permits E_q F_elements F_head F_tail A En ne_a1_qd ne_a1_ar ne_qd_ar g_a1 g_qd g_ar hxh hxt hbe hne) hZ (hw _ (List.mem_of_getElem? (i := 48) rfl)) (hw _ (List.mem_of_getElem? (i := 6) rfl)) (by decide) (by decide)) q1a q1c (g := (mkF m 2 #[.val (.ref a1), .val (.long y1), .second, .val (.long y2), .second, .unset] [(.long y1), (.ref a1)])) rfl (by rw [hml]; rfl) (Steps.refl _) (argsL := [(.long y1)]) (rest := []) (lenOf pd_7 rfl) rfl (by show 2 * 0 + _ ≤ _; exact Nat.le_of_eq rfl) (hb hby d5_2) (fun _ _ => ⟨rfl, e0, (by decide : 0 + 0 ≤ _), (by decide : 0 + 0 ≤ _)⟩)
  dsimp only [Pt.U, Pt.locs, Pt.cells, Pt.slots] at X1 lq1 yq1 zq1 st1 hQ1
  subst lq1 yq1 zq1
  obtain ⟨rfl, N1q, K1, F_entries, F_windowTicks, F_permits, F_elements, F_head, F_tail, A⟩ := hQ1
  have N0 := Fr.app N0 N1q
  have Z0 := Nat.le_trans Z0 K1.1
  have K0 := K0.trans K1 (allS (Or.inl (List.mem_of_getElem? (i := 0) rfl)) (allS (Or.inl (List.mem_of_getElem? (i := 1) rfl)) (allS (Or.inl (List.mem_of_getElem? (i := 2) rfl)) all0)))
  have E_a1 := E_a1.keep K1
  have E_q := E_q.keep K1
  have En := En.keep K1 (fun z hz => (ninS ((own_off1 hne) z hz) (ninS ((own_off2 hne) z hz) (ninS ((own_off3 hne) z hz) nin0))))
  obtain ⟨d1, d2, d3, d4⟩ := own_nd (p := yp) (x := xh) (hd := hd) hnd
  rw [d2] at F_permits
  rw [d3] at F_head
  rw [d4, d1] at A
  refine Dn.tr st1 ?_
  show Dn p e below s _ _ _ T1 (mkF m 5 #[.val (.ref a1), .val (.long y1), .second, .val (.long y2), .second, .unset] [])
  refine Dn.st (fun t q => XS.aloadN X1.here hx rfl (hb hby d5_5) rfl rfl  q) ?_
  show Dn p e below s _ _ _ T1 (mkF m 6 #[.val (.ref a1), .val (.long y1), .second, .val (.long y2), .second, .unset] [(.ref a1)])
  obtain ⟨T2, X2, e2, st2⟩ := getF X1 hx hZ hown (host := "") (Or.inl (hw _ (List.mem_of_getElem? (i := 31) rfl))) Via.refl rfl F_entries (g := (mkF m 6 #[.val (.ref a1), .val (.long y1), .second, .val (.long y2), .second, .unset] [(.ref a1)])) rfl rfl (hb hby d5_6)
  refine Dn.st st2 ?_
  show Dn p e below s _ _ _ T2 (mkF m 9 #[.val (.ref a1), .val (.long y1), .second, .val (.long y2), .second, .unset] [(.ref qd)])
  obtain ⟨cq3, kq3, q3a, q3b, q3c⟩ := isOf hZ e2 E_q
  obtain ⟨_, _, ⟨T3, Lq3, kq_3, nq_3⟩, -, X3, ⟨Lc3, hQ3, lq3, yq3, zq3⟩, st3⟩ := X2.virtualBack hx (y := (⟨"java/util/ArrayDeque", "peekLast", "()Ljava/lang/Object;"⟩ : MethodName)) (z := (⟨"java/util/ArrayDeque", "peekLast", "()Ljava/lang/Object;"⟩ : MethodName)) hown (mvT hZ (hw _ (List.mem_of_getElem? (i := 58) rfl))) (mvT hZ (hw _ (List.mem_of_getElem? (i := 59) rfl))) (notFace_of_selects (args := #[]) (mvT hZ (hw _ (List.mem_of_getElem? (i := 61) rfl)))) (mvT hZ (hw _ (List.mem_of_getElem? (i := 61) rfl))) (mvT hZ (hw _ (List.mem_of_getElem? (i := 60) rfl))) (by decide) (backOf (W := 0) (rm8 l Z a0 hw [] qd ar xt (own_at hd es) (own_pl xt) .null T1.heap n0 Z0 F_elements F_tail A (own_plx hxt hbe) (own_pl17 hxt hbe) (own_plnull he) rfl) hZ (hw _ (List.mem_of_getElem? (i := 62) rfl)) (hw _ (List.mem_of_getElem? (i := 16) rfl)) (by decide) (by decide)) q3a q3c (g := (mkF m 9 #[.val (.ref a1), .val (.long y1), .second, .val (.long y2), .second, .unset] [(.ref qd)])) rfl (by rw [hml]; rfl) (Steps.refl _) (argsL := []) (rest := []) (lenOf pd_2 rfl) rfl (by show 2 * 0 + _ ≤ _; exact Nat.le_of_eq rfl) (hb hby d5_9) (fun _ _ => ⟨rfl, e2, (by decide : 0 + 0 ≤ _), (by decide : 0 + 0 ≤ _)⟩)
  dsimp only [Pt.U, Pt.locs, Pt.cells, Pt.slots] at X3 lq3 yq3 zq3 st3 hQ3
  subst lq3 yq3 zq3
  obtain ⟨rfl, N3q, hq3⟩ := hQ3
  have N0 := Fr.app N0 N3q
  have e3 : T3.heap = T1.heap := hq3
  refine Dn.tr st3 ?_
  show Dn p e below s _ _ _ T3 (mkF m 12 #[.val (.ref a1), .val (.long y1), .second, .val (.long y2), .second, .unset] [.null])
  refine Dn.st (X3.checkcastNull hx (g := (mkF m 12 #[.val (.ref a1), .val (.long y1), .second, .val (.long y2), .second, .unset] [.null])) rfl rfl (hb hby d5_12)) ?_
  show Dn p e below s _ _ _ T3 (mkF m 15 #[.val (.ref a1), .val (.long y1), .second, .val (.long y2), .second, .unset] [.null])
  refine Dn.st (fun t q => XS.astore X3.here hx rfl (hb hby d5_15) rfl rfl (l' := #[.val (.ref a1), .val (.long y1), .second, .val (.long y2), .second, .val .null]) rfl q) ?_
  show Dn p e below s _ _ _ T3 (mkF m 17 #[.val (.ref a1), .val (.long y1), .second, .val (.long y2), .second, .val .null] [])
  refine Dn.st (fun t q => XS.aload X3.here hx rfl (hb hby d5_17) rfl rfl  q) ?_
  show Dn p e below s _ _ _ T3 (mkF m 19 #[.val (.ref a1), .val (.long y1), .second, .val (.long y2), .second, .val .null] [.null])
  refine Dn.st (fun t q => XS.ifnullYes X3.here hx rfl (pc0 := 19) (pc' := 46) rfl (hb hby d5_19) rfl (by decide) (by decide) q) ?_
  show Dn p e below s _ _ _ T3 (mkF m 46 #[.val (.ref a1), .val (.long y1), .second, .val (.long y2), .second, .val .null] [])
  refine Dn.st (fun t q => XS.aloadN X3.here hx rfl (hb hby d5_46) rfl rfl  q) ?_
  show Dn p e below s _ _ _ T3 (mkF m 47 #[.val (.ref a1), .val (.long y1), .second, .val (.long y2), .second, .val .null] [(.ref a1)])
  obtain ⟨T4, X4, e4, st4⟩ := getF X3 hx hZ hown (host := "") (Or.inl (hw _ (List.mem_of_getElem? (i := 31) rfl))) Via.refl e3 F_entries (g := (mkF m 47 #[.val (.ref a1), .val (.long y1), .second, .val (.long y2), .second, .val .null] [(.ref a1)])) rfl rfl (hb hby d5_47)
  refine Dn.st st4 ?_
  show Dn p e below s _ _ _ T4 (mkF m 50 #[.val (.ref a1), .val (.long y1), .second, .val (.long y2), .second, .val .null] [(.ref qd)])
  obtain ⟨T5, h5, X5, e5, E5, A5, D5, -, st5⟩ := newO X4 hx hZ hown (hw _ (List.mem_of_getElem? (i := 69) rfl)) (hw _ (List.mem_of_getElem? (i := 70) rfl)) (hw _ (List.mem_of_getElem? (i := 71) rfl)) e4 (g := (mkF m 50 #[.val (.ref a1), .val (.long y1), .second, .val (.long y2), .second, .val .null] [(.ref qd)])) rfl (hb hby d5_50) (by decide) (by decide)
  obtain ⟨b1, g5⟩ : ∃ z, z = T1.heap.size := ⟨_, rfl⟩
  rw [← g5] at A5 D5 st5
  have ne_a1_b1 : a1 ≠ b1 := own_ne E_a1.lt g5
  have ne_qd_b1 : qd ≠ b1 := own_ne E_q.lt g5
  have ne_ar_b1 : ar ≠ b1 := own_ne A.lt g5
  have nes_En_b1 := fun z hz => own_ne (En.lt z hz) g5
  have g_b1 : n0 ≤ b1 := Nat.le_trans Z0 (Nat.le_of_eq g5.symm)
  have sz_b1 : h0.size ≤ b1 := Nat.le_trans K0.1 (Nat.le_of_eq g5.symm)
  have Z0 := Nat.le_trans Z0 E5.1
  have K0 := K0.ext E5
  have E_a1 := E_a1.ext E5
  have E_q := E_q.ext E5
  have En := En.ext E5
  have F_entries := F_entries.ext E5
  have F_windowTicks := F_windowTicks.ext E5
  have F_permits := F_permits.ext E5
  have F_elements := F_elements.ext E5
  have F_head := F_head.ext E5
  have F_tail := F_tail.ext E5
  have A := A.ext E5
  have E_b1 := A5
  have F_tick_b1 : Fld Z h5 b1 "com/example/scripted_rate_limiter/scriptedratelimiter/PermitLog$Entry" "tick" "J" (.long (0 : Int64)) := D5 (Or.inr (hw _ (List.mem_of_getElem? (i := 77) rfl))) (ty := .long) (by decide)
  have F_permits_b1 : Fld Z h5 b1 "com/example/scripted_rate_limiter/scriptedratelimiter/PermitLog$Entry" "permits" "J" (.long (0 : Int64)) := D5 (Or.inl (hw _ (List.mem_of_getElem? (i := 79) rfl))) (ty := .long) (by decide)
  refine Dn.st st5 ?_
  show Dn p e below s _ _ _ T5 (mkF m 53 #[.val (.ref a1), .val (.long y1), .second, .val (.long y2), .second, .val .null] [(.ref b1), (.ref qd)])
  refine Dn.st (fun t q => XS.dup X5.here hx rfl (hb hby d5_53) rfl rfl q) ?_
  show Dn p e below s _ _ _ T5 (mkF m 54 #[.val (.ref a1), .val (.long y1), .second, .val (.long y2), .second, .val .null] [(.ref b1), (.ref b1), (.ref qd)])
  refine Dn.st (fun t q => XS.lloadN X5.here hx rfl (hb hby d5_54) rfl  q) ?_
  show Dn p e below s _ _ _ T5 (mkF m 55 #[.val (.ref a1), .val (.long y1), .second, .val (.long y2), .second, .val .null] [(.long y1), (.ref b1), (.ref b1), (.ref qd)])
  refine Dn.st (fun t q => XS.lloadN X5.here hx rfl (hb hby d5_55) rfl  q) ?_
  show Dn p e below s _ _ _ T5 (mkF m 56 #[.val (.ref a1), .val (.long y1), .second, .val (.long y2), .second, .val .null] [(.long y2), (.long y1), (.ref b1), (.ref b1), (.ref qd)])
  obtain ⟨_, _, ⟨T6, Lq6, kq_6, nq_6⟩, -, X6, ⟨Lc6, hQ6, lq6, yq6, zq6⟩, st6⟩ := X5.specialBack hx (y := (⟨"com/example/scripted_rate_limiter/scriptedratelimiter/PermitLog$Entry", "<init>", "(JJ)V"⟩ : MethodName)) rfl hown (mvT hZ (hw _ (List.mem_of_getElem? (i := 72) rfl))) (mvT hZ (hw _ (List.mem_of_getElem? (i := 73) rfl))) (mvT hZ (hw _ (List.mem_of_getElem? (i := 74) rfl))) (by decide) (backOf (W := 2) (rm11 l Z a0 hw [] b1 y1 y2 (.long (0 : Int64)) (.long (0 : Int64)) h5 n0 Z0 E_b1 F_tick_b1 F_permits_b1 g_b1) hZ (hw _ (List.mem_of_getElem? (i := 74) rfl)) (hw _ (List.mem_of_getElem? (i := 71) rfl)) (by decide) (by decide)) (g := (mkF m 56 #[.val (.ref a1), .val (.long y1), .second, .val (.long y2), .second, .val .null] [(.long y2), (.long y1), (.ref b1), (.ref b1), (.ref qd)])) rfl (by rw [hml]; rfl) (Steps.refl _) (a := b1) (argsL := [(.long y1), (.long y2)]) (rest := [(.ref b1), (.ref qd)]) (lenOf pd_8 rfl) rfl (by show 2 * 0 + _ ≤ _; exact Nat.le_of_eq rfl) (hb hby d5_56) (fun _ _ => ⟨rfl, e5, (by decide : 1 + 0 ≤ _), (by decide : 2 + 0 ≤ _)⟩)
  dsimp only [Pt.U, Pt.locs, Pt.cells, Pt.slots] at X6 lq6 yq6 zq6 st6 hQ6
  subst lq6 yq6 zq6
  obtain ⟨rfl, N6q, K6, F_tick_b1, F_permits_b1⟩ := hQ6
  have N0 := Fr.app N0 N6q
  have Z0 := Nat.le_trans Z0 K6.1
  have K0 := K0.trans K6 (allS (Or.inr sz_b1) all0)
  have E_a1 := E_a1.keep K6
  have E_q := E_q.keep K6
  have En := En.keep K6 (fun z hz => (ninS (nes_En_b1 z hz) nin0))
  have F_entries := F_entries.keep K6 (ninS ne_a1_b1 nin0)
  have F_windowTicks := F_windowTicks.keep K6 (ninS ne_a1_b1 nin0)
  have F_permits := F_permits.keep K6 (ninS ne_a1_b1 nin0)
  have F_elements := F_elements.keep K6 (ninS ne_qd_b1 nin0)
  have F_head := F_head.keep K6 (ninS ne_qd_b1 nin0)
  have F_tail := F_tail.keep K6 (ninS ne_qd_b1 nin0)
  have A := A.keep K6 (ninS ne_ar_b1 nin0)
  have E_b1 := E_b1.keep K6
  refine Dn.tr st6 ?_
  show Dn p e below s _ _ _ T6 (mkF m 59 #[.val (.ref a1), .val (.long y1), .second, .val (.long y2), .second, .val .null] [(.ref b1), (.ref qd)])
  obtain ⟨cq7, kq7, q7a, q7b, q7c⟩ := isOf hZ rfl E_q
  obtain ⟨_, _, ⟨T7, Lq7, kq_7, nq_7⟩, -, X7, ⟨Lc7, hQ7, lq7, yq7, zq7⟩, st7⟩ := X6.virtualBack hx (y := (⟨"java/util/ArrayDeque", "addLast", "(Ljava/lang/Object;)V"⟩ : MethodName)) (z := (⟨"java/util/ArrayDeque", "addLast", "(Ljava/lang/Object;)V"⟩ : MethodName)) hown (mvT hZ (hw _ (List.mem_of_getElem? (i := 80) rfl))) (mvT hZ (hw _ (List.mem_of_getElem? (i := 81) rfl))) (notFace_of_selects (args := #[]) (mvT hZ (hw _ (List.mem_of_getElem? (i := 83) rfl)))) (mvT hZ (hw _ (List.mem_of_getElem? (i := 83) rfl))) (mvT hZ (hw _ (List.mem_of_getElem? (i := 82) rfl))) (by decide) (backOf (W := 0) (rm12 l Z a0 hw [] qd b1 ar xh xt (own_at hd es) (hd + (es).length) T6.heap n0 Z0 E_q F_elements F_head F_tail A ne_qd_ar g_qd g_ar hxt (own_b16' hbe) (own_xne2 hxh hxt hbe) (Ins.of_exa E_b1 (hw _ (List.mem_of_getElem? (i := 85) rfl)))) hZ (hw _ (List.mem_of_getElem? (i := 84) rfl)) (hw _ (List.mem_of_getElem? (i := 16) rfl)) (by decide) (by decide)) q7a q7c (g := (mkF m 59 #[.val (.ref a1), .val (.long y1), .second, .val (.long y2), .second, .val .null] [(.ref b1), (.ref qd)])) rfl (by rw [hml]; rfl) (Steps.refl _) (argsL := [(.ref b1)]) (rest := []) (lenOf pd_9 rfl) rfl (by show 2 * 0 + _ ≤ _; exact Nat.le_of_eq rfl) (hb hby d5_59) (fun _ _ => ⟨rfl, rfl, (by decide : 1 + 0 ≤ _), (by decide : 2 + 0 ≤ _)⟩)
  dsimp only [Pt.U, Pt.locs, Pt.cells, Pt.slots] at X7 lq7 yq7 zq7 st7 hQ7
  subst lq7 yq7 zq7
  obtain ⟨rfl, N7q, K7, F_elements, F_head, F_tail, A⟩ := hQ7
  have N0 := Fr.app N0 N7q
  have Z0 := Nat.le_trans Z0 K7.1
  have K0 := K0.trans K7 (allS (Or.inl (List.mem_of_getElem? (i := 1) rfl)) (allS (Or.inl (List.mem_of_getElem? (i := 2) rfl)) all0))
  have E_a1 := E_a1.keep K7
  have E_q := E_q.keep K7
  have En := En.keep K7 (fun z hz => (ninS ((own_off2 hne) z hz) (ninS ((own_off3 hne) z hz) nin0)))
  have F_entries := F_entries.keep K7 (ninS ne_a1_qd (ninS ne_a1_ar nin0))
  have F_windowTicks := F_windowTicks.keep K7 (ninS ne_a1_qd (ninS ne_a1_ar nin0))
  have F_permits := F_permits.keep K7 (ninS ne_a1_qd (ninS ne_a1_ar nin0))
  have E_b1 := E_b1.keep K7
  have F_tick_b1 := F_tick_b1.keep K7 (ninS (Ne.symm ne_qd_b1) (ninS (Ne.symm ne_ar_b1) nin0))
  have F_permits_b1 := F_permits_b1.keep K7 (ninS (Ne.symm ne_qd_b1) (ninS (Ne.symm ne_ar_b1) nin0))
  have A : AryO Z T7.heap ar 17 (own_at hd (es ++ [(b1, y1, y2)])) := A.congr (fun j _ => own_at_add b1 y1 y2 j)
  refine Dn.tr st7 ?_
  show Dn p e below s _ _ _ T7 (mkF m 62 #[.val (.ref a1), .val (.long y1), .second, .val (.long y2), .second, .val .null] [])
  refine Dn.st (fun t q => XS.aloadN X7.here hx rfl (hb hby d5_62) rfl rfl  q) ?_
  show Dn p e below s _ _ _ T7 (mkF m 63 #[.val (.ref a1), .val (.long y1), .second, .val (.long y2), .second, .val .null] [(.ref a1)])
  refine Dn.st (fun t q => XS.dup X7.here hx rfl (hb hby d5_63) rfl rfl q) ?_
  show Dn p e below s _ _ _ T7 (mkF m 64 #[.val (.ref a1), .val (.long y1), .second, .val (.long y2), .second, .val .null] [(.ref a1), (.ref a1)])
  obtain ⟨T8, X8, e8, st8⟩ := getF X7 hx hZ hown (host := "") (Or.inl (hw _ (List.mem_of_getElem? (i := 89) rfl))) Via.refl rfl F_permits (g := (mkF m 64 #[.val (.ref a1), .val (.long y1), .second, .val (.long y2), .second, .val .null] [(.ref a1), (.ref a1)])) rfl rfl (hb hby d5_64)
  refine Dn.st st8 ?_
  show Dn p e below s _ _ _ T8 (mkF m 67 #[.val (.ref a1), .val (.long y1), .second, .val (.long y2), .second, .val .null] [(.long yp), (.ref a1)])
  refine Dn.st (fun t q => XS.lloadN X8.here hx rfl (hb hby d5_67) rfl  q) ?_
  show Dn p e below s _ _ _ T8 (mkF m 68 #[.val (.ref a1), .val (.long y1), .second, .val (.long y2), .second, .val .null] [(.long y2), (.long yp), (.ref a1)])
  refine Dn.st (fun t q => XS.ladd X8.here hx rfl (hb hby d5_68) rfl q) ?_
  show Dn p e below s _ _ _ T8 (mkF m 69 #[.val (.ref a1), .val (.long y1), .second, .val (.long y2), .second, .val .null] [(.long (yp + y2)), (.ref a1)])
  obtain ⟨T9, h9, X9, e9, W9, st9⟩ := putF X8 hx hZ hown (host := "") (Or.inl (hw _ (List.mem_of_getElem? (i := 89) rfl))) Via.refl e8 F_permits E_a1 (Or.inl (hw _ (List.mem_of_getElem? (i := 90) rfl))) (hw _ (List.mem_of_getElem? (i := 5) rfl)) (ty := .long) (by decide) rfl rfl (g := (mkF m 69 #[.val (.ref a1), .val (.long y1), .second, .val (.long y2), .second, .val .null] [(.long (yp + y2)), (.ref a1)])) rfl rfl (hb hby d5_69)
  have N0 := Fr.snoc X9 N0 g_a1
  have Z0 := Nat.le_trans Z0 (Keep.of_wr W9).1
  have K0 := K0.wr W9 (Or.inl (List.mem_of_getElem? (i := 0) rfl))
  have E_a1 := E_a1.wr W9
  have E_q := E_q.wr W9
  have En := En.wr W9 (own_off1 hne)
  have F_entries := F_entries.other W9 (Or.inr (slot_ne (Or.inr (hw _ (List.mem_of_getElem? (i := 32) rfl))) (Or.inl (hw _ (List.mem_of_getElem? (i := 90) rfl))) (by decide) (t := (.object "java/util/ArrayDeque")) (t' := .long) (by decide) (by decide)))
  have F_windowTicks := F_windowTicks.other W9 (Or.inr (slot_ne (Or.inr (hw _ (List.mem_of_getElem? (i := 38) rfl))) (Or.inl (hw _ (List.mem_of_getElem? (i := 90) rfl))) (by decide) (t := .long) (t' := .long) (by decide) (by decide)))
  have F_permits := F_permits.same W9
  have E_b1 := E_b1.wr W9
  have F_tick_b1 := F_tick_b1.other W9 (Or.inl (Ne.symm ne_a1_b1))
  have F_permits_b1 := F_permits_b1.other W9 (Or.inl (Ne.symm ne_a1_b1))
  have F_elements := F_elements.other W9 (Or.inl (Ne.symm ne_a1_qd))
  have F_head := F_head.other W9 (Or.inl (Ne.symm ne_a1_qd))
  have F_tail := F_tail.other W9 (Or.inl (Ne.symm ne_a1_qd))
  have A := A.other W9 (Ne.symm ne_a1_ar)
  refine Dn.st st9 ?_
  show Dn p e below s _ _ _ T9 (mkF m 72 #[.val (.ref a1), .val (.long y1), .second, .val (.long y2), .second, .val .null] [])
  exact Dn.retV X9 hx Bd.notSynchronized Bd.returns (hb hby d5_72) (by rw [e9]; exact ⟨_, rfl, N0, K0, own_add_new sz_b1 (fun _ _ _ _ q => absurd (he.symm.trans q) (by simp)), En.app (Ens.one E_b1 F_tick_b1 F_permits_b1), _, own_tl1 hxt hbe, F_entries, F_windowTicks, F_permits, F_elements, F_head, F_tail, A⟩) (by decide) (by decide)
theorem d5_22 : decode prog_17_method_6_code 22 = .ok (.aload 5, 2) := by decide +kernel
theorem d5_24 : decode prog_17_method_6_code 24 = .ok (.getfield 58, 3) := by decide +kernel
theorem d5_27 : decode prog_17_method_6_code 27 = .ok (.lload_n 1, 1) := by decide +kernel
theorem d5_28 : decode prog_17_method_6_code 28 = .ok (.lcmp, 1) := by decide +kernel
theorem d5_29 : decode prog_17_method_6_code 29 = .ok (.ifCond .ne 17, 3) := by decide +kernel
theorem d5_32 : decode prog_17_method_6_code 32 = .ok (.aload 5, 2) := by decide +kernel
theorem d5_34 : decode prog_17_method_6_code 34 = .ok (.dup, 1) := by decide +kernel
theorem d5_35 : decode prog_17_method_6_code 35 = .ok (.getfield 84, 3) := by decide +kernel
theorem d5_38 : decode prog_17_method_6_code 38 = .ok (.lload_n 3, 1) := by decide +kernel
theorem d5_39 : decode prog_17_method_6_code 39 = .ok (.ladd, 1) := by decide +kernel
theorem d5_40 : decode prog_17_method_6_code 40 = .ok (.putfield 84, 3) := by decide +kernel
theorem d5_43 : decode prog_17_method_6_code 43 = .ok (.goto 19, 3) := by decide +kernel
theorem ef_rm5s (m : MethodId) (x0 : Addr) (x1 : Int64) (x2 : Int64) : entryFrame m #[(.ref x0), (.long x1), (.long x2)] 6 = mkF m 0 #[.val (.ref x0), .val (.long x1), .second, .val (.long x2), .second, .unset] [] := by first | (simp [entryFrame, mkF, argsToLocals, Value.category]; done) | rfl
def Q5s (Z : State) (a1 : Addr) (y1 : Int64) (y2 : Int64) (qd : Addr) (ar : Addr) (yw : Int64) (yp : Int64) (xh : Int32) (xt : Int32) (hd : Nat) (es : List Ent) (eh : List Ent) (ea : Addr) (et : Int64) (ep : Int64) (h0 : Heap) (n0 : Nat) (v : Option Value) (h : Heap) (L : List Loc) : Prop := ∃ es2 : List Ent, v = none ∧ Fr n0 L ∧ Keep h0 h [a1, qd, ar, ea] ∧ own_added h0.size es y1 y2 es2 ∧ Ens Z h es2 ∧ ∃ xt2 : Int32, xt2.toInt = ((hd + es2.length : Nat) : Int) ∧ Fld Z h a1 "com/example/scripted_rate_limiter/scriptedratelimiter/PermitLog" "entries" "Ljava/util/ArrayDeque;" (.ref qd) ∧ Fld Z h a1 "com/example/scripted_rate_limiter/scriptedratelimiter/PermitLog" "windowTicks" "J" (.long yw) ∧ Fld Z h a1 "com/example/scripted_rate_limiter/scriptedratelimiter/PermitLog" "permits" "J" (.long (yp + y2)) ∧ Fld Z h qd "java/util/ArrayDeque" "elements" "[Ljava/lang/Object;" (.ref ar) ∧ Fld Z h qd "java/util/ArrayDeque" "head" "I" (.int xh) ∧ Fld Z h qd "java/util/ArrayDeque" "tail" "I" (.int xt2) ∧ AryO Z h ar 17 (own_at hd es2)
set_option maxRecDepth 65536 in
set_option maxHeartbeats 40000000 in
theorem rm5s (l : Launch) (Z : State) (a0 : Array Value) (hw : ∀ d ∈ tables_1, d.before a0 Z = true) (ws : List Jvm.Cond) (a1 : Addr) (y1 : Int64) (y2 : Int64) (qd : Addr) (ar : Addr) (yw : Int64) (yp : Int64) (xh : Int32) (xt : Int32) (hd : Nat) (es : List Ent) (eh : List Ent) (ea : Addr) (et : Int64) (ep : Int64) (h0 : Heap) (n0 : Nat) (Z0 : n0 ≤ h0.size) (E_a1 : Exa Z h0 a1 "com/example/scripted_rate_limiter/scriptedratelimiter/PermitLog") (F_entries : Fld Z h0 a1 "com/example/scripted_rate_limiter/scriptedratelimiter/PermitLog" "entries" "Ljava/util/ArrayDeque;" (.ref qd)) (F_windowTicks : Fld Z h0 a1 "com/example/scripted_rate_limiter/scriptedratelimiter/PermitLog" "windowTicks" "J" (.long yw)) (F_permits : Fld Z h0 a1 "com/example/scripted_rate_limiter/scriptedratelimiter/PermitLog" "permits" "J" (.long yp)) (E_q : Exa Z h0 qd "java/util/ArrayDeque") (F_elements : Fld Z h0 qd "java/util/ArrayDeque" "elements" "[Ljava/lang/Object;" (.ref ar)) (F_head : Fld Z h0 qd "java/util/ArrayDeque" "head" "I" (.int xh)) (F_tail : Fld Z h0 qd "java/util/ArrayDeque" "tail" "I" (.int xt)) (A : AryO Z h0 ar 17 (own_at hd es)) (En : Ens Z h0 es) (ne_a1_qd : a1 ≠ qd) (ne_a1_ar : a1 ≠ ar) (ne_qd_ar : qd ≠ ar) (g_a1 : n0 ≤ a1) (g_qd : n0 ≤ qd) (g_ar : n0 ≤ ar) (hxh : xh.toInt = (hd : Int)) (hxt : xt.toInt = ((hd + es.length : Nat) : Int)) (hbe : hd + es.length ≤ 3) (hne : own_off es a1 qd ar) (hnd : ∀ e ∈ es, (y1 - e.2.1) < yw) (he : es = eh ++ [(ea, et, ep)]) (hds : ∀ e ∈ eh, e.1 ≠ ea) (g_ea : n0 ≤ ea) :
    MetFree l (⟨"com/example/scripted_rate_limiter/scriptedratelimiter/PermitLog", "add", "(JJ)V"⟩ : MethodName) (head1 (Jvm.Cond.code (⟨"com/example/scripted_rate_limiter/scriptedratelimiter/PermitLog", "add", "(JJ)V"⟩ : MethodName) prog_17_method_6_code 6 none :: ws) ({ frames := 4, cells := 1, slots := 2, locals := 59 } : Room)) (fun a U => a = #[(.ref a1), (.long y1), (.long y2)] ∧ Z.Warmed39 U.vm ∧ U.heap = h0) (fun _ _ _ _ _ => True) (fun _ U o U' => ∃ v L, o = .returned v ∧ Q5s Z a1 y1 y2 qd ar yw yp xh xt hd es eh ea et ep h0 n0 v U'.heap L ∧ FrameEnd U o U' L ({ frames := 4, cells := 1, slots := 2, locals := 59 } : Room).cells ({ frames := 4, cells := 1, slots := 2, locals := 59 } : Room).slots) := by
  refine MetFree.of_bodySF (plainFor_of_name pn_1) hisR ?_
  intro p e s m args below meth c s₁ Bd hml0 hP hK
  obtain ⟨rfl, hZ, hh⟩ := hP
  have hx := Bd.exec
  have hby := Bd.bytes
  have hml : c.maxLocals = 6 := hml0
  have hown : s.vm.findClass "com/example/scripted_rate_limiter/scriptedratelimiter/PermitLog" = some m.cls := findClass_of_methodNamed Bd.named
  have hnm := (name_of_methodNamed Bd.named Bd.method).1
  have X0 : Stand p l e ({ frames := 4, cells := 1, slots := 2, locals := 59 } : Room) s m #[(.ref a1), (.long y1), (.long y2)] below meth c s₁ [] 0 0 := Stand.of_body Bd
  have e0 : s₁.heap = h0 := by rw [← hh, Bd.state]; rfl
  have N0 := Fr.nil n0
  have K0 := Keep.refl h0 [a1, qd, ar, ea]
  suffices hD : Dn p e below s (Q5s Z a1 y1 y2 qd ar yw yp xh xt hd es eh ea et ep h0 n0) ({ frames := 4, cells := 1, slots := 2, locals := 59 } : Room).cells ({ frames := 4, cells := 1, slots := 2, locals := 59 } : Room).slots s₁ (mkF m 0 #[.val (.ref a1), .val (.long y1), .second, .val (.long y2), .second, .unset] []) from by
    obtain ⟨s₂, o, q1, q2⟩ := hD
    exact ⟨s₂, o, castTop (ef_rm5s m a1 y1 y2) q1, q2⟩
  refine Dn.st (fun t q => XS.aloadN X0.here hx rfl (hb hby d5_0) rfl rfl  q) ?_
  show Dn p e below s _ _ _ s₁ (mkF m 1 #[.val (.ref a1), .val (.long y1), .second, .val (.long y2), .second, .unset] [(.ref a1)])
  refine Dn.st (fun t q => XS.lloadN X0.here hx rfl (hb hby d5_1) rfl  q) ?_
  show Dn p e below s _ _ _ s₁ (mkF m 2 #[.val (.ref a1), .val (.long y1), .second, .val (.long y2), .second, .unset] [(.long y1), (.ref a1)])
  obtain ⟨cq1, kq1, q1a, q1b, q1c⟩ := isOf hZ e0 E_a1
  obtain ⟨_, _, ⟨T1, Lq1, kq_1, nq_1⟩, -, X1, ⟨Lc1, hQ1, lq1, yq1, zq1⟩, st1⟩ := X0.virtualBack hx (y := (⟨"com/example/scripted_rate_limiter/scriptedratelimiter/PermitLog", "dropLeft", "(J)V"⟩ : MethodName)) (z := (⟨"com/example/scripted_rate_limiter/scriptedratelimiter/PermitLog", "dropLeft", "(J)V"⟩ : MethodName)) hown (mvT hZ (hw _ (List.mem_of_getElem? (i := 44) rfl))) (mvT hZ (hw _ (List.mem_of_getElem? (i := 45) rfl))) (notFace_of_selects (args := #[]) (mvT hZ (hw _ (List.mem_of_getElem? (i := 47) rfl)))) (mvT hZ (hw _ (List.mem_of_getElem? (i := 47) rfl))) (mvT hZ (hw _ (List.mem_of_getElem? (i := 46) rfl))) (by decide) (backOf (W := 0) (rm6 l Z a0 hw [] a1 y1 qd ar yw yp xh xt hd es h0 n0 Z0 E_a1 F_entries F_windowTicks F_permits E_q F_elements F_head F_tail A En ne_a1_qd ne_a1_ar ne_qd_ar g_a1 g_qd g_ar hxh hxt hbe hne) hZ (hw _ (List.mem_of_getElem? (i := 48) rfl)) (hw _ (List.mem_of_getElem? (i := 6) rfl)) (by decide) (by decide)) q1a q1c (g := (mkF m 2 #[.val (.ref a1), .val (.long y1), .second, .val (.long y2), .second, .unset] [(.long y1), (.ref a1)])) rfl (by rw [hml]; rfl) (Steps.refl _) (argsL := [(.long y1)]) (rest := []) (lenOf pd_7 rfl) rfl (by show 2 * 0 + _ ≤ _; exact Nat.le_of_eq rfl) (hb hby d5_2) (fun _ _ => ⟨rfl, e0, (by decide : 0 + 0 ≤ _), (by decide : 0 + 0 ≤ _)⟩)
  dsimp only [Pt.U, Pt.locs, Pt.cells, Pt.slots] at X1 lq1 yq1 zq1 st1 hQ1
  subst lq1 yq1 zq1
  obtain ⟨rfl, N1q, K1, F_entries, F_windowTicks, F_permits, F_elements, F_head, F_tail, A⟩ := hQ1
  have N0 := Fr.app N0 N1q
  have Z0 := Nat.le_trans Z0 K1.1
  have K0 := K0.trans K1 (allS (Or.inl (List.mem_of_getElem? (i := 0) rfl)) (allS (Or.inl (List.mem_of_getElem? (i := 1) rfl)) (allS (Or.inl (List.mem_of_getElem? (i := 2) rfl)) all0)))
  have E_a1 := E_a1.keep K1
  have E_q := E_q.keep K1
  have En := En.keep K1 (fun z hz => (ninS ((own_off1 hne) z hz) (ninS ((own_off2 hne) z hz) (ninS ((own_off3 hne) z hz) nin0))))
  obtain ⟨d1, d2, d3, d4⟩ := own_nd (p := yp) (x := xh) (hd := hd) hnd
  rw [d2] at F_permits
  rw [d3] at F_head
  rw [d4, d1] at A
  refine Dn.tr st1 ?_
  show Dn p e below s _ _ _ T1 (mkF m 5 #[.val (.ref a1), .val (.long y1), .second, .val (.long y2), .second, .unset] [])
  refine Dn.st (fun t q => XS.aloadN X1.here hx rfl (hb hby d5_5) rfl rfl  q) ?_
  show Dn p e below s _ _ _ T1 (mkF m 6 #[.val (.ref a1), .val (.long y1), .second, .val (.long y2), .second, .unset] [(.ref a1)])
  obtain ⟨T2, X2, e2, st2⟩ := getF X1 hx hZ hown (host := "") (Or.inl (hw _ (List.mem_of_getElem? (i := 31) rfl))) Via.refl rfl F_entries (g := (mkF m 6 #[.val (.ref a1), .val (.long y1), .second, .val (.long y2), .second, .unset] [(.ref a1)])) rfl rfl (hb hby d5_6)
  refine Dn.st st2 ?_
  show Dn p e below s _ _ _ T2 (mkF m 9 #[.val (.ref a1), .val (.long y1), .second, .val (.long y2), .second, .unset] [(.ref qd)])
  obtain ⟨E_ea, F_tick_ea, F_permits_ea⟩ := (he ▸ En : Ens Z _ (eh ++ [(ea, et, ep)])).snd.hd
  have hna := own_off_last (he ▸ hne : own_off (eh ++ [(ea, et, ep)]) a1 qd ar)
  obtain ⟨cq3, kq3, q3a, q3b, q3c⟩ := isOf hZ e2 E_q
  obtain ⟨_, _, ⟨T3, Lq3, kq_3, nq_3⟩, -, X3, ⟨Lc3, hQ3, lq3, yq3, zq3⟩, st3⟩ := X2.virtualBack hx (y := (⟨"java/util/ArrayDeque", "peekLast", "()Ljava/lang/Object;"⟩ : MethodName)) (z := (⟨"java/util/ArrayDeque", "peekLast", "()Ljava/lang/Object;"⟩ : MethodName)) hown (mvT hZ (hw _ (List.mem_of_getElem? (i := 58) rfl))) (mvT hZ (hw _ (List.mem_of_getElem? (i := 59) rfl))) (notFace_of_selects (args := #[]) (mvT hZ (hw _ (List.mem_of_getElem? (i := 61) rfl)))) (mvT hZ (hw _ (List.mem_of_getElem? (i := 61) rfl))) (mvT hZ (hw _ (List.mem_of_getElem? (i := 60) rfl))) (by decide) (backOf (W := 0) (rm8 l Z a0 hw [] qd ar xt (own_at hd es) (own_pl xt) (.ref ea) T1.heap n0 Z0 F_elements F_tail A (own_plx hxt hbe) (own_pl17 hxt hbe) (own_pllast hxt hbe he) rfl) hZ (hw _ (List.mem_of_getElem? (i := 62) rfl)) (hw _ (List.mem_of_getElem? (i := 16) rfl)) (by decide) (by decide)) q3a q3c (g := (mkF m 9 #[.val (.ref a1), .val (.long y1), .second, .val (.long y2), .second, .unset] [(.ref qd)])) rfl (by rw [hml]; rfl) (Steps.refl _) (argsL := []) (rest := []) (lenOf pd_2 rfl) rfl (by show 2 * 0 + _ ≤ _; exact Nat.le_of_eq rfl) (hb hby d5_9) (fun _ _ => ⟨rfl, e2, (by decide : 0 + 0 ≤ _), (by decide : 0 + 0 ≤ _)⟩)
  dsimp only [Pt.U, Pt.locs, Pt.cells, Pt.slots] at X3 lq3 yq3 zq3 st3 hQ3
  subst lq3 yq3 zq3
  obtain ⟨rfl, N3q, hq3⟩ := hQ3
  have N0 := Fr.app N0 N3q
  have e3 : T3.heap = T1.heap := hq3
  refine Dn.tr st3 ?_
  show Dn p e below s _ _ _ T3 (mkF m 12 #[.val (.ref a1), .val (.long y1), .second, .val (.long y2), .second, .unset] [(.ref ea)])
  obtain ⟨T4, X4, e4, st4⟩ := castY X3 hx hZ hown (hw _ (List.mem_of_getElem? (i := 69) rfl)) e3 (Ins.self E_ea) (g := (mkF m 12 #[.val (.ref a1), .val (.long y1), .second, .val (.long y2), .second, .unset] [(.ref ea)])) rfl rfl (hb hby d5_12)
  refine Dn.st st4 ?_
  show Dn p e below s _ _ _ T4 (mkF m 15 #[.val (.ref a1), .val (.long y1), .second, .val (.long y2), .second, .unset] [(.ref ea)])
  refine Dn.st (fun t q => XS.astore X4.here hx rfl (hb hby d5_15) rfl rfl (l' := #[.val (.ref a1), .val (.long y1), .second, .val (.long y2), .second, .val (.ref ea)]) rfl q) ?_
  show Dn p e below s _ _ _ T4 (mkF m 17 #[.val (.ref a1), .val (.long y1), .second, .val (.long y2), .second, .val (.ref ea)] [])
  refine Dn.st (fun t q => XS.aload X4.here hx rfl (hb hby d5_17) rfl rfl  q) ?_
  show Dn p e below s _ _ _ T4 (mkF m 19 #[.val (.ref a1), .val (.long y1), .second, .val (.long y2), .second, .val (.ref ea)] [(.ref ea)])
  refine Dn.st (fun t q => XS.ifnullNo X4.here hx rfl (hb hby d5_19) rfl q) ?_
  show Dn p e below s _ _ _ T4 (mkF m 22 #[.val (.ref a1), .val (.long y1), .second, .val (.long y2), .second, .val (.ref ea)] [])
  refine Dn.st (fun t q => XS.aload X4.here hx rfl (hb hby d5_22) rfl rfl  q) ?_
  show Dn p e below s _ _ _ T4 (mkF m 24 #[.val (.ref a1), .val (.long y1), .second, .val (.long y2), .second, .val (.ref ea)] [(.ref ea)])
  refine Dn.st (getFR X4 hx hZ hown (hw _ (List.mem_of_getElem? (i := 101) rfl)) e4 F_tick_ea (g := (mkF m 24 #[.val (.ref a1), .val (.long y1), .second, .val (.long y2), .second, .val (.ref ea)] [(.ref ea)])) rfl rfl (hb hby d5_24)) ?_
  show Dn p e below s _ _ _ T4 (mkF m 27 #[.val (.ref a1), .val (.long y1), .second, .val (.long y2), .second, .val (.ref ea)] [(.long et)])
  refine Dn.st (fun t q => XS.lloadN X4.here hx rfl (hb hby d5_27) rfl  q) ?_
  show Dn p e below s _ _ _ T4 (mkF m 28 #[.val (.ref a1), .val (.long y1), .second, .val (.long y2), .second, .val (.ref ea)] [(.long y1), (.long et)])
  refine Dn.st (fun t q => XS.lcmp X4.here hx rfl (hb hby d5_28) rfl q) ?_
  show Dn p e below s _ _ _ T4 (mkF m 29 #[.val (.ref a1), .val (.long y1), .second, .val (.long y2), .second, .val (.ref ea)] [(.int (lcmpW et y1))])
  by_cases hc : et = y1
  · refine Dn.st (fun t q => XS.ifNo X4.here hx rfl (hb hby d5_29) rfl ((if0 _ _).trans (teq ((lw_eq _ _).mpr hc)).2) q) ?_
    show Dn p e below s _ _ _ T4 (mkF m 32 #[.val (.ref a1), .val (.long y1), .second, .val (.long y2), .second, .val (.ref ea)] [])
    have En0 := (he ▸ En : Ens Z _ (eh ++ [(ea, et, ep)])).fst
    have hn0 := own_off_fst (he ▸ hne : own_off (eh ++ [(ea, et, ep)]) a1 qd ar)
    refine Dn.st (fun t q => XS.aload X4.here hx rfl (hb hby d5_32) rfl rfl  q) ?_
    show Dn p e below s _ _ _ T4 (mkF m 34 #[.val (.ref a1), .val (.long y1), .second, .val (.long y2), .second, .val (.ref ea)] [(.ref ea)])
    refine Dn.st (fun t q => XS.dup X4.here hx rfl (hb hby d5_34) rfl rfl q) ?_
    show Dn p e below s _ _ _ T4 (mkF m 35 #[.val (.ref a1), .val (.long y1), .second, .val (.long y2), .second, .val (.ref ea)] [(.ref ea), (.ref ea)])
    refine Dn.st (getFR X4 hx hZ hown (hw _ (List.mem_of_getElem? (i := 102) rfl)) e4 F_permits_ea (g := (mkF m 35 #[.val (.ref a1), .val (.long y1), .second, .val (.long y2), .second, .val (.ref ea)] [(.ref ea), (.ref ea)])) rfl rfl (hb hby d5_35)) ?_
    show Dn p e below s _ _ _ T4 (mkF m 38 #[.val (.ref a1), .val (.long y1), .second, .val (.long y2), .second, .val (.ref ea)] [(.long ep), (.ref ea)])
    refine Dn.st (fun t q => XS.lloadN X4.here hx rfl (hb hby d5_38) rfl  q) ?_
    show Dn p e below s _ _ _ T4 (mkF m 39 #[.val (.ref a1), .val (.long y1), .second, .val (.long y2), .second, .val (.ref ea)] [(.long y2), (.long ep), (.ref ea)])
    refine Dn.st (fun t q => XS.ladd X4.here hx rfl (hb hby d5_39) rfl q) ?_
    show Dn p e below s _ _ _ T4 (mkF m 40 #[.val (.ref a1), .val (.long y1), .second, .val (.long y2), .second, .val (.ref ea)] [(.long (ep + y2)), (.ref ea)])
    obtain ⟨T5, h5, X5, e5, W5, st5⟩ := putFR X4 hx hZ hown (hw _ (List.mem_of_getElem? (i := 102) rfl)) e4 F_permits_ea E_ea (hw _ (List.mem_of_getElem? (i := 79) rfl)) (hw _ (List.mem_of_getElem? (i := 70) rfl)) (ty := .long) (by decide) rfl rfl (g := (mkF m 40 #[.val (.ref a1), .val (.long y1), .second, .val (.long y2), .second, .val (.ref ea)] [(.long (ep + y2)), (.ref ea)])) rfl rfl (hb hby d5_40)
    have N0 := Fr.snoc X5 N0 g_ea
    have Z0 := Nat.le_trans Z0 (Keep.of_wr W5).1
    have K0 := K0.wr W5 (Or.inl (List.mem_of_getElem? (i := 3) rfl))
    have E_a1 := E_a1.wr W5
    have E_q := E_q.wr W5
    have F_entries := F_entries.other W5 (Or.inl (Ne.symm hna.1))
    have F_windowTicks := F_windowTicks.other W5 (Or.inl (Ne.symm hna.1))
    have F_permits := F_permits.other W5 (Or.inl (Ne.symm hna.1))
    have F_elements := F_elements.other W5 (Or.inl (Ne.symm hna.2.1))
    have F_head := F_head.other W5 (Or.inl (Ne.symm hna.2.1))
    have F_tail := F_tail.other W5 (Or.inl (Ne.symm hna.2.1))
    have A := A.other W5 (Ne.symm hna.2.2)
    have E_ea := E_ea.wr W5
    have F_tick_ea := F_tick_ea.other W5 (Or.inr (slot_ne (Or.inr (hw _ (List.mem_of_getElem? (i := 77) rfl))) (Or.inl (hw _ (List.mem_of_getElem? (i := 79) rfl))) (by decide) (t := .long) (t' := .long) (by decide) (by decide)))
    have F_permits_ea := F_permits_ea.same W5
    have En0 := En0.wr W5 hds
    refine Dn.st st5 ?_
    show Dn p e below s _ _ _ T5 (mkF m 43 #[.val (.ref a1), .val (.long y1), .second, .val (.long y2), .second, .val (.ref ea)] [])
    refine Dn.st (fun t q => XS.goto X5.here hx rfl (pc0 := 43) (pc' := 62) rfl (hb hby d5_43) (by decide) (by decide) q) ?_
    show Dn p e below s _ _ _ T5 (mkF m 62 #[.val (.ref a1), .val (.long y1), .second, .val (.long y2), .second, .val (.ref ea)] [])
    refine Dn.st (fun t q => XS.aloadN X5.here hx rfl (hb hby d5_62) rfl rfl  q) ?_
    show Dn p e below s _ _ _ T5 (mkF m 63 #[.val (.ref a1), .val (.long y1), .second, .val (.long y2), .second, .val (.ref ea)] [(.ref a1)])
    refine Dn.st (fun t q => XS.dup X5.here hx rfl (hb hby d5_63) rfl rfl q) ?_
    show Dn p e below s _ _ _ T5 (mkF m 64 #[.val (.ref a1), .val (.long y1), .second, .val (.long y2), .second, .val (.ref ea)] [(.ref a1), (.ref a1)])
    obtain ⟨T6, X6, e6, st6⟩ := getF X5 hx hZ hown (host := "") (Or.inl (hw _ (List.mem_of_getElem? (i := 89) rfl))) Via.refl e5 F_permits (g := (mkF m 64 #[.val (.ref a1), .val (.long y1), .second, .val (.long y2), .second, .val (.ref ea)] [(.ref a1), (.ref a1)])) rfl rfl (hb hby d5_64)
    refine Dn.st st6 ?_
    show Dn p e below s _ _ _ T6 (mkF m 67 #[.val (.ref a1), .val (.long y1), .second, .val (.long y2), .second, .val (.ref ea)] [(.long yp), (.ref a1)])
    refine Dn.st (fun t q => XS.lloadN X6.here hx rfl (hb hby d5_67) rfl  q) ?_
    show Dn p e below s _ _ _ T6 (mkF m 68 #[.val (.ref a1), .val (.long y1), .second, .val (.long y2), .second, .val (.ref ea)] [(.long y2), (.long yp), (.ref a1)])
    refine Dn.st (fun t q => XS.ladd X6.here hx rfl (hb hby d5_68) rfl q) ?_
    show Dn p e below s _ _ _ T6 (mkF m 69 #[.val (.ref a1), .val (.long y1), .second, .val (.long y2), .second, .val (.ref ea)] [(.long (yp + y2)), (.ref a1)])
    obtain ⟨T7, h7, X7, e7, W7, st7⟩ := putF X6 hx hZ hown (host := "") (Or.inl (hw _ (List.mem_of_getElem? (i := 89) rfl))) Via.refl e6 F_permits E_a1 (Or.inl (hw _ (List.mem_of_getElem? (i := 90) rfl))) (hw _ (List.mem_of_getElem? (i := 5) rfl)) (ty := .long) (by decide) rfl rfl (g := (mkF m 69 #[.val (.ref a1), .val (.long y1), .second, .val (.long y2), .second, .val (.ref ea)] [(.long (yp + y2)), (.ref a1)])) rfl rfl (hb hby d5_69)
    have N0 := Fr.snoc X7 N0 g_a1
    have Z0 := Nat.le_trans Z0 (Keep.of_wr W7).1
    have K0 := K0.wr W7 (Or.inl (List.mem_of_getElem? (i := 0) rfl))
    have E_a1 := E_a1.wr W7
    have E_q := E_q.wr W7
    have F_entries := F_entries.other W7 (Or.inr (slot_ne (Or.inr (hw _ (List.mem_of_getElem? (i := 32) rfl))) (Or.inl (hw _ (List.mem_of_getElem? (i := 90) rfl))) (by decide) (t := (.object "java/util/ArrayDeque")) (t' := .long) (by decide) (by decide)))
    have F_windowTicks := F_windowTicks.other W7 (Or.inr (slot_ne (Or.inr (hw _ (List.mem_of_getElem? (i := 38) rfl))) (Or.inl (hw _ (List.mem_of_getElem? (i := 90) rfl))) (by decide) (t := .long) (t' := .long) (by decide) (by decide)))
    have F_permits := F_permits.same W7
    have F_elements := F_elements.other W7 (Or.inl (Ne.symm ne_a1_qd))
    have F_head := F_head.other W7 (Or.inl (Ne.symm ne_a1_qd))
    have F_tail := F_tail.other W7 (Or.inl (Ne.symm ne_a1_qd))
    have A := A.other W7 (Ne.symm ne_a1_ar)
    have E_ea := E_ea.wr W7
    have F_tick_ea := F_tick_ea.other W7 (Or.inl hna.1)
    have F_permits_ea := F_permits_ea.other W7 (Or.inl hna.1)
    have En0 := En0.wr W7 (own_off1 hn0)
    refine Dn.st st7 ?_
    show Dn p e below s _ _ _ T7 (mkF m 72 #[.val (.ref a1), .val (.long y1), .second, .val (.long y2), .second, .val (.ref ea)] [])
    have A : AryO Z h7 ar 17 (own_at hd (eh ++ [(ea, et, ep + y2)])) := A.congr (fun j _ => by rw [he]; exact own_at_upd ea et ep (ep + y2) j)
    exact Dn.retV X7 hx Bd.notSynchronized Bd.returns (hb hby d5_72) (by rw [e7]; exact ⟨_, rfl, N0, K0, own_add_same he hc, En0.app (Ens.one E_ea F_tick_ea F_permits_ea), xt, own_tl0 hxt he, F_entries, F_windowTicks, F_permits, F_elements, F_head, F_tail, A⟩) (by decide) (by decide)
  · refine Dn.st (fun t q => XS.ifYes X4.here hx rfl (pc0 := 29) (pc' := 46) rfl (hb hby d5_29) rfl ((if0 _ _).trans (feq (mt (lw_eq _ _).mp hc)).2) (by decide) (by decide) q) ?_
    show Dn p e below s _ _ _ T4 (mkF m 46 #[.val (.ref a1), .val (.long y1), .second, .val (.long y2), .second, .val (.ref ea)] [])
    refine Dn.st (fun t q => XS.aloadN X4.here hx rfl (hb hby d5_46) rfl rfl  q) ?_
    show Dn p e below s _ _ _ T4 (mkF m 47 #[.val (.ref a1), .val (.long y1), .second, .val (.long y2), .second, .val (.ref ea)] [(.ref a1)])
    obtain ⟨T8, X8, e8, st8⟩ := getF X4 hx hZ hown (host := "") (Or.inl (hw _ (List.mem_of_getElem? (i := 31) rfl))) Via.refl e4 F_entries (g := (mkF m 47 #[.val (.ref a1), .val (.long y1), .second, .val (.long y2), .second, .val (.ref ea)] [(.ref a1)])) rfl rfl (hb hby d5_47)
    refine Dn.st st8 ?_
    show Dn p e below s _ _ _ T8 (mkF m 50 #[.val (.ref a1), .val (.long y1), .second, .val (.long y2), .second, .val (.ref ea)] [(.ref qd)])
    obtain ⟨T9, h9, X9, e9, E9, A9, D9, -, st9⟩ := newO X8 hx hZ hown (hw _ (List.mem_of_getElem? (i := 69) rfl)) (hw _ (List.mem_of_getElem? (i := 70) rfl)) (hw _ (List.mem_of_getElem? (i := 71) rfl)) e8 (g := (mkF m 50 #[.val (.ref a1), .val (.long y1), .second, .val (.long y2), .second, .val (.ref ea)] [(.ref qd)])) rfl (hb hby d5_50) (by decide) (by decide)
    obtain ⟨b1, g9⟩ : ∃ z, z = T1.heap.size := ⟨_, rfl⟩
    rw [← g9] at A9 D9 st9
    have ne_a1_b1 : a1 ≠ b1 := own_ne E_a1.lt g9
    have ne_qd_b1 : qd ≠ b1 := own_ne E_q.lt g9
    have ne_ar_b1 : ar ≠ b1 := own_ne A.lt g9
    have nes_En_b1 := fun z hz => own_ne (En.lt z hz) g9
    have g_b1 : n0 ≤ b1 := Nat.le_trans Z0 (Nat.le_of_eq g9.symm)
    have sz_b1 : h0.size ≤ b1 := Nat.le_trans K0.1 (Nat.le_of_eq g9.symm)
    have Z0 := Nat.le_trans Z0 E9.1
    have K0 := K0.ext E9
    have E_a1 := E_a1.ext E9
    have E_q := E_q.ext E9
    have En := En.ext E9
    have F_entries := F_entries.ext E9
    have F_windowTicks := F_windowTicks.ext E9
    have F_permits := F_permits.ext E9
    have F_elements := F_elements.ext E9
    have F_head := F_head.ext E9
    have F_tail := F_tail.ext E9
    have A := A.ext E9
    have E_b1 := A9
    have F_tick_b1 : Fld Z h9 b1 "com/example/scripted_rate_limiter/scriptedratelimiter/PermitLog$Entry" "tick" "J" (.long (0 : Int64)) := D9 (Or.inr (hw _ (List.mem_of_getElem? (i := 77) rfl))) (ty := .long) (by decide)
    have F_permits_b1 : Fld Z h9 b1 "com/example/scripted_rate_limiter/scriptedratelimiter/PermitLog$Entry" "permits" "J" (.long (0 : Int64)) := D9 (Or.inl (hw _ (List.mem_of_getElem? (i := 79) rfl))) (ty := .long) (by decide)
    refine Dn.st st9 ?_
    show Dn p e below s _ _ _ T9 (mkF m 53 #[.val (.ref a1), .val (.long y1), .second, .val (.long y2), .second, .val (.ref ea)] [(.ref b1), (.ref qd)])
    refine Dn.st (fun t q => XS.dup X9.here hx rfl (hb hby d5_53) rfl rfl q) ?_
    show Dn p e below s _ _ _ T9 (mkF m 54 #[.val (.ref a1), .val (.long y1), .second, .val (.long y2), .second, .val (.ref ea)] [(.ref b1), (.ref b1), (.ref qd)])
    refine Dn.st (fun t q => XS.lloadN X9.here hx rfl (hb hby d5_54) rfl  q) ?_
    show Dn p e below s _ _ _ T9 (mkF m 55 #[.val (.ref a1), .val (.long y1), .second, .val (.long y2), .second, .val (.ref ea)] [(.long y1), (.ref b1), (.ref b1), (.ref qd)])
    refine Dn.st (fun t q => XS.lloadN X9.here hx rfl (hb hby d5_55) rfl  q) ?_
    show Dn p e below s _ _ _ T9 (mkF m 56 #[.val (.ref a1), .val (.long y1), .second, .val (.long y2), .second, .val (.ref ea)] [(.long y2), (.long y1), (.ref b1), (.ref b1), (.ref qd)])
    obtain ⟨_, _, ⟨T10, Lq10, kq_10, nq_10⟩, -, X10, ⟨Lc10, hQ10, lq10, yq10, zq10⟩, st10⟩ := X9.specialBack hx (y := (⟨"com/example/scripted_rate_limiter/scriptedratelimiter/PermitLog$Entry", "<init>", "(JJ)V"⟩ : MethodName)) rfl hown (mvT hZ (hw _ (List.mem_of_getElem? (i := 72) rfl))) (mvT hZ (hw _ (List.mem_of_getElem? (i := 73) rfl))) (mvT hZ (hw _ (List.mem_of_getElem? (i := 74) rfl))) (by decide) (backOf (W := 2) (rm11 l Z a0 hw [] b1 y1 y2 (.long (0 : Int64)) (.long (0 : Int64)) h9 n0 Z0 E_b1 F_tick_b1 F_permits_b1 g_b1) hZ (hw _ (List.mem_of_getElem? (i := 74) rfl)) (hw _ (List.mem_of_getElem? (i := 71) rfl)) (by decide) (by decide)) (g := (mkF m 56 #[.val (.ref a1), .val (.long y1), .second, .val (.long y2), .second, .val (.ref ea)] [(.long y2), (.long y1), (.ref b1), (.ref b1), (.ref qd)])) rfl (by rw [hml]; rfl) (Steps.refl _) (a := b1) (argsL := [(.long y1), (.long y2)]) (rest := [(.ref b1), (.ref qd)]) (lenOf pd_8 rfl) rfl (by show 2 * 0 + _ ≤ _; exact Nat.le_of_eq rfl) (hb hby d5_56) (fun _ _ => ⟨rfl, e9, (by decide : 1 + 0 ≤ _), (by decide : 2 + 0 ≤ _)⟩)
    dsimp only [Pt.U, Pt.locs, Pt.cells, Pt.slots] at X10 lq10 yq10 zq10 st10 hQ10
    subst lq10 yq10 zq10
    obtain ⟨rfl, N10q, K10, F_tick_b1, F_permits_b1⟩ := hQ10
    have N0 := Fr.app N0 N10q
    have Z0 := Nat.le_trans Z0 K10.1
    have K0 := K0.trans K10 (allS (Or.inr sz_b1) all0)
    have E_a1 := E_a1.keep K10
    have E_q := E_q.keep K10
    have En := En.keep K10 (fun z hz => (ninS (nes_En_b1 z hz) nin0))
    have F_entries := F_entries.keep K10 (ninS ne_a1_b1 nin0)
    have F_windowTicks := F_windowTicks.keep K10 (ninS ne_a1_b1 nin0)
    have F_permits := F_permits.keep K10 (ninS ne_a1_b1 nin0)
    have F_elements := F_elements.keep K10 (ninS ne_qd_b1 nin0)
    have F_head := F_head.keep K10 (ninS ne_qd_b1 nin0)
    have F_tail := F_tail.keep K10 (ninS ne_qd_b1 nin0)
    have A := A.keep K10 (ninS ne_ar_b1 nin0)
    have E_b1 := E_b1.keep K10
    refine Dn.tr st10 ?_
    show Dn p e below s _ _ _ T10 (mkF m 59 #[.val (.ref a1), .val (.long y1), .second, .val (.long y2), .second, .val (.ref ea)] [(.ref b1), (.ref qd)])
    obtain ⟨cq11, kq11, q11a, q11b, q11c⟩ := isOf hZ rfl E_q
    obtain ⟨_, _, ⟨T11, Lq11, kq_11, nq_11⟩, -, X11, ⟨Lc11, hQ11, lq11, yq11, zq11⟩, st11⟩ := X10.virtualBack hx (y := (⟨"java/util/ArrayDeque", "addLast", "(Ljava/lang/Object;)V"⟩ : MethodName)) (z := (⟨"java/util/ArrayDeque", "addLast", "(Ljava/lang/Object;)V"⟩ : MethodName)) hown (mvT hZ (hw _ (List.mem_of_getElem? (i := 80) rfl))) (mvT hZ (hw _ (List.mem_of_getElem? (i := 81) rfl))) (notFace_of_selects (args := #[]) (mvT hZ (hw _ (List.mem_of_getElem? (i := 83) rfl)))) (mvT hZ (hw _ (List.mem_of_getElem? (i := 83) rfl))) (mvT hZ (hw _ (List.mem_of_getElem? (i := 82) rfl))) (by decide) (backOf (W := 0) (rm12 l Z a0 hw [] qd b1 ar xh xt (own_at hd es) (hd + (es).length) T10.heap n0 Z0 E_q F_elements F_head F_tail A ne_qd_ar g_qd g_ar hxt (own_b16' hbe) (own_xne2 hxh hxt hbe) (Ins.of_exa E_b1 (hw _ (List.mem_of_getElem? (i := 85) rfl)))) hZ (hw _ (List.mem_of_getElem? (i := 84) rfl)) (hw _ (List.mem_of_getElem? (i := 16) rfl)) (by decide) (by decide)) q11a q11c (g := (mkF m 59 #[.val (.ref a1), .val (.long y1), .second, .val (.long y2), .second, .val (.ref ea)] [(.ref b1), (.ref qd)])) rfl (by rw [hml]; rfl) (Steps.refl _) (argsL := [(.ref b1)]) (rest := []) (lenOf pd_9 rfl) rfl (by show 2 * 0 + _ ≤ _; exact Nat.le_of_eq rfl) (hb hby d5_59) (fun _ _ => ⟨rfl, rfl, (by decide : 1 + 0 ≤ _), (by decide : 2 + 0 ≤ _)⟩)
    dsimp only [Pt.U, Pt.locs, Pt.cells, Pt.slots] at X11 lq11 yq11 zq11 st11 hQ11
    subst lq11 yq11 zq11
    obtain ⟨rfl, N11q, K11, F_elements, F_head, F_tail, A⟩ := hQ11
    have N0 := Fr.app N0 N11q
    have Z0 := Nat.le_trans Z0 K11.1
    have K0 := K0.trans K11 (allS (Or.inl (List.mem_of_getElem? (i := 1) rfl)) (allS (Or.inl (List.mem_of_getElem? (i := 2) rfl)) all0))
    have E_a1 := E_a1.keep K11
    have E_q := E_q.keep K11
    have En := En.keep K11 (fun z hz => (ninS ((own_off2 hne) z hz) (ninS ((own_off3 hne) z hz) nin0)))
    have F_entries := F_entries.keep K11 (ninS ne_a1_qd (ninS ne_a1_ar nin0))
    have F_windowTicks := F_windowTicks.keep K11 (ninS ne_a1_qd (ninS ne_a1_ar nin0))
    have F_permits := F_permits.keep K11 (ninS ne_a1_qd (ninS ne_a1_ar nin0))
    have E_b1 := E_b1.keep K11
    have F_tick_b1 := F_tick_b1.keep K11 (ninS (Ne.symm ne_qd_b1) (ninS (Ne.symm ne_ar_b1) nin0))
    have F_permits_b1 := F_permits_b1.keep K11 (ninS (Ne.symm ne_qd_b1) (ninS (Ne.symm ne_ar_b1) nin0))
    have A : AryO Z T11.heap ar 17 (own_at hd (es ++ [(b1, y1, y2)])) := A.congr (fun j _ => own_at_add b1 y1 y2 j)
    refine Dn.tr st11 ?_
    show Dn p e below s _ _ _ T11 (mkF m 62 #[.val (.ref a1), .val (.long y1), .second, .val (.long y2), .second, .val (.ref ea)] [])
    refine Dn.st (fun t q => XS.aloadN X11.here hx rfl (hb hby d5_62) rfl rfl  q) ?_
    show Dn p e below s _ _ _ T11 (mkF m 63 #[.val (.ref a1), .val (.long y1), .second, .val (.long y2), .second, .val (.ref ea)] [(.ref a1)])
    refine Dn.st (fun t q => XS.dup X11.here hx rfl (hb hby d5_63) rfl rfl q) ?_
    show Dn p e below s _ _ _ T11 (mkF m 64 #[.val (.ref a1), .val (.long y1), .second, .val (.long y2), .second, .val (.ref ea)] [(.ref a1), (.ref a1)])
    obtain ⟨T12, X12, e12, st12⟩ := getF X11 hx hZ hown (host := "") (Or.inl (hw _ (List.mem_of_getElem? (i := 89) rfl))) Via.refl rfl F_permits (g := (mkF m 64 #[.val (.ref a1), .val (.long y1), .second, .val (.long y2), .second, .val (.ref ea)] [(.ref a1), (.ref a1)])) rfl rfl (hb hby d5_64)
    refine Dn.st st12 ?_
    show Dn p e below s _ _ _ T12 (mkF m 67 #[.val (.ref a1), .val (.long y1), .second, .val (.long y2), .second, .val (.ref ea)] [(.long yp), (.ref a1)])
    refine Dn.st (fun t q => XS.lloadN X12.here hx rfl (hb hby d5_67) rfl  q) ?_
    show Dn p e below s _ _ _ T12 (mkF m 68 #[.val (.ref a1), .val (.long y1), .second, .val (.long y2), .second, .val (.ref ea)] [(.long y2), (.long yp), (.ref a1)])
    refine Dn.st (fun t q => XS.ladd X12.here hx rfl (hb hby d5_68) rfl q) ?_
    show Dn p e below s _ _ _ T12 (mkF m 69 #[.val (.ref a1), .val (.long y1), .second, .val (.long y2), .second, .val (.ref ea)] [(.long (yp + y2)), (.ref a1)])
    obtain ⟨T13, h13, X13, e13, W13, st13⟩ := putF X12 hx hZ hown (host := "") (Or.inl (hw _ (List.mem_of_getElem? (i := 89) rfl))) Via.refl e12 F_permits E_a1 (Or.inl (hw _ (List.mem_of_getElem? (i := 90) rfl))) (hw _ (List.mem_of_getElem? (i := 5) rfl)) (ty := .long) (by decide) rfl rfl (g := (mkF m 69 #[.val (.ref a1), .val (.long y1), .second, .val (.long y2), .second, .val (.ref ea)] [(.long (yp + y2)), (.ref a1)])) rfl rfl (hb hby d5_69)
    have N0 := Fr.snoc X13 N0 g_a1
    have Z0 := Nat.le_trans Z0 (Keep.of_wr W13).1
    have K0 := K0.wr W13 (Or.inl (List.mem_of_getElem? (i := 0) rfl))
    have E_a1 := E_a1.wr W13
    have E_q := E_q.wr W13
    have En := En.wr W13 (own_off1 hne)
    have F_entries := F_entries.other W13 (Or.inr (slot_ne (Or.inr (hw _ (List.mem_of_getElem? (i := 32) rfl))) (Or.inl (hw _ (List.mem_of_getElem? (i := 90) rfl))) (by decide) (t := (.object "java/util/ArrayDeque")) (t' := .long) (by decide) (by decide)))
    have F_windowTicks := F_windowTicks.other W13 (Or.inr (slot_ne (Or.inr (hw _ (List.mem_of_getElem? (i := 38) rfl))) (Or.inl (hw _ (List.mem_of_getElem? (i := 90) rfl))) (by decide) (t := .long) (t' := .long) (by decide) (by decide)))
    have F_permits := F_permits.same W13
    have E_b1 := E_b1.wr W13
    have F_tick_b1 := F_tick_b1.other W13 (Or.inl (Ne.symm ne_a1_b1))
    have F_permits_b1 := F_permits_b1.other W13 (Or.inl (Ne.symm ne_a1_b1))
    have F_elements := F_elements.other W13 (Or.inl (Ne.symm ne_a1_qd))
    have F_head := F_head.other W13 (Or.inl (Ne.symm ne_a1_qd))
    have F_tail := F_tail.other W13 (Or.inl (Ne.symm ne_a1_qd))
    have A := A.other W13 (Ne.symm ne_a1_ar)
    refine Dn.st st13 ?_
    show Dn p e below s _ _ _ T13 (mkF m 72 #[.val (.ref a1), .val (.long y1), .second, .val (.long y2), .second, .val (.ref ea)] [])
    exact Dn.retV X13 hx Bd.notSynchronized Bd.returns (hb hby d5_72) (by rw [e13]; exact ⟨_, rfl, N0, K0, own_add_new sz_b1 (own_difft he hc), En.app (Ens.one E_b1 F_tick_b1 F_permits_b1), _, own_tl1 hxt hbe, F_entries, F_windowTicks, F_permits, F_elements, F_head, F_tail, A⟩) (by decide) (by decide)
theorem d18_0 : decode prog_17_method_8_code 0 = .ok (.aload_n 0, 1) := by decide +kernel
theorem d18_1 : decode prog_17_method_8_code 1 = .ok (.getfield 10, 3) := by decide +kernel
theorem d18_4 : decode prog_17_method_8_code 4 = .ok (.invokevirtual 107, 3) := by decide +kernel
theorem pd_10 : parseMethodDescriptor "()I" = some ⟨[], some .int⟩ := by decide +kernel
theorem d18_7 : decode prog_17_method_8_code 7 = .ok (.ireturn, 1) := by decide +kernel
theorem ef_rm18 (m : MethodId) (x0 : Addr) : entryFrame m #[(.ref x0)] 1 = mkF m 0 #[.val (.ref x0)] [] := by first | (simp [entryFrame, mkF, argsToLocals, Value.category]; done) | rfl
def Q18 (Z : State) (a1 : Addr) (qd : Addr) (ar : Addr) (xh : Int32) (xt : Int32) (f : Nat → Value) (h0 : Heap) (n0 : Nat) (v : Option Value) (h : Heap) (L : List Loc) : Prop := v = some (.int (own_sub xt xh (Nat.toInt32 17))) ∧ Fr n0 L ∧ h = h0
set_option maxRecDepth 65536 in
set_option maxHeartbeats 40000000 in
theorem rm18 (l : Launch) (Z : State) (a0 : Array Value) (hw : ∀ d ∈ tables_1, d.before a0 Z = true) (ws : List Jvm.Cond) (a1 : Addr) (qd : Addr) (ar : Addr) (xh : Int32) (xt : Int32) (f : Nat → Value) (h0 : Heap) (n0 : Nat) (Z0 : n0 ≤ h0.size) (F_entries : Fld Z h0 a1 "com/example/scripted_rate_limiter/scriptedratelimiter/PermitLog" "entries" "Ljava/util/ArrayDeque;" (.ref qd)) (E_q : Exa Z h0 qd "java/util/ArrayDeque") (F_elements : Fld Z h0 qd "java/util/ArrayDeque" "elements" "[Ljava/lang/Object;" (.ref ar)) (F_head : Fld Z h0 qd "java/util/ArrayDeque" "head" "I" (.int xh)) (F_tail : Fld Z h0 qd "java/util/ArrayDeque" "tail" "I" (.int xt)) (A : AryO Z h0 ar 17 f) :
    MetFree l (⟨"com/example/scripted_rate_limiter/scriptedratelimiter/PermitLog", "size", "()I"⟩ : MethodName) (head1 (Jvm.Cond.code (⟨"com/example/scripted_rate_limiter/scriptedratelimiter/PermitLog", "size", "()I"⟩ : MethodName) prog_17_method_8_code 1 (some .int) :: ws) ({ frames := 2, cells := 0, slots := 0, locals := 26 } : Room)) (fun a U => a = #[(.ref a1)] ∧ Z.Warmed39 U.vm ∧ U.heap = h0) (fun _ _ _ _ _ => True) (fun _ U o U' => ∃ v L, o = .returned v ∧ Q18 Z a1 qd ar xh xt f h0 n0 v U'.heap L ∧ FrameEnd U o U' L ({ frames := 2, cells := 0, slots := 0, locals := 26 } : Room).cells ({ frames := 2, cells := 0, slots := 0, locals := 26 } : Room).slots) := by
  refine MetFree.of_bodySF (plainFor_of_name pn_1) hisR ?_
  intro p e s m args below meth c s₁ Bd hml0 hP hK
  obtain ⟨rfl, hZ, hh⟩ := hP
  have hx := Bd.exec
  have hby := Bd.bytes
  have hml : c.maxLocals = 1 := hml0
  have hown : s.vm.findClass "com/example/scripted_rate_limiter/scriptedratelimiter/PermitLog" = some m.cls := findClass_of_methodNamed Bd.named
  have hnm := (name_of_methodNamed Bd.named Bd.method).1
  have X0 : Stand p l e ({ frames := 2, cells := 0, slots := 0, locals := 26 } : Room) s m #[(.ref a1)] below meth c s₁ [] 0 0 := Stand.of_body Bd
  have e0 : s₁.heap = h0 := by rw [← hh, Bd.state]; rfl
  have N0 := Fr.nil n0
  have K0 := Keep.refl h0 []
  suffices hD : Dn p e below s (Q18 Z a1 qd ar xh xt f h0 n0) ({ frames := 2, cells := 0, slots := 0, locals := 26 } : Room).cells ({ frames := 2, cells := 0, slots := 0, locals := 26 } : Room).slots s₁ (mkF m 0 #[.val (.ref a1)] []) from by
    obtain ⟨s₂, o, q1, q2⟩ := hD
    exact ⟨s₂, o, castTop (ef_rm18 m a1) q1, q2⟩
  refine Dn.st (fun t q => XS.aloadN X0.here hx rfl (hb hby d18_0) rfl rfl  q) ?_
  show Dn p e below s _ _ _ s₁ (mkF m 1 #[.val (.ref a1)] [(.ref a1)])
  obtain ⟨T1, X1, e1, st1⟩ := getF X0 hx hZ hown (host := "") (Or.inl (hw _ (List.mem_of_getElem? (i := 31) rfl))) Via.refl e0 F_entries (g := (mkF m 1 #[.val (.ref a1)] [(.ref a1)])) rfl rfl (hb hby d18_1)
  refine Dn.st st1 ?_
  show Dn p e below s _ _ _ T1 (mkF m 4 #[.val (.ref a1)] [(.ref qd)])
  obtain ⟨cq2, kq2, q2a, q2b, q2c⟩ := isOf hZ e1 E_q
  obtain ⟨_, _, ⟨T2, Lq2, kq_2, nq_2⟩, -, X2, ⟨Lc2, hQ2, lq2, yq2, zq2⟩, st2⟩ := X1.virtualBack hx (y := (⟨"java/util/ArrayDeque", "size", "()I"⟩ : MethodName)) (z := (⟨"java/util/ArrayDeque", "size", "()I"⟩ : MethodName)) hown (mvT hZ (hw _ (List.mem_of_getElem? (i := 119) rfl))) (mvT hZ (hw _ (List.mem_of_getElem? (i := 120) rfl))) (notFace_of_selects (args := #[]) (mvT hZ (hw _ (List.mem_of_getElem? (i := 122) rfl)))) (mvT hZ (hw _ (List.mem_of_getElem? (i := 122) rfl))) (mvT hZ (hw _ (List.mem_of_getElem? (i := 121) rfl))) (by decide) (backOf (W := 0) (rm19 l Z a0 hw [] qd ar xh xt f h0 n0 Z0 F_elements F_head F_tail A) hZ (hw _ (List.mem_of_getElem? (i := 123) rfl)) (hw _ (List.mem_of_getElem? (i := 16) rfl)) (by decide) (by decide)) q2a q2c (g := (mkF m 4 #[.val (.ref a1)] [(.ref qd)])) rfl (by rw [hml]; rfl) (Steps.refl _) (argsL := []) (rest := []) (lenOf pd_10 rfl) rfl (by show 2 * 0 + _ ≤ _; exact Nat.le_of_eq rfl) (hb hby d18_4) (fun _ _ => ⟨rfl, e1, (by decide : 0 + 0 ≤ _), (by decide : 0 + 0 ≤ _)⟩)
  dsimp only [Pt.U, Pt.locs, Pt.cells, Pt.slots] at X2 lq2 yq2 zq2 st2 hQ2
  subst lq2 yq2 zq2
  obtain ⟨rfl, N2q, hq2⟩ := hQ2
  have N0 := Fr.app N0 N2q
  have e2 : T2.heap = h0 := hq2
  refine Dn.tr st2 ?_
  show Dn p e below s _ _ _ T2 (mkF m 7 #[.val (.ref a1)] [(.int (own_sub xt xh (Nat.toInt32 17)))])
  exact Dn.retI X2 hx Bd.notSynchronized Bd.returns (hb hby d18_7) (by rw [e2]; exact ⟨rfl, N0, rfl⟩) (by decide) (by decide)
theorem d23_0 : decode jdk_54_method_1_code 0 = .ok (.aload_n 0, 1) := by decide +kernel
theorem d23_1 : decode jdk_54_method_1_code 1 = .ok (.aload_n 1, 1) := by decide +kernel
theorem d23_2 : decode jdk_54_method_1_code 2 = .ok (.putfield 1, 3) := by decide +kernel
theorem d23_5 : decode jdk_54_method_1_code 5 = .ok (.aload_n 0, 1) := by decide +kernel
theorem d23_6 : decode jdk_54_method_1_code 6 = .ok (.invokespecial 7, 3) := by decide +kernel
theorem d23_9 : decode jdk_54_method_1_code 9 = .ok (.aload_n 0, 1) := by decide +kernel
theorem d23_10 : decode jdk_54_method_1_code 10 = .ok (.aload_n 0, 1) := by decide +kernel
theorem d23_11 : decode jdk_54_method_1_code 11 = .ok (.getfield 1, 3) := by decide +kernel
theorem d23_14 : decode jdk_54_method_1_code 14 = .ok (.invokevirtual 13, 3) := by decide +kernel
theorem d23_17 : decode jdk_54_method_1_code 17 = .ok (.putfield 19, 3) := by decide +kernel
theorem d23_20 : decode jdk_54_method_1_code 20 = .ok (.aload_n 0, 1) := by decide +kernel
theorem d23_21 : decode jdk_54_method_1_code 21 = .ok (.iconst (-1), 1) := by decide +kernel
theorem d23_22 : decode jdk_54_method_1_code 22 = .ok (.putfield 23, 3) := by decide +kernel
theorem d23_25 : decode jdk_54_method_1_code 25 = .ok (.aload_n 0, 1) := by decide +kernel
theorem d23_26 : decode jdk_54_method_1_code 26 = .ok (.aload_n 1, 1) := by decide +kernel
theorem d23_27 : decode jdk_54_method_1_code 27 = .ok (.getfield 26, 3) := by decide +kernel
theorem d23_30 : decode jdk_54_method_1_code 30 = .ok (.putfield 29, 3) := by decide +kernel
theorem d23_33 : decode jdk_54_method_1_code 33 = .ok (.return_, 1) := by decide +kernel
theorem pn_4 : plainName "java/util/ArrayDeque$DeqIterator" = true := by first | (simp [plainName, overriddenIn]; done) | decide +kernel
theorem ef_rm23 (m : MethodId) (x0 : Addr) (x1 : Addr) : entryFrame m #[(.ref x0), (.ref x1)] 2 = mkF m 0 #[.val (.ref x0), .val (.ref x1)] [] := by first | (simp [entryFrame, mkF, argsToLocals, Value.category]; done) | rfl
def Q23 (Z : State) (a1 : Addr) (a2 : Addr) (ar : Addr) (xh : Int32) (xt : Int32) (f : Nat → Value) (u0 : Value) (u1 : Value) (u2 : Value) (u3 : Value) (h0 : Heap) (n0 : Nat) (v : Option Value) (h : Heap) (L : List Loc) : Prop := v = none ∧ Fr n0 L ∧ Keep h0 h [a1] ∧ Fld Z h a1 "java/util/ArrayDeque$DeqIterator" "this$0" "Ljava/util/ArrayDeque;" (.ref a2) ∧ Fld Z h a1 "java/util/ArrayDeque$DeqIterator" "remaining" "I" (.int (own_sub xt xh (Nat.toInt32 17))) ∧ Fld Z h a1 "java/util/ArrayDeque$DeqIterator" "cursor" "I" (.int xh) ∧ Fld Z h a1 "java/util/ArrayDeque$DeqIterator" "lastRet" "I" (.int (-1 : Int32))
set_option maxRecDepth 65536 in
set_option maxHeartbeats 40000000 in
theorem rm23 (l : Launch) (Z : State) (a0 : Array Value) (hw : ∀ d ∈ tables_1, d.before a0 Z = true) (ws : List Jvm.Cond) (a1 : Addr) (a2 : Addr) (ar : Addr) (xh : Int32) (xt : Int32) (f : Nat → Value) (u0 : Value) (u1 : Value) (u2 : Value) (u3 : Value) (h0 : Heap) (n0 : Nat) (Z0 : n0 ≤ h0.size) (E_a1 : Exa Z h0 a1 "java/util/ArrayDeque$DeqIterator") (E_a2 : Exa Z h0 a2 "java/util/ArrayDeque") (F_this : Fld Z h0 a1 "java/util/ArrayDeque$DeqIterator" "this$0" "Ljava/util/ArrayDeque;" u0) (F_rem : Fld Z h0 a1 "java/util/ArrayDeque$DeqIterator" "remaining" "I" u1) (F_cur : Fld Z h0 a1 "java/util/ArrayDeque$DeqIterator" "cursor" "I" u2) (F_last : Fld Z h0 a1 "java/util/ArrayDeque$DeqIterator" "lastRet" "I" u3) (F_elements : Fld Z h0 a2 "java/util/ArrayDeque" "elements" "[Ljava/lang/Object;" (.ref ar)) (F_head : Fld Z h0 a2 "java/util/ArrayDeque" "head" "I" (.int xh)) (F_tail : Fld Z h0 a2 "java/util/ArrayDeque" "tail" "I" (.int xt)) (A : AryO Z h0 ar 17 f) (ne_a1_a2 : a1 ≠ a2) (ne_a1_ar : a1 ≠ ar) (g_a1 : n0 ≤ a1) :
    MetFree l (⟨"java/util/ArrayDeque$DeqIterator", "<init>", "(Ljava/util/ArrayDeque;)V"⟩ : MethodName) (head1 (Jvm.Cond.code (⟨"java/util/ArrayDeque$DeqIterator", "<init>", "(Ljava/util/ArrayDeque;)V"⟩ : MethodName) jdk_54_method_1_code 2 none :: ws) ({ frames := 2, cells := 0, slots := 0, locals := 27 } : Room)) (fun a U => a = #[(.ref a1), (.ref a2)] ∧ Z.Warmed39 U.vm ∧ U.heap = h0) (fun _ _ _ _ _ => True) (fun _ U o U' => ∃ v L, o = .returned v ∧ Q23 Z a1 a2 ar xh xt f u0 u1 u2 u3 h0 n0 v U'.heap L ∧ FrameEnd U o U' L ({ frames := 2, cells := 0, slots := 0, locals := 27 } : Room).cells ({ frames := 2, cells := 0, slots := 0, locals := 27 } : Room).slots) := by
  refine MetFree.of_bodySF (plainFor_of_name pn_4) hisR ?_
  intro p e s m args below meth c s₁ Bd hml0 hP hK
  obtain ⟨rfl, hZ, hh⟩ := hP
  have hx := Bd.exec
  have hby := Bd.bytes
  have hml : c.maxLocals = 2 := hml0
  have hown : s.vm.findClass "java/util/ArrayDeque$DeqIterator" = some m.cls := findClass_of_methodNamed Bd.named
  have hnm := (name_of_methodNamed Bd.named Bd.method).1
  have X0 : Stand p l e ({ frames := 2, cells := 0, slots := 0, locals := 27 } : Room) s m #[(.ref a1), (.ref a2)] below meth c s₁ [] 0 0 := Stand.of_body Bd
  have e0 : s₁.heap = h0 := by rw [← hh, Bd.state]; rfl
  have N0 := Fr.nil n0
  have K0 := Keep.refl h0 [a1]
  suffices hD : Dn p e below s (Q23 Z a1 a2 ar xh xt f u0 u1 u2 u3 h0 n0) ({ frames := 2, cells := 0, slots := 0, locals := 27 } : Room).cells ({ frames := 2, cells := 0, slots := 0, locals := 27 } : Room).slots s₁ (mkF m 0 #[.val (.ref a1), .val (.ref a2)] []) from by
    obtain ⟨s₂, o, q1, q2⟩ := hD
    exact ⟨s₂, o, castTop (ef_rm23 m a1 a2) q1, q2⟩
  refine Dn.st (fun t q => XS.aloadN X0.here hx rfl (hb hby d23_0) rfl rfl  q) ?_
  show Dn p e below s _ _ _ s₁ (mkF m 1 #[.val (.ref a1), .val (.ref a2)] [(.ref a1)])
  refine Dn.st (fun t q => XS.aloadN X0.here hx rfl (hb hby d23_1) rfl rfl  q) ?_
  show Dn p e below s _ _ _ s₁ (mkF m 2 #[.val (.ref a1), .val (.ref a2)] [(.ref a2), (.ref a1)])
  obtain ⟨T1, h1, X1, e1, W1, st1⟩ := putF X0 hx hZ hown (host := "") (Or.inl (hw _ (List.mem_of_getElem? (i := 144) rfl))) Via.refl e0 F_this E_a1 (Or.inr ⟨(hw _ (List.mem_of_getElem? (i := 145) rfl)), rfl, hnm⟩) (hw _ (List.mem_of_getElem? (i := 138) rfl)) (ty := (.object "java/util/ArrayDeque")) (by decide) rfl rfl (g := (mkF m 2 #[.val (.ref a1), .val (.ref a2)] [(.ref a2), (.ref a1)])) rfl rfl (hb hby d23_2)
  have N0 := Fr.snoc X1 N0 g_a1
  have Z0 := Nat.le_trans Z0 (Keep.of_wr W1).1
  have K0 := K0.wr W1 (Or.inl (List.mem_of_getElem? (i := 0) rfl))
  have E_a1 := E_a1.wr W1
  have E_a2 := E_a2.wr W1
  have F_this := F_this.same W1
  have F_rem := F_rem.other W1 (Or.inr (slot_ne (Or.inl (hw _ (List.mem_of_getElem? (i := 149) rfl))) (Or.inr (hw _ (List.mem_of_getElem? (i := 145) rfl))) (by decide) (t := .int) (t' := (.object "java/util/ArrayDeque")) (by decide) (by decide)))
  have F_cur := F_cur.other W1 (Or.inr (slot_ne (Or.inl (hw _ (List.mem_of_getElem? (i := 154) rfl))) (Or.inr (hw _ (List.mem_of_getElem? (i := 145) rfl))) (by decide) (t := .int) (t' := (.object "java/util/ArrayDeque")) (by decide) (by decide)))
  have F_last := F_last.other W1 (Or.inr (slot_ne (Or.inl (hw _ (List.mem_of_getElem? (i := 151) rfl))) (Or.inr (hw _ (List.mem_of_getElem? (i := 145) rfl))) (by decide) (t := .int) (t' := (.object "java/util/ArrayDeque")) (by decide) (by decide)))
  have F_elements := F_elements.other W1 (Or.inl (Ne.symm ne_a1_a2))
  have F_head := F_head.other W1 (Or.inl (Ne.symm ne_a1_a2))
  have F_tail := F_tail.other W1 (Or.inl (Ne.symm ne_a1_a2))
  have A := A.other W1 (Ne.symm ne_a1_ar)
  refine Dn.st st1 ?_
  show Dn p e below s _ _ _ T1 (mkF m 5 #[.val (.ref a1), .val (.ref a2)] [])
  refine Dn.st (fun t q => XS.aloadN X1.here hx rfl (hb hby d23_5) rfl rfl  q) ?_
  show Dn p e below s _ _ _ T1 (mkF m 6 #[.val (.ref a1), .val (.ref a2)] [(.ref a1)])
  obtain ⟨T2, X2, e2, st2⟩ := initO X1 hx hZ hown (hw _ (List.mem_of_getElem? (i := 146) rfl)) (hw _ (List.mem_of_getElem? (i := 12) rfl)) (hw _ (List.mem_of_getElem? (i := 13) rfl)) e1 (g := (mkF m 6 #[.val (.ref a1), .val (.ref a2)] [(.ref a1)])) rfl (by rw [hml]; rfl) rfl (hb hby d23_6) (by decide) (W := 0) (by show 2 * 0 + _ ≤ _; exact Nat.le_of_eq rfl) (by decide)
  refine Dn.st st2 ?_
  show Dn p e below s _ _ _ T2 (mkF m 9 #[.val (.ref a1), .val (.ref a2)] [])
  refine Dn.st (fun t q => XS.aloadN X2.here hx rfl (hb hby d23_9) rfl rfl  q) ?_
  show Dn p e below s _ _ _ T2 (mkF m 10 #[.val (.ref a1), .val (.ref a2)] [(.ref a1)])
  refine Dn.st (fun t q => XS.aloadN X2.here hx rfl (hb hby d23_10) rfl rfl  q) ?_
  show Dn p e below s _ _ _ T2 (mkF m 11 #[.val (.ref a1), .val (.ref a2)] [(.ref a1), (.ref a1)])
  obtain ⟨T3, X3, e3, st3⟩ := getF X2 hx hZ hown (host := "") (Or.inl (hw _ (List.mem_of_getElem? (i := 144) rfl))) Via.refl e2 F_this (g := (mkF m 11 #[.val (.ref a1), .val (.ref a2)] [(.ref a1), (.ref a1)])) rfl rfl (hb hby d23_11)
  refine Dn.st st3 ?_
  show Dn p e below s _ _ _ T3 (mkF m 14 #[.val (.ref a1), .val (.ref a2)] [(.ref a2), (.ref a1)])
  obtain ⟨cq4, kq4, q4a, q4b, q4c⟩ := isOf hZ e3 E_a2
  obtain ⟨_, _, ⟨T4, Lq4, kq_4, nq_4⟩, -, X4, ⟨Lc4, hQ4, lq4, yq4, zq4⟩, st4⟩ := X3.virtualBack hx (y := (⟨"java/util/ArrayDeque", "size", "()I"⟩ : MethodName)) (z := (⟨"java/util/ArrayDeque", "size", "()I"⟩ : MethodName)) hown (mvT hZ (hw _ (List.mem_of_getElem? (i := 147) rfl))) (mvT hZ (hw _ (List.mem_of_getElem? (i := 120) rfl))) (notFace_of_selects (args := #[]) (mvT hZ (hw _ (List.mem_of_getElem? (i := 122) rfl)))) (mvT hZ (hw _ (List.mem_of_getElem? (i := 122) rfl))) (mvT hZ (hw _ (List.mem_of_getElem? (i := 121) rfl))) (by decide) (backOf (W := 1) (rm19 l Z a0 hw [] a2 ar xh xt f h1 n0 Z0 F_elements F_head F_tail A) hZ (hw _ (List.mem_of_getElem? (i := 123) rfl)) (hw _ (List.mem_of_getElem? (i := 16) rfl)) (by decide) (by decide)) q4a q4c (g := (mkF m 14 #[.val (.ref a1), .val (.ref a2)] [(.ref a2), (.ref a1)])) rfl (by rw [hml]; rfl) (Steps.refl _) (argsL := []) (rest := [(.ref a1)]) (lenOf pd_10 rfl) rfl (by show 2 * 0 + _ ≤ _; exact Nat.le_of_eq rfl) (hb hby d23_14) (fun _ _ => ⟨rfl, e3, (by decide : 0 + 0 ≤ _), (by decide : 0 + 0 ≤ _)⟩)
  dsimp only [Pt.U, Pt.locs, Pt.cells, Pt.slots] at X4 lq4 yq4 zq4 st4 hQ4
  subst lq4 yq4 zq4
  obtain ⟨rfl, N4q, hq4⟩ := hQ4
  have N0 := Fr.app N0 N4q
  have e4 : T4.heap = h1 := hq4
  refine Dn.tr st4 ?_
  show Dn p e below s _ _ _ T4 (mkF m 17 #[.val (.ref a1), .val (.ref a2)] [(.int (own_sub xt xh (Nat.toInt32 17))), (.ref a1)])
  obtain ⟨T5, h5, X5, e5, W5, st5⟩ := putF X4 hx hZ hown (host := "") (Or.inl (hw _ (List.mem_of_getElem? (i := 148) rfl))) Via.refl e4 F_rem E_a1 (Or.inl (hw _ (List.mem_of_getElem? (i := 149) rfl))) (hw _ (List.mem_of_getElem? (i := 138) rfl)) (ty := .int) (by decide) rfl rfl (g := (mkF m 17 #[.val (.ref a1), .val (.ref a2)] [(.int (own_sub xt xh (Nat.toInt32 17))), (.ref a1)])) rfl rfl (hb hby d23_17)
  have N0 := Fr.snoc X5 N0 g_a1
  have Z0 := Nat.le_trans Z0 (Keep.of_wr W5).1
  have K0 := K0.wr W5 (Or.inl (List.mem_of_getElem? (i := 0) rfl))
  have E_a1 := E_a1.wr W5
  have E_a2 := E_a2.wr W5
  have F_this := F_this.other W5 (Or.inr (slot_ne (Or.inr (hw _ (List.mem_of_getElem? (i := 145) rfl))) (Or.inl (hw _ (List.mem_of_getElem? (i := 149) rfl))) (by decide) (t := (.object "java/util/ArrayDeque")) (t' := .int) (by decide) (by decide)))
  have F_rem := F_rem.same W5
  have F_cur := F_cur.other W5 (Or.inr (slot_ne (Or.inl (hw _ (List.mem_of_getElem? (i := 154) rfl))) (Or.inl (hw _ (List.mem_of_getElem? (i := 149) rfl))) (by decide) (t := .int) (t' := .int) (by decide) (by decide)))
  have F_last := F_last.other W5 (Or.inr (slot_ne (Or.inl (hw _ (List.mem_of_getElem? (i := 151) rfl))) (Or.inl (hw _ (List.mem_of_getElem? (i := 149) rfl))) (by decide) (t := .int) (t' := .int) (by decide) (by decide)))
  have F_elements := F_elements.other W5 (Or.inl (Ne.symm ne_a1_a2))
  have F_head := F_head.other W5 (Or.inl (Ne.symm ne_a1_a2))
  have F_tail := F_tail.other W5 (Or.inl (Ne.symm ne_a1_a2))
  have A := A.other W5 (Ne.symm ne_a1_ar)
  refine Dn.st st5 ?_
  show Dn p e below s _ _ _ T5 (mkF m 20 #[.val (.ref a1), .val (.ref a2)] [])
  refine Dn.st (fun t q => XS.aloadN X5.here hx rfl (hb hby d23_20) rfl rfl  q) ?_
  show Dn p e below s _ _ _ T5 (mkF m 21 #[.val (.ref a1), .val (.ref a2)] [(.ref a1)])
  refine Dn.st (fun t q => XS.iconst X5.here hx rfl (hb hby d23_21) q) ?_
  show Dn p e below s _ _ _ T5 (mkF m 22 #[.val (.ref a1), .val (.ref a2)] [(.int (-1 : Int32)), (.ref a1)])
  obtain ⟨T6, h6, X6, e6, W6, st6⟩ := putF X5 hx hZ hown (host := "") (Or.inl (hw _ (List.mem_of_getElem? (i := 150) rfl))) Via.refl e5 F_last E_a1 (Or.inl (hw _ (List.mem_of_getElem? (i := 151) rfl))) (hw _ (List.mem_of_getElem? (i := 138) rfl)) (ty := .int) (by decide) rfl rfl (g := (mkF m 22 #[.val (.ref a1), .val (.ref a2)] [(.int (-1 : Int32)), (.ref a1)])) rfl rfl (hb hby d23_22)
  have N0 := Fr.snoc X6 N0 g_a1
  have Z0 := Nat.le_trans Z0 (Keep.of_wr W6).1
  have K0 := K0.wr W6 (Or.inl (List.mem_of_getElem? (i := 0) rfl))
  have E_a1 := E_a1.wr W6
  have E_a2 := E_a2.wr W6
  have F_this := F_this.other W6 (Or.inr (slot_ne (Or.inr (hw _ (List.mem_of_getElem? (i := 145) rfl))) (Or.inl (hw _ (List.mem_of_getElem? (i := 151) rfl))) (by decide) (t := (.object "java/util/ArrayDeque")) (t' := .int) (by decide) (by decide)))
  have F_rem := F_rem.other W6 (Or.inr (slot_ne (Or.inl (hw _ (List.mem_of_getElem? (i := 149) rfl))) (Or.inl (hw _ (List.mem_of_getElem? (i := 151) rfl))) (by decide) (t := .int) (t' := .int) (by decide) (by decide)))
  have F_cur := F_cur.other W6 (Or.inr (slot_ne (Or.inl (hw _ (List.mem_of_getElem? (i := 154) rfl))) (Or.inl (hw _ (List.mem_of_getElem? (i := 151) rfl))) (by decide) (t := .int) (t' := .int) (by decide) (by decide)))
  have F_last := F_last.same W6
  have F_elements := F_elements.other W6 (Or.inl (Ne.symm ne_a1_a2))
  have F_head := F_head.other W6 (Or.inl (Ne.symm ne_a1_a2))
  have F_tail := F_tail.other W6 (Or.inl (Ne.symm ne_a1_a2))
  have A := A.other W6 (Ne.symm ne_a1_ar)
  refine Dn.st st6 ?_
  show Dn p e below s _ _ _ T6 (mkF m 25 #[.val (.ref a1), .val (.ref a2)] [])
  refine Dn.st (fun t q => XS.aloadN X6.here hx rfl (hb hby d23_25) rfl rfl  q) ?_
  show Dn p e below s _ _ _ T6 (mkF m 26 #[.val (.ref a1), .val (.ref a2)] [(.ref a1)])
  refine Dn.st (fun t q => XS.aloadN X6.here hx rfl (hb hby d23_26) rfl rfl  q) ?_
  show Dn p e below s _ _ _ T6 (mkF m 27 #[.val (.ref a1), .val (.ref a2)] [(.ref a2), (.ref a1)])
  obtain ⟨T7, X7, e7, st7⟩ := getF X6 hx hZ hown (host := "") (Or.inl (hw _ (List.mem_of_getElem? (i := 152) rfl))) Via.refl e6 F_head (g := (mkF m 27 #[.val (.ref a1), .val (.ref a2)] [(.ref a2), (.ref a1)])) rfl rfl (hb hby d23_27)
  refine Dn.st st7 ?_
  show Dn p e below s _ _ _ T7 (mkF m 30 #[.val (.ref a1), .val (.ref a2)] [(.int xh), (.ref a1)])
  obtain ⟨T8, h8, X8, e8, W8, st8⟩ := putF X7 hx hZ hown (host := "") (Or.inl (hw _ (List.mem_of_getElem? (i := 153) rfl))) Via.refl e7 F_cur E_a1 (Or.inl (hw _ (List.mem_of_getElem? (i := 154) rfl))) (hw _ (List.mem_of_getElem? (i := 138) rfl)) (ty := .int) (by decide) rfl rfl (g := (mkF m 30 #[.val (.ref a1), .val (.ref a2)] [(.int xh), (.ref a1)])) rfl rfl (hb hby d23_30)
  have N0 := Fr.snoc X8 N0 g_a1
  have Z0 := Nat.le_trans Z0 (Keep.of_wr W8).1
  have K0 := K0.wr W8 (Or.inl (List.mem_of_getElem? (i := 0) rfl))
  have E_a1 := E_a1.wr W8
  have E_a2 := E_a2.wr W8
  have F_this := F_this.other W8 (Or.inr (slot_ne (Or.inr (hw _ (List.mem_of_getElem? (i := 145) rfl))) (Or.inl (hw _ (List.mem_of_getElem? (i := 154) rfl))) (by decide) (t := (.object "java/util/ArrayDeque")) (t' := .int) (by decide) (by decide)))
  have F_rem := F_rem.other W8 (Or.inr (slot_ne (Or.inl (hw _ (List.mem_of_getElem? (i := 149) rfl))) (Or.inl (hw _ (List.mem_of_getElem? (i := 154) rfl))) (by decide) (t := .int) (t' := .int) (by decide) (by decide)))
  have F_cur := F_cur.same W8
  have F_last := F_last.other W8 (Or.inr (slot_ne (Or.inl (hw _ (List.mem_of_getElem? (i := 151) rfl))) (Or.inl (hw _ (List.mem_of_getElem? (i := 154) rfl))) (by decide) (t := .int) (t' := .int) (by decide) (by decide)))
  have F_elements := F_elements.other W8 (Or.inl (Ne.symm ne_a1_a2))
  have F_head := F_head.other W8 (Or.inl (Ne.symm ne_a1_a2))
  have F_tail := F_tail.other W8 (Or.inl (Ne.symm ne_a1_a2))
  have A := A.other W8 (Ne.symm ne_a1_ar)
  refine Dn.st st8 ?_
  show Dn p e below s _ _ _ T8 (mkF m 33 #[.val (.ref a1), .val (.ref a2)] [])
  exact Dn.retV X8 hx Bd.notSynchronized Bd.returns (hb hby d23_33) (by rw [e8]; exact ⟨rfl, N0, K0, F_this, F_rem, F_cur, F_last⟩) (by decide) (by decide)
theorem d22_0 : decode jdk_21_method_39_code 0 = .ok (.new 131, 3) := by decide +kernel
theorem d22_3 : decode jdk_21_method_39_code 3 = .ok (.dup, 1) := by decide +kernel
theorem d22_4 : decode jdk_21_method_39_code 4 = .ok (.aload_n 0, 1) := by decide +kernel
theorem d22_5 : decode jdk_21_method_39_code 5 = .ok (.invokespecial 133, 3) := by decide +kernel
theorem pd_11 : parseMethodDescriptor "(Ljava/util/ArrayDeque;)V" = some ⟨[(.object "java/util/ArrayDeque")], none⟩ := by decide +kernel
theorem d22_8 : decode jdk_21_method_39_code 8 = .ok (.areturn, 1) := by decide +kernel
theorem ef_rm22 (m : MethodId) (x0 : Addr) : entryFrame m #[(.ref x0)] 1 = mkF m 0 #[.val (.ref x0)] [] := by first | (simp [entryFrame, mkF, argsToLocals, Value.category]; done) | rfl
def Q22 (Z : State) (a1 : Addr) (ar : Addr) (xh : Int32) (xt : Int32) (f : Nat → Value) (h0 : Heap) (n0 : Nat) (v : Option Value) (h : Heap) (L : List Loc) : Prop := ∃ b : Addr, v = some (.ref b) ∧ Fr n0 L ∧ Keep h0 h [] ∧ h0.size ≤ b ∧ Exa Z h b "java/util/ArrayDeque$DeqIterator" ∧ Fld Z h b "java/util/ArrayDeque$DeqIterator" "this$0" "Ljava/util/ArrayDeque;" (.ref a1) ∧ Fld Z h b "java/util/ArrayDeque$DeqIterator" "remaining" "I" (.int (own_sub xt xh (Nat.toInt32 17))) ∧ Fld Z h b "java/util/ArrayDeque$DeqIterator" "cursor" "I" (.int xh) ∧ Fld Z h b "java/util/ArrayDeque$DeqIterator" "lastRet" "I" (.int (-1 : Int32))
set_option maxRecDepth 65536 in
set_option maxHeartbeats 40000000 in
theorem rm22 (l : Launch) (Z : State) (a0 : Array Value) (hw : ∀ d ∈ tables_1, d.before a0 Z = true) (ws : List Jvm.Cond) (a1 : Addr) (ar : Addr) (xh : Int32) (xt : Int32) (f : Nat → Value) (h0 : Heap) (n0 : Nat) (Z0 : n0 ≤ h0.size) (E_a1 : Exa Z h0 a1 "java/util/ArrayDeque") (F_elements : Fld Z h0 a1 "java/util/ArrayDeque" "elements" "[Ljava/lang/Object;" (.ref ar)) (F_head : Fld Z h0 a1 "java/util/ArrayDeque" "head" "I" (.int xh)) (F_tail : Fld Z h0 a1 "java/util/ArrayDeque" "tail" "I" (.int xt)) (A : AryO Z h0 ar 17 f) :
    MetFree l (⟨"java/util/ArrayDeque", "iterator", "()Ljava/util/Iterator;"⟩ : MethodName) (head1 (Jvm.Cond.code (⟨"java/util/ArrayDeque", "iterator", "()Ljava/util/Iterator;"⟩ : MethodName) jdk_21_method_39_code 1 (some (.object "java/util/Iterator")) :: ws) ({ frames := 3, cells := 1, slots := 4, locals := 41 } : Room)) (fun a U => a = #[(.ref a1)] ∧ Z.Warmed39 U.vm ∧ U.heap = h0) (fun _ _ _ _ _ => True) (fun _ U o U' => ∃ v L, o = .returned v ∧ Q22 Z a1 ar xh xt f h0 n0 v U'.heap L ∧ FrameEnd U o U' L ({ frames := 3, cells := 1, slots := 4, locals := 41 } : Room).cells ({ frames := 3, cells := 1, slots := 4, locals := 41 } : Room).slots) := by
  refine MetFree.of_bodySF (plainFor_of_name pn_0) hisR ?_
  intro p e s m args below meth c s₁ Bd hml0 hP hK
  obtain ⟨rfl, hZ, hh⟩ := hP
  have hx := Bd.exec
  have hby := Bd.bytes
  have hml : c.maxLocals = 1 := hml0
  have hown : s.vm.findClass "java/util/ArrayDeque" = some m.cls := findClass_of_methodNamed Bd.named
  have hnm := (name_of_methodNamed Bd.named Bd.method).1
  have X0 : Stand p l e ({ frames := 3, cells := 1, slots := 4, locals := 41 } : Room) s m #[(.ref a1)] below meth c s₁ [] 0 0 := Stand.of_body Bd
  have e0 : s₁.heap = h0 := by rw [← hh, Bd.state]; rfl
  have N0 := Fr.nil n0
  have K0 := Keep.refl h0 []
  suffices hD : Dn p e below s (Q22 Z a1 ar xh xt f h0 n0) ({ frames := 3, cells := 1, slots := 4, locals := 41 } : Room).cells ({ frames := 3, cells := 1, slots := 4, locals := 41 } : Room).slots s₁ (mkF m 0 #[.val (.ref a1)] []) from by
    obtain ⟨s₂, o, q1, q2⟩ := hD
    exact ⟨s₂, o, castTop (ef_rm22 m a1) q1, q2⟩
  obtain ⟨T1, h1, X1, e1, E1, A1, D1, -, st1⟩ := newO X0 hx hZ hown (hw _ (List.mem_of_getElem? (i := 137) rfl)) (hw _ (List.mem_of_getElem? (i := 138) rfl)) (hw _ (List.mem_of_getElem? (i := 139) rfl)) e0 (g := (mkF m 0 #[.val (.ref a1)] [])) rfl (hb hby d22_0) (by decide) (by decide)
  obtain ⟨b1, g1⟩ : ∃ z, z = h0.size := ⟨_, rfl⟩
  rw [← g1] at A1 D1 st1
  have ne_a1_b1 : a1 ≠ b1 := own_ne E_a1.lt g1
  have ne_ar_b1 : ar ≠ b1 := own_ne A.lt g1
  have g_b1 : n0 ≤ b1 := Nat.le_trans Z0 (Nat.le_of_eq g1.symm)
  have sz_b1 : h0.size ≤ b1 := Nat.le_trans K0.1 (Nat.le_of_eq g1.symm)
  have Z0 := Nat.le_trans Z0 E1.1
  have K0 := K0.ext E1
  have E_a1 := E_a1.ext E1
  have F_elements := F_elements.ext E1
  have F_head := F_head.ext E1
  have F_tail := F_tail.ext E1
  have A := A.ext E1
  have E_b1 := A1
  have F_this_0_b1 : Fld Z h1 b1 "java/util/ArrayDeque$DeqIterator" "this$0" "Ljava/util/ArrayDeque;" .null := D1 (Or.inr (hw _ (List.mem_of_getElem? (i := 145) rfl))) (ty := (.object "java/util/ArrayDeque")) (by decide)
  have F_remaining_b1 : Fld Z h1 b1 "java/util/ArrayDeque$DeqIterator" "remaining" "I" (.int (0 : Int32)) := D1 (Or.inl (hw _ (List.mem_of_getElem? (i := 149) rfl))) (ty := .int) (by decide)
  have F_lastRet_b1 : Fld Z h1 b1 "java/util/ArrayDeque$DeqIterator" "lastRet" "I" (.int (0 : Int32)) := D1 (Or.inl (hw _ (List.mem_of_getElem? (i := 151) rfl))) (ty := .int) (by decide)
  have F_cursor_b1 : Fld Z h1 b1 "java/util/ArrayDeque$DeqIterator" "cursor" "I" (.int (0 : Int32)) := D1 (Or.inl (hw _ (List.mem_of_getElem? (i := 154) rfl))) (ty := .int) (by decide)
  refine Dn.st st1 ?_
  show Dn p e below s _ _ _ T1 (mkF m 3 #[.val (.ref a1)] [(.ref b1)])
  refine Dn.st (fun t q => XS.dup X1.here hx rfl (hb hby d22_3) rfl rfl q) ?_
  show Dn p e below s _ _ _ T1 (mkF m 4 #[.val (.ref a1)] [(.ref b1), (.ref b1)])
  refine Dn.st (fun t q => XS.aloadN X1.here hx rfl (hb hby d22_4) rfl rfl  q) ?_
  show Dn p e below s _ _ _ T1 (mkF m 5 #[.val (.ref a1)] [(.ref a1), (.ref b1), (.ref b1)])
  obtain ⟨_, _, ⟨T2, Lq2, kq_2, nq_2⟩, -, X2, ⟨Lc2, hQ2, lq2, yq2, zq2⟩, st2⟩ := X1.specialBack hx (y := (⟨"java/util/ArrayDeque$DeqIterator", "<init>", "(Ljava/util/ArrayDeque;)V"⟩ : MethodName)) rfl hown (mvT hZ (hw _ (List.mem_of_getElem? (i := 140) rfl))) (mvT hZ (hw _ (List.mem_of_getElem? (i := 141) rfl))) (mvT hZ (hw _ (List.mem_of_getElem? (i := 143) rfl))) (by decide) (backOf (W := 1) (rm23 l Z a0 hw [] b1 a1 ar xh xt f .null (.int (0 : Int32)) (.int (0 : Int32)) (.int (0 : Int32)) h1 n0 Z0 E_b1 E_a1 F_this_0_b1 F_remaining_b1 F_cursor_b1 F_lastRet_b1 F_elements F_head F_tail A (Ne.symm ne_a1_b1) (Ne.symm ne_ar_b1) g_b1) hZ (hw _ (List.mem_of_getElem? (i := 143) rfl)) (hw _ (List.mem_of_getElem? (i := 139) rfl)) (by decide) (by decide)) (g := (mkF m 5 #[.val (.ref a1)] [(.ref a1), (.ref b1), (.ref b1)])) rfl (by rw [hml]; rfl) (Steps.refl _) (a := b1) (argsL := [(.ref a1)]) (rest := [(.ref b1)]) (lenOf pd_11 rfl) rfl (by show 2 * 0 + _ ≤ _; exact Nat.le_of_eq rfl) (hb hby d22_5) (fun _ _ => ⟨rfl, e1, (by decide : 1 + 0 ≤ _), (by decide : 4 + 0 ≤ _)⟩)
  dsimp only [Pt.U, Pt.locs, Pt.cells, Pt.slots] at X2 lq2 yq2 zq2 st2 hQ2
  subst lq2 yq2 zq2
  obtain ⟨rfl, N2q, K2, F_this, F_rem, F_cur, F_last⟩ := hQ2
  have N0 := Fr.app N0 N2q
  have Z0 := Nat.le_trans Z0 K2.1
  have K0 := K0.trans K2 (allS (Or.inr sz_b1) all0)
  have E_a1 := E_a1.keep K2
  have F_elements := F_elements.keep K2 (ninS ne_a1_b1 nin0)
  have F_head := F_head.keep K2 (ninS ne_a1_b1 nin0)
  have F_tail := F_tail.keep K2 (ninS ne_a1_b1 nin0)
  have A := A.keep K2 (ninS ne_ar_b1 nin0)
  have E_b1 := E_b1.keep K2
  refine Dn.tr st2 ?_
  show Dn p e below s _ _ _ T2 (mkF m 8 #[.val (.ref a1)] [(.ref b1)])
  exact Dn.retA X2 hx Bd.notSynchronized Bd.returns rfl rfl (hb hby d22_8) (by exact ⟨b1, rfl, N0, K0, sz_b1, E_b1, F_this, F_rem, F_cur, F_last⟩) (by decide) (by decide)
theorem d24_0 : decode jdk_54_method_2_code 0 = .ok (.aload_n 0, 1) := by decide +kernel
theorem d24_1 : decode jdk_54_method_2_code 1 = .ok (.getfield 19, 3) := by decide +kernel
theorem d24_4 : decode jdk_54_method_2_code 4 = .ok (.ifCond .le 7, 3) := by decide +kernel
theorem d24_7 : decode jdk_54_method_2_code 7 = .ok (.iconst 1, 1) := by decide +kernel
theorem d24_8 : decode jdk_54_method_2_code 8 = .ok (.goto 4, 3) := by decide +kernel
theorem d24_12 : decode jdk_54_method_2_code 12 = .ok (.ireturn, 1) := by decide +kernel
theorem d24_11 : decode jdk_54_method_2_code 11 = .ok (.iconst 0, 1) := by decide +kernel
theorem ef_rm24 (m : MethodId) (x0 : Addr) : entryFrame m #[(.ref x0)] 1 = mkF m 0 #[.val (.ref x0)] [] := by first | (simp [entryFrame, mkF, argsToLocals, Value.category]; done) | rfl
def Q24 (Z : State) (a1 : Addr) (xr : Int32) (h0 : Heap) (n0 : Nat) (v : Option Value) (h : Heap) (L : List Loc) : Prop := v = some (.int (if (0 : Int32) < xr then (1 : Int32) else (0 : Int32))) ∧ Fr n0 L ∧ h = h0
set_option maxRecDepth 65536 in
set_option maxHeartbeats 40000000 in
theorem rm24 (l : Launch) (Z : State) (a0 : Array Value) (hw : ∀ d ∈ tables_1, d.before a0 Z = true) (ws : List Jvm.Cond) (a1 : Addr) (xr : Int32) (h0 : Heap) (n0 : Nat) (Z0 : n0 ≤ h0.size) (F_rem : Fld Z h0 a1 "java/util/ArrayDeque$DeqIterator" "remaining" "I" (.int xr)) :
    MetFree l (⟨"java/util/ArrayDeque$DeqIterator", "hasNext", "()Z"⟩ : MethodName) (head1 (Jvm.Cond.code (⟨"java/util/ArrayDeque$DeqIterator", "hasNext", "()Z"⟩ : MethodName) jdk_54_method_2_code 1 (some .boolean) :: ws) ({ frames := 0, cells := 0, slots := 0, locals := 0 } : Room)) (fun a U => a = #[(.ref a1)] ∧ Z.Warmed39 U.vm ∧ U.heap = h0) (fun _ _ _ _ _ => True) (fun _ U o U' => ∃ v L, o = .returned v ∧ Q24 Z a1 xr h0 n0 v U'.heap L ∧ FrameEnd U o U' L ({ frames := 0, cells := 0, slots := 0, locals := 0 } : Room).cells ({ frames := 0, cells := 0, slots := 0, locals := 0 } : Room).slots) := by
  refine MetFree.of_bodySF (plainFor_of_name pn_4) hisR ?_
  intro p e s m args below meth c s₁ Bd hml0 hP hK
  obtain ⟨rfl, hZ, hh⟩ := hP
  have hx := Bd.exec
  have hby := Bd.bytes
  have hml : c.maxLocals = 1 := hml0
  have hown : s.vm.findClass "java/util/ArrayDeque$DeqIterator" = some m.cls := findClass_of_methodNamed Bd.named
  have hnm := (name_of_methodNamed Bd.named Bd.method).1
  have X0 : Stand p l e ({ frames := 0, cells := 0, slots := 0, locals := 0 } : Room) s m #[(.ref a1)] below meth c s₁ [] 0 0 := Stand.of_body Bd
  have e0 : s₁.heap = h0 := by rw [← hh, Bd.state]; rfl
  have N0 := Fr.nil n0
  have K0 := Keep.refl h0 []
  suffices hD : Dn p e below s (Q24 Z a1 xr h0 n0) ({ frames := 0, cells := 0, slots := 0, locals := 0 } : Room).cells ({ frames := 0, cells := 0, slots := 0, locals := 0 } : Room).slots s₁ (mkF m 0 #[.val (.ref a1)] []) from by
    obtain ⟨s₂, o, q1, q2⟩ := hD
    exact ⟨s₂, o, castTop (ef_rm24 m a1) q1, q2⟩
  refine Dn.st (fun t q => XS.aloadN X0.here hx rfl (hb hby d24_0) rfl rfl  q) ?_
  show Dn p e below s _ _ _ s₁ (mkF m 1 #[.val (.ref a1)] [(.ref a1)])
  obtain ⟨T1, X1, e1, st1⟩ := getF X0 hx hZ hown (host := "") (Or.inl (hw _ (List.mem_of_getElem? (i := 148) rfl))) Via.refl e0 F_rem (g := (mkF m 1 #[.val (.ref a1)] [(.ref a1)])) rfl rfl (hb hby d24_1)
  refine Dn.st st1 ?_
  show Dn p e below s _ _ _ T1 (mkF m 4 #[.val (.ref a1)] [(.int xr)])
  by_cases hc : (0 : Int32) < xr
  · refine Dn.st (fun t q => XS.ifNo X1.here hx rfl (hb hby d24_4) rfl ((if0 _ _).trans (tlt hc).2.2.2) q) ?_
    show Dn p e below s _ _ _ T1 (mkF m 7 #[.val (.ref a1)] [])
    refine Dn.st (fun t q => XS.iconst X1.here hx rfl (hb hby d24_7) q) ?_
    show Dn p e below s _ _ _ T1 (mkF m 8 #[.val (.ref a1)] [(.int (1 : Int32))])
    refine Dn.st (fun t q => XS.goto X1.here hx rfl (pc0 := 8) (pc' := 12) rfl (hb hby d24_8) (by decide) (by decide) q) ?_
    show Dn p e below s _ _ _ T1 (mkF m 12 #[.val (.ref a1)] [(.int (1 : Int32))])
    exact Dn.retZ X1 hx Bd.notSynchronized (t := .boolean) Bd.returns (by simp) (hb hby d24_12) (by rw [e1]; exact ⟨congrArg (fun z => some (Value.int z)) (if_pos hc).symm, N0, rfl⟩) (by decide) (by decide)
  · refine Dn.st (fun t q => XS.ifYes X1.here hx rfl (pc0 := 4) (pc' := 11) rfl (hb hby d24_4) rfl ((if0 _ _).trans (flt hc).2.2.2) (by decide) (by decide) q) ?_
    show Dn p e below s _ _ _ T1 (mkF m 11 #[.val (.ref a1)] [])
    refine Dn.st (fun t q => XS.iconst X1.here hx rfl (hb hby d24_11) q) ?_
    show Dn p e below s _ _ _ T1 (mkF m 12 #[.val (.ref a1)] [(.int (0 : Int32))])
    exact Dn.retZ X1 hx Bd.notSynchronized (t := .boolean) Bd.returns (by simp) (hb hby d24_12) (by rw [e1]; exact ⟨congrArg (fun z => some (Value.int z)) (if_neg hc).symm, N0, rfl⟩) (by decide) (by decide)
theorem d25_0 : decode jdk_54_method_3_code 0 = .ok (.aload_n 0, 1) := by decide +kernel
theorem d25_1 : decode jdk_54_method_3_code 1 = .ok (.getfield 19, 3) := by decide +kernel
theorem d25_4 : decode jdk_54_method_3_code 4 = .ok (.ifCond .gt 11, 3) := by decide +kernel
theorem d25_15 : decode jdk_54_method_3_code 15 = .ok (.aload_n 0, 1) := by decide +kernel
theorem d25_16 : decode jdk_54_method_3_code 16 = .ok (.getfield 1, 3) := by decide +kernel
theorem d25_19 : decode jdk_54_method_3_code 19 = .ok (.getfield 35, 3) := by decide +kernel
theorem d25_22 : decode jdk_54_method_3_code 22 = .ok (.astore_n 1, 1) := by decide +kernel
theorem d25_23 : decode jdk_54_method_3_code 23 = .ok (.aload_n 1, 1) := by decide +kernel
theorem d25_24 : decode jdk_54_method_3_code 24 = .ok (.aload_n 0, 1) := by decide +kernel
theorem d25_25 : decode jdk_54_method_3_code 25 = .ok (.getfield 29, 3) := by decide +kernel
theorem d25_28 : decode jdk_54_method_3_code 28 = .ok (.invokestatic 39, 3) := by decide +kernel
theorem d25_31 : decode jdk_54_method_3_code 31 = .ok (.astore_n 2, 1) := by decide +kernel
theorem d25_32 : decode jdk_54_method_3_code 32 = .ok (.aload_n 0, 1) := by decide +kernel
theorem d25_33 : decode jdk_54_method_3_code 33 = .ok (.aload_n 0, 1) := by decide +kernel
theorem d25_34 : decode jdk_54_method_3_code 34 = .ok (.aload_n 0, 1) := by decide +kernel
theorem d25_35 : decode jdk_54_method_3_code 35 = .ok (.getfield 29, 3) := by decide +kernel
theorem d25_38 : decode jdk_54_method_3_code 38 = .ok (.dup_x1, 1) := by decide +kernel
theorem d25_39 : decode jdk_54_method_3_code 39 = .ok (.putfield 23, 3) := by decide +kernel
theorem d25_42 : decode jdk_54_method_3_code 42 = .ok (.aload_n 1, 1) := by decide +kernel
theorem d25_43 : decode jdk_54_method_3_code 43 = .ok (.arraylength, 1) := by decide +kernel
theorem d25_44 : decode jdk_54_method_3_code 44 = .ok (.invokestatic 43, 3) := by decide +kernel
theorem d25_47 : decode jdk_54_method_3_code 47 = .ok (.putfield 29, 3) := by decide +kernel
theorem d25_50 : decode jdk_54_method_3_code 50 = .ok (.aload_n 0, 1) := by decide +kernel
theorem d25_51 : decode jdk_54_method_3_code 51 = .ok (.dup, 1) := by decide +kernel
theorem d25_52 : decode jdk_54_method_3_code 52 = .ok (.getfield 19, 3) := by decide +kernel
theorem d25_55 : decode jdk_54_method_3_code 55 = .ok (.iconst 1, 1) := by decide +kernel
theorem d25_56 : decode jdk_54_method_3_code 56 = .ok (.isub, 1) := by decide +kernel
theorem d25_57 : decode jdk_54_method_3_code 57 = .ok (.putfield 19, 3) := by decide +kernel
theorem d25_60 : decode jdk_54_method_3_code 60 = .ok (.aload_n 2, 1) := by decide +kernel
theorem d25_61 : decode jdk_54_method_3_code 61 = .ok (.areturn, 1) := by decide +kernel
theorem ef_rm25 (m : MethodId) (x0 : Addr) : entryFrame m #[(.ref x0)] 3 = mkF m 0 #[.val (.ref x0), .unset, .unset] [] := by first | (simp [entryFrame, mkF, argsToLocals, Value.category]; done) | rfl
def Q25 (Z : State) (a1 : Addr) (qd : Addr) (ar : Addr) (xc : Int32) (xr : Int32) (u3 : Value) (f : Nat → Value) (i : Nat) (ea : Addr) (h0 : Heap) (n0 : Nat) (v : Option Value) (h : Heap) (L : List Loc) : Prop := v = some (.ref ea) ∧ Fr n0 L ∧ Keep h0 h [a1]
set_option maxRecDepth 65536 in
set_option maxHeartbeats 40000000 in
theorem rm25 (l : Launch) (Z : State) (a0 : Array Value) (hw : ∀ d ∈ tables_1, d.before a0 Z = true) (ws : List Jvm.Cond) (a1 : Addr) (qd : Addr) (ar : Addr) (xc : Int32) (xr : Int32) (u3 : Value) (f : Nat → Value) (i : Nat) (ea : Addr) (h0 : Heap) (n0 : Nat) (Z0 : n0 ≤ h0.size) (E_a1 : Exa Z h0 a1 "java/util/ArrayDeque$DeqIterator") (F_this : Fld Z h0 a1 "java/util/ArrayDeque$DeqIterator" "this$0" "Ljava/util/ArrayDeque;" (.ref qd)) (F_rem : Fld Z h0 a1 "java/util/ArrayDeque$DeqIterator" "remaining" "I" (.int xr)) (F_cur : Fld Z h0 a1 "java/util/ArrayDeque$DeqIterator" "cursor" "I" (.int xc)) (F_last : Fld Z h0 a1 "java/util/ArrayDeque$DeqIterator" "lastRet" "I" u3) (F_elements : Fld Z h0 qd "java/util/ArrayDeque" "elements" "[Ljava/lang/Object;" (.ref ar)) (A : AryO Z h0 ar 17 f) (ne_a1_qd : a1 ≠ qd) (ne_a1_ar : a1 ≠ ar) (g_a1 : n0 ≤ a1) (hr : (0 : Int32) < xr) (hxc : xc.toInt = (i : Int)) (hi : i < 17) (hu : f i = .ref ea) :
    MetFree l (⟨"java/util/ArrayDeque$DeqIterator", "next", "()Ljava/lang/Object;"⟩ : MethodName) (head1 (Jvm.Cond.code (⟨"java/util/ArrayDeque$DeqIterator", "next", "()Ljava/lang/Object;"⟩ : MethodName) jdk_54_method_3_code 3 (some (.object "java/lang/Object")) :: ws) ({ frames := 1, cells := 0, slots := 0, locals := 14 } : Room)) (fun a U => a = #[(.ref a1)] ∧ Z.Warmed39 U.vm ∧ U.heap = h0) (fun _ _ _ _ _ => True) (fun _ U o U' => ∃ v L, o = .returned v ∧ Q25 Z a1 qd ar xc xr u3 f i ea h0 n0 v U'.heap L ∧ FrameEnd U o U' L ({ frames := 1, cells := 0, slots := 0, locals := 14 } : Room).cells ({ frames := 1, cells := 0, slots := 0, locals := 14 } : Room).slots) := by
  refine MetFree.of_bodySF (plainFor_of_name pn_4) hisR ?_
  intro p e s m args below meth c s₁ Bd hml0 hP hK
  obtain ⟨rfl, hZ, hh⟩ := hP
  have hx := Bd.exec
  have hby := Bd.bytes
  have hml : c.maxLocals = 3 := hml0
  have hown : s.vm.findClass "java/util/ArrayDeque$DeqIterator" = some m.cls := findClass_of_methodNamed Bd.named
  have hnm := (name_of_methodNamed Bd.named Bd.method).1
  have X0 : Stand p l e ({ frames := 1, cells := 0, slots := 0, locals := 14 } : Room) s m #[(.ref a1)] below meth c s₁ [] 0 0 := Stand.of_body Bd
  have e0 : s₁.heap = h0 := by rw [← hh, Bd.state]; rfl
  have N0 := Fr.nil n0
  have K0 := Keep.refl h0 [a1]
  suffices hD : Dn p e below s (Q25 Z a1 qd ar xc xr u3 f i ea h0 n0) ({ frames := 1, cells := 0, slots := 0, locals := 14 } : Room).cells ({ frames := 1, cells := 0, slots := 0, locals := 14 } : Room).slots s₁ (mkF m 0 #[.val (.ref a1), .unset, .unset] []) from by
    obtain ⟨s₂, o, q1, q2⟩ := hD
    exact ⟨s₂, o, castTop (ef_rm25 m a1) q1, q2⟩
  refine Dn.st (fun t q => XS.aloadN X0.here hx rfl (hb hby d25_0) rfl rfl  q) ?_
  show Dn p e below s _ _ _ s₁ (mkF m 1 #[.val (.ref a1), .unset, .unset] [(.ref a1)])
  obtain ⟨T1, X1, e1, st1⟩ := getF X0 hx hZ hown (host := "") (Or.inl (hw _ (List.mem_of_getElem? (i := 148) rfl))) Via.refl e0 F_rem (g := (mkF m 1 #[.val (.ref a1), .unset, .unset] [(.ref a1)])) rfl rfl (hb hby d25_1)
  refine Dn.st st1 ?_
  show Dn p e below s _ _ _ T1 (mkF m 4 #[.val (.ref a1), .unset, .unset] [(.int xr)])
  refine Dn.st (fun t q => XS.ifYes X1.here hx rfl (pc0 := 4) (pc' := 15) rfl (hb hby d25_4) rfl ((if0 _ _).trans (tlt hr).2.2.1) (by decide) (by decide) q) ?_
  show Dn p e below s _ _ _ T1 (mkF m 15 #[.val (.ref a1), .unset, .unset] [])
  refine Dn.st (fun t q => XS.aloadN X1.here hx rfl (hb hby d25_15) rfl rfl  q) ?_
  show Dn p e below s _ _ _ T1 (mkF m 16 #[.val (.ref a1), .unset, .unset] [(.ref a1)])
  obtain ⟨T2, X2, e2, st2⟩ := getF X1 hx hZ hown (host := "") (Or.inl (hw _ (List.mem_of_getElem? (i := 144) rfl))) Via.refl e1 F_this (g := (mkF m 16 #[.val (.ref a1), .unset, .unset] [(.ref a1)])) rfl rfl (hb hby d25_16)
  refine Dn.st st2 ?_
  show Dn p e below s _ _ _ T2 (mkF m 19 #[.val (.ref a1), .unset, .unset] [(.ref qd)])
  obtain ⟨T3, X3, e3, st3⟩ := getF X2 hx hZ hown (host := "") (Or.inl (hw _ (List.mem_of_getElem? (i := 172) rfl))) Via.refl e2 F_elements (g := (mkF m 19 #[.val (.ref a1), .unset, .unset] [(.ref qd)])) rfl rfl (hb hby d25_19)
  refine Dn.st st3 ?_
  show Dn p e below s _ _ _ T3 (mkF m 22 #[.val (.ref a1), .unset, .unset] [(.ref ar)])
  refine Dn.st (fun t q => XS.astoreN X3.here hx rfl (hb hby d25_22) rfl rfl (l' := #[.val (.ref a1), .val (.ref ar), .unset]) rfl q) ?_
  show Dn p e below s _ _ _ T3 (mkF m 23 #[.val (.ref a1), .val (.ref ar), .unset] [])
  refine Dn.st (fun t q => XS.aloadN X3.here hx rfl (hb hby d25_23) rfl rfl  q) ?_
  show Dn p e below s _ _ _ T3 (mkF m 24 #[.val (.ref a1), .val (.ref ar), .unset] [(.ref ar)])
  refine Dn.st (fun t q => XS.aloadN X3.here hx rfl (hb hby d25_24) rfl rfl  q) ?_
  show Dn p e below s _ _ _ T3 (mkF m 25 #[.val (.ref a1), .val (.ref ar), .unset] [(.ref a1), (.ref ar)])
  obtain ⟨T4, X4, e4, st4⟩ := getF X3 hx hZ hown (host := "") (Or.inl (hw _ (List.mem_of_getElem? (i := 153) rfl))) Via.refl e3 F_cur (g := (mkF m 25 #[.val (.ref a1), .val (.ref ar), .unset] [(.ref a1), (.ref ar)])) rfl rfl (hb hby d25_25)
  refine Dn.st st4 ?_
  show Dn p e below s _ _ _ T4 (mkF m 28 #[.val (.ref a1), .val (.ref ar), .unset] [(.int xc), (.ref ar)])
  obtain ⟨_, _, ⟨T5, Lq5, kq_5, nq_5⟩, -, X5, ⟨Lc5, hQ5, lq5, yq5, zq5⟩, st5⟩ := Jvm.LawKit.callS X4 hx (y := (⟨"java/util/ArrayDeque", "nonNullElementAt", "([Ljava/lang/Object;I)Ljava/lang/Object;"⟩ : MethodName)) hown (mvT hZ (hw _ (List.mem_of_getElem? (i := 173) rfl))) (mvT hZ (hw _ (List.mem_of_getElem? (i := 174) rfl))) (mvT hZ (hw _ (List.mem_of_getElem? (i := 16) rfl))) (mvT hZ (hw _ (List.mem_of_getElem? (i := 175) rfl))) (by decide) (backOf (W := 0) (rm26 l Z a0 hw [] ar xc f i ea h0 n0 Z0 A hxc hi hu) hZ (hw _ (List.mem_of_getElem? (i := 175) rfl)) (hw _ (List.mem_of_getElem? (i := 16) rfl)) (by decide) (by decide)) (g := (mkF m 28 #[.val (.ref a1), .val (.ref ar), .unset] [(.int xc), (.ref ar)])) rfl (by rw [hml]; rfl) (argsL := [(.ref ar), (.int xc)]) (rest := []) (lenOf pd_0 rfl) rfl (by show 2 * 0 + _ ≤ _; exact Nat.le_of_eq rfl) (hb hby d25_28) (fun _ _ => ⟨rfl, e4, (by decide : 0 + 0 ≤ _), (by decide : 0 + 0 ≤ _)⟩)
  dsimp only [Pt.U, Pt.locs, Pt.cells, Pt.slots] at X5 lq5 yq5 zq5 st5 hQ5
  subst lq5 yq5 zq5
  obtain ⟨rfl, N5q, hq5⟩ := hQ5
  have N0 := Fr.app N0 N5q
  have e5 : T5.heap = h0 := hq5
  refine Dn.st st5 ?_
  show Dn p e below s _ _ _ T5 (mkF m 31 #[.val (.ref a1), .val (.ref ar), .unset] [(.ref ea)])
  refine Dn.st (fun t q => XS.astoreN X5.here hx rfl (hb hby d25_31) rfl rfl (l' := #[.val (.ref a1), .val (.ref ar), .val (.ref ea)]) rfl q) ?_
  show Dn p e below s _ _ _ T5 (mkF m 32 #[.val (.ref a1), .val (.ref ar), .val (.ref ea)] [])
  refine Dn.st (fun t q => XS.aloadN X5.here hx rfl (hb hby d25_32) rfl rfl  q) ?_
  show Dn p e below s _ _ _ T5 (mkF m 33 #[.val (.ref a1), .val (.ref ar), .val (.ref ea)] [(.ref a1)])
  refine Dn.st (fun t q => XS.aloadN X5.here hx rfl (hb hby d25_33) rfl rfl  q) ?_
  show Dn p e below s _ _ _ T5 (mkF m 34 #[.val (.ref a1), .val (.ref ar), .val (.ref ea)] [(.ref a1), (.ref a1)])
  refine Dn.st (fun t q => XS.aloadN X5.here hx rfl (hb hby d25_34) rfl rfl  q) ?_
  show Dn p e below s _ _ _ T5 (mkF m 35 #[.val (.ref a1), .val (.ref ar), .val (.ref ea)] [(.ref a1), (.ref a1), (.ref a1)])
  obtain ⟨T6, X6, e6, st6⟩ := getF X5 hx hZ hown (host := "") (Or.inl (hw _ (List.mem_of_getElem? (i := 153) rfl))) Via.refl e5 F_cur (g := (mkF m 35 #[.val (.ref a1), .val (.ref ar), .val (.ref ea)] [(.ref a1), (.ref a1), (.ref a1)])) rfl rfl (hb hby d25_35)
  refine Dn.st st6 ?_
  show Dn p e below s _ _ _ T6 (mkF m 38 #[.val (.ref a1), .val (.ref ar), .val (.ref ea)] [(.int xc), (.ref a1), (.ref a1)])
  refine Dn.st (fun t q => XS.dupX1 X6.here hx rfl (hb hby d25_38) rfl rfl rfl q) ?_
  show Dn p e below s _ _ _ T6 (mkF m 39 #[.val (.ref a1), .val (.ref ar), .val (.ref ea)] [(.int xc), (.ref a1), (.int xc), (.ref a1)])
  obtain ⟨T7, h7, X7, e7, W7, st7⟩ := putF X6 hx hZ hown (host := "") (Or.inl (hw _ (List.mem_of_getElem? (i := 150) rfl))) Via.refl e6 F_last E_a1 (Or.inl (hw _ (List.mem_of_getElem? (i := 151) rfl))) (hw _ (List.mem_of_getElem? (i := 138) rfl)) (ty := .int) (by decide) rfl rfl (g := (mkF m 39 #[.val (.ref a1), .val (.ref ar), .val (.ref ea)] [(.int xc), (.ref a1), (.int xc), (.ref a1)])) rfl rfl (hb hby d25_39)
  have N0 := Fr.snoc X7 N0 g_a1
  have Z0 := Nat.le_trans Z0 (Keep.of_wr W7).1
  have K0 := K0.wr W7 (Or.inl (List.mem_of_getElem? (i := 0) rfl))
  have E_a1 := E_a1.wr W7
  have F_this := F_this.other W7 (Or.inr (slot_ne (Or.inr (hw _ (List.mem_of_getElem? (i := 145) rfl))) (Or.inl (hw _ (List.mem_of_getElem? (i := 151) rfl))) (by decide) (t := (.object "java/util/ArrayDeque")) (t' := .int) (by decide) (by decide)))
  have F_rem := F_rem.other W7 (Or.inr (slot_ne (Or.inl (hw _ (List.mem_of_getElem? (i := 149) rfl))) (Or.inl (hw _ (List.mem_of_getElem? (i := 151) rfl))) (by decide) (t := .int) (t' := .int) (by decide) (by decide)))
  have F_cur := F_cur.other W7 (Or.inr (slot_ne (Or.inl (hw _ (List.mem_of_getElem? (i := 154) rfl))) (Or.inl (hw _ (List.mem_of_getElem? (i := 151) rfl))) (by decide) (t := .int) (t' := .int) (by decide) (by decide)))
  have F_last := F_last.same W7
  have F_elements := F_elements.other W7 (Or.inl (Ne.symm ne_a1_qd))
  have A := A.other W7 (Ne.symm ne_a1_ar)
  refine Dn.st st7 ?_
  show Dn p e below s _ _ _ T7 (mkF m 42 #[.val (.ref a1), .val (.ref ar), .val (.ref ea)] [(.int xc), (.ref a1)])
  refine Dn.st (fun t q => XS.aloadN X7.here hx rfl (hb hby d25_42) rfl rfl  q) ?_
  show Dn p e below s _ _ _ T7 (mkF m 43 #[.val (.ref a1), .val (.ref ar), .val (.ref ea)] [(.ref ar), (.int xc), (.ref a1)])
  refine Dn.st (aLenO X7 hx hZ e7 A (g := (mkF m 43 #[.val (.ref a1), .val (.ref ar), .val (.ref ea)] [(.ref ar), (.int xc), (.ref a1)])) rfl rfl (hb hby d25_43)) ?_
  show Dn p e below s _ _ _ T7 (mkF m 44 #[.val (.ref a1), .val (.ref ar), .val (.ref ea)] [(.int (Nat.toInt32 17)), (.int xc), (.ref a1)])
  obtain ⟨_, _, ⟨T8, Lq8, kq_8, nq_8⟩, -, X8, ⟨Lc8, hQ8, lq8, yq8, zq8⟩, st8⟩ := Jvm.LawKit.callS X7 hx (y := (⟨"java/util/ArrayDeque", "inc", "(II)I"⟩ : MethodName)) hown (mvT hZ (hw _ (List.mem_of_getElem? (i := 176) rfl))) (mvT hZ (hw _ (List.mem_of_getElem? (i := 87) rfl))) (mvT hZ (hw _ (List.mem_of_getElem? (i := 16) rfl))) (mvT hZ (hw _ (List.mem_of_getElem? (i := 88) rfl))) (by decide) (backOf (W := 1) (rm13 l Z a0 hw [] xc (Nat.toInt32 17)  h7 n0 Z0 ) hZ (hw _ (List.mem_of_getElem? (i := 88) rfl)) (hw _ (List.mem_of_getElem? (i := 16) rfl)) (by decide) (by decide)) (g := (mkF m 44 #[.val (.ref a1), .val (.ref ar), .val (.ref ea)] [(.int (Nat.toInt32 17)), (.int xc), (.ref a1)])) rfl (by rw [hml]; rfl) (argsL := [(.int xc), (.int (Nat.toInt32 17))]) (rest := [(.ref a1)]) (lenOf pd_1 rfl) rfl (by show 2 * 0 + _ ≤ _; exact Nat.le_of_eq rfl) (hb hby d25_44) (fun _ _ => ⟨rfl, e7, (by decide : 0 + 0 ≤ _), (by decide : 0 + 0 ≤ _)⟩)
  dsimp only [Pt.U, Pt.locs, Pt.cells, Pt.slots] at X8 lq8 yq8 zq8 st8 hQ8
  subst lq8 yq8 zq8
  obtain ⟨rfl, N8q, hq8⟩ := hQ8
  have N0 := Fr.app N0 N8q
  have e8 : T8.heap = h7 := hq8
  refine Dn.st st8 ?_
  show Dn p e below s _ _ _ T8 (mkF m 47 #[.val (.ref a1), .val (.ref ar), .val (.ref ea)] [(.int (own_inc xc (Nat.toInt32 17))), (.ref a1)])
  obtain ⟨T9, h9, X9, e9, W9, st9⟩ := putF X8 hx hZ hown (host := "") (Or.inl (hw _ (List.mem_of_getElem? (i := 153) rfl))) Via.refl e8 F_cur E_a1 (Or.inl (hw _ (List.mem_of_getElem? (i := 154) rfl))) (hw _ (List.mem_of_getElem? (i := 138) rfl)) (ty := .int) (by decide) rfl rfl (g := (mkF m 47 #[.val (.ref a1), .val (.ref ar), .val (.ref ea)] [(.int (own_inc xc (Nat.toInt32 17))), (.ref a1)])) rfl rfl (hb hby d25_47)
  have N0 := Fr.snoc X9 N0 g_a1
  have Z0 := Nat.le_trans Z0 (Keep.of_wr W9).1
  have K0 := K0.wr W9 (Or.inl (List.mem_of_getElem? (i := 0) rfl))
  have E_a1 := E_a1.wr W9
  have F_this := F_this.other W9 (Or.inr (slot_ne (Or.inr (hw _ (List.mem_of_getElem? (i := 145) rfl))) (Or.inl (hw _ (List.mem_of_getElem? (i := 154) rfl))) (by decide) (t := (.object "java/util/ArrayDeque")) (t' := .int) (by decide) (by decide)))
  have F_rem := F_rem.other W9 (Or.inr (slot_ne (Or.inl (hw _ (List.mem_of_getElem? (i := 149) rfl))) (Or.inl (hw _ (List.mem_of_getElem? (i := 154) rfl))) (by decide) (t := .int) (t' := .int) (by decide) (by decide)))
  have F_cur := F_cur.same W9
  have F_last := F_last.other W9 (Or.inr (slot_ne (Or.inl (hw _ (List.mem_of_getElem? (i := 151) rfl))) (Or.inl (hw _ (List.mem_of_getElem? (i := 154) rfl))) (by decide) (t := .int) (t' := .int) (by decide) (by decide)))
  have F_elements := F_elements.other W9 (Or.inl (Ne.symm ne_a1_qd))
  have A := A.other W9 (Ne.symm ne_a1_ar)
  refine Dn.st st9 ?_
  show Dn p e below s _ _ _ T9 (mkF m 50 #[.val (.ref a1), .val (.ref ar), .val (.ref ea)] [])
  refine Dn.st (fun t q => XS.aloadN X9.here hx rfl (hb hby d25_50) rfl rfl  q) ?_
  show Dn p e below s _ _ _ T9 (mkF m 51 #[.val (.ref a1), .val (.ref ar), .val (.ref ea)] [(.ref a1)])
  refine Dn.st (fun t q => XS.dup X9.here hx rfl (hb hby d25_51) rfl rfl q) ?_
  show Dn p e below s _ _ _ T9 (mkF m 52 #[.val (.ref a1), .val (.ref ar), .val (.ref ea)] [(.ref a1), (.ref a1)])
  obtain ⟨T10, X10, e10, st10⟩ := getF X9 hx hZ hown (host := "") (Or.inl (hw _ (List.mem_of_getElem? (i := 148) rfl))) Via.refl e9 F_rem (g := (mkF m 52 #[.val (.ref a1), .val (.ref ar), .val (.ref ea)] [(.ref a1), (.ref a1)])) rfl rfl (hb hby d25_52)
  refine Dn.st st10 ?_
  show Dn p e below s _ _ _ T10 (mkF m 55 #[.val (.ref a1), .val (.ref ar), .val (.ref ea)] [(.int xr), (.ref a1)])
  refine Dn.st (fun t q => XS.iconst X10.here hx rfl (hb hby d25_55) q) ?_
  show Dn p e below s _ _ _ T10 (mkF m 56 #[.val (.ref a1), .val (.ref ar), .val (.ref ea)] [(.int (1 : Int32)), (.int xr), (.ref a1)])
  refine Dn.st (fun t q => XS.isub X10.here hx rfl (hb hby d25_56) rfl q) ?_
  show Dn p e below s _ _ _ T10 (mkF m 57 #[.val (.ref a1), .val (.ref ar), .val (.ref ea)] [(.int (xr - (1 : Int32))), (.ref a1)])
  obtain ⟨T11, h11, X11, e11, W11, st11⟩ := putF X10 hx hZ hown (host := "") (Or.inl (hw _ (List.mem_of_getElem? (i := 148) rfl))) Via.refl e10 F_rem E_a1 (Or.inl (hw _ (List.mem_of_getElem? (i := 149) rfl))) (hw _ (List.mem_of_getElem? (i := 138) rfl)) (ty := .int) (by decide) rfl rfl (g := (mkF m 57 #[.val (.ref a1), .val (.ref ar), .val (.ref ea)] [(.int (xr - (1 : Int32))), (.ref a1)])) rfl rfl (hb hby d25_57)
  have N0 := Fr.snoc X11 N0 g_a1
  have Z0 := Nat.le_trans Z0 (Keep.of_wr W11).1
  have K0 := K0.wr W11 (Or.inl (List.mem_of_getElem? (i := 0) rfl))
  have E_a1 := E_a1.wr W11
  have F_this := F_this.other W11 (Or.inr (slot_ne (Or.inr (hw _ (List.mem_of_getElem? (i := 145) rfl))) (Or.inl (hw _ (List.mem_of_getElem? (i := 149) rfl))) (by decide) (t := (.object "java/util/ArrayDeque")) (t' := .int) (by decide) (by decide)))
  have F_rem := F_rem.same W11
  have F_cur := F_cur.other W11 (Or.inr (slot_ne (Or.inl (hw _ (List.mem_of_getElem? (i := 154) rfl))) (Or.inl (hw _ (List.mem_of_getElem? (i := 149) rfl))) (by decide) (t := .int) (t' := .int) (by decide) (by decide)))
  have F_last := F_last.other W11 (Or.inr (slot_ne (Or.inl (hw _ (List.mem_of_getElem? (i := 151) rfl))) (Or.inl (hw _ (List.mem_of_getElem? (i := 149) rfl))) (by decide) (t := .int) (t' := .int) (by decide) (by decide)))
  have F_elements := F_elements.other W11 (Or.inl (Ne.symm ne_a1_qd))
  have A := A.other W11 (Ne.symm ne_a1_ar)
  refine Dn.st st11 ?_
  show Dn p e below s _ _ _ T11 (mkF m 60 #[.val (.ref a1), .val (.ref ar), .val (.ref ea)] [])
  refine Dn.st (fun t q => XS.aloadN X11.here hx rfl (hb hby d25_60) rfl rfl  q) ?_
  show Dn p e below s _ _ _ T11 (mkF m 61 #[.val (.ref a1), .val (.ref ar), .val (.ref ea)] [(.ref ea)])
  exact Dn.retA X11 hx Bd.notSynchronized Bd.returns rfl rfl (hb hby d25_61) (by rw [e11]; exact ⟨rfl, N0, K0⟩) (by decide) (by decide)
theorem d21_0 : decode prog_17_method_4_code 0 = .ok (.aload_n 0, 1) := by decide +kernel
theorem d21_1 : decode prog_17_method_4_code 1 = .ok (.getfield 64, 3) := by decide +kernel
theorem d21_4 : decode prog_17_method_4_code 4 = .ok (.lstore_n 3, 1) := by decide +kernel
theorem d21_5 : decode prog_17_method_4_code 5 = .ok (.aload_n 0, 1) := by decide +kernel
theorem d21_6 : decode prog_17_method_4_code 6 = .ok (.getfield 10, 3) := by decide +kernel
theorem d21_9 : decode prog_17_method_4_code 9 = .ok (.invokevirtual 67, 3) := by decide +kernel
theorem pd_12 : parseMethodDescriptor "()Ljava/util/Iterator;" = some ⟨[], some (.object "java/util/Iterator")⟩ := by decide +kernel
theorem d21_12 : decode prog_17_method_4_code 12 = .ok (.astore 5, 2) := by decide +kernel
theorem d21_14 : decode prog_17_method_4_code 14 = .ok (.aload 5, 2) := by decide +kernel
theorem d21_16 : decode prog_17_method_4_code 16 = .ok (.invokeinterface 71 1, 5) := by decide +kernel
theorem d21_21 : decode prog_17_method_4_code 21 = .ok (.ifCond .eq 39, 3) := by decide +kernel
theorem d21_60 : decode prog_17_method_4_code 60 = .ok (.lload_n 3, 1) := by decide +kernel
theorem d21_61 : decode prog_17_method_4_code 61 = .ok (.lreturn, 1) := by decide +kernel
theorem d21_24 : decode prog_17_method_4_code 24 = .ok (.aload 5, 2) := by decide +kernel
theorem d21_26 : decode prog_17_method_4_code 26 = .ok (.invokeinterface 77 1, 5) := by decide +kernel
theorem d21_31 : decode prog_17_method_4_code 31 = .ok (.checkcast 56, 3) := by decide +kernel
theorem d21_34 : decode prog_17_method_4_code 34 = .ok (.astore 6, 2) := by decide +kernel
theorem d21_36 : decode prog_17_method_4_code 36 = .ok (.aload_n 0, 1) := by decide +kernel
theorem d21_37 : decode prog_17_method_4_code 37 = .ok (.aload 6, 2) := by decide +kernel
theorem d21_39 : decode prog_17_method_4_code 39 = .ok (.lload_n 1, 1) := by decide +kernel
theorem d21_40 : decode prog_17_method_4_code 40 = .ok (.invokevirtual 80, 3) := by decide +kernel
theorem d21_43 : decode prog_17_method_4_code 43 = .ok (.ifCond .ne 6, 3) := by decide +kernel
theorem d21_46 : decode prog_17_method_4_code 46 = .ok (.goto 14, 3) := by decide +kernel
theorem ef_rm21 (m : MethodId) (x0 : Addr) (x1 : Int64) : entryFrame m #[(.ref x0), (.long x1)] 7 = mkF m 0 #[.val (.ref x0), .val (.long x1), .second, .unset, .unset, .unset, .unset] [] := by first | (simp [entryFrame, mkF, argsToLocals, Value.category]; done) | rfl
def Q21 (Z : State) (a1 : Addr) (y1 : Int64) (qd : Addr) (ar : Addr) (yw : Int64) (yp : Int64) (xh : Int32) (xt : Int32) (hd : Nat) (es : List Ent) (h0 : Heap) (n0 : Nat) (v : Option Value) (h : Heap) (L : List Loc) : Prop := v = some (.long yp) ∧ Fr n0 L ∧ Keep h0 h []
set_option maxRecDepth 65536 in
set_option maxHeartbeats 40000000 in
theorem rm21 (l : Launch) (Z : State) (a0 : Array Value) (hw : ∀ d ∈ tables_1, d.before a0 Z = true) (ws : List Jvm.Cond) (a1 : Addr) (y1 : Int64) (qd : Addr) (ar : Addr) (yw : Int64) (yp : Int64) (xh : Int32) (xt : Int32) (hd : Nat) (es : List Ent) (h0 : Heap) (n0 : Nat) (Z0 : n0 ≤ h0.size) (E_a1 : Exa Z h0 a1 "com/example/scripted_rate_limiter/scriptedratelimiter/PermitLog") (F_entries : Fld Z h0 a1 "com/example/scripted_rate_limiter/scriptedratelimiter/PermitLog" "entries" "Ljava/util/ArrayDeque;" (.ref qd)) (F_windowTicks : Fld Z h0 a1 "com/example/scripted_rate_limiter/scriptedratelimiter/PermitLog" "windowTicks" "J" (.long yw)) (F_permits : Fld Z h0 a1 "com/example/scripted_rate_limiter/scriptedratelimiter/PermitLog" "permits" "J" (.long yp)) (E_q : Exa Z h0 qd "java/util/ArrayDeque") (F_elements : Fld Z h0 qd "java/util/ArrayDeque" "elements" "[Ljava/lang/Object;" (.ref ar)) (F_head : Fld Z h0 qd "java/util/ArrayDeque" "head" "I" (.int xh)) (F_tail : Fld Z h0 qd "java/util/ArrayDeque" "tail" "I" (.int xt)) (A : AryO Z h0 ar 17 (own_at hd es)) (En : Ens Z h0 es) (ne_a1_qd : a1 ≠ qd) (ne_a1_ar : a1 ≠ ar) (ne_qd_ar : qd ≠ ar) (g_a1 : n0 ≤ a1) (g_qd : n0 ≤ qd) (g_ar : n0 ≤ ar) (hxh : xh.toInt = (hd : Int)) (hxt : xt.toInt = ((hd + es.length : Nat) : Int)) (hbe : hd + es.length ≤ 3) (hne : own_off es a1 qd ar) (hfst : ∀ e ∈ es, (y1 - e.2.1) < yw) :
    MetFree l (⟨"com/example/scripted_rate_limiter/scriptedratelimiter/PermitLog", "permitsAt", "(J)J"⟩ : MethodName) (head1 (Jvm.Cond.code (⟨"com/example/scripted_rate_limiter/scriptedratelimiter/PermitLog", "permitsAt", "(J)J"⟩ : MethodName) prog_17_method_4_code 7 (some .long) :: ws) ({ frames := 4, cells := 1, slots := 4, locals := 53 } : Room)) (fun a U => a = #[(.ref a1), (.long y1)] ∧ Z.Warmed39 U.vm ∧ U.heap = h0) (fun _ _ _ _ _ => True) (fun _ U o U' => ∃ v L, o = .returned v ∧ Q21 Z a1 y1 qd ar yw yp xh xt hd es h0 n0 v U'.heap L ∧ FrameEnd U o U' L ({ frames := 4, cells := 1, slots := 4, locals := 53 } : Room).cells ({ frames := 4, cells := 1, slots := 4, locals := 53 } : Room).slots) := by
  refine MetFree.of_bodySF (plainFor_of_name pn_1) hisR ?_
  intro p e s m args below meth c s₁ Bd hml0 hP hK
  obtain ⟨rfl, hZ, hh⟩ := hP
  have hx := Bd.exec
  have hby := Bd.bytes
  have hml : c.maxLocals = 7 := hml0
  have hown : s.vm.findClass "com/example/scripted_rate_limiter/scriptedratelimiter/PermitLog" = some m.cls := findClass_of_methodNamed Bd.named
  have hnm := (name_of_methodNamed Bd.named Bd.method).1
  have X0 : Stand p l e ({ frames := 4, cells := 1, slots := 4, locals := 53 } : Room) s m #[(.ref a1), (.long y1)] below meth c s₁ [] 0 0 := Stand.of_body Bd
  have e0 : s₁.heap = h0 := by rw [← hh, Bd.state]; rfl
  have N0 := Fr.nil n0
  have K0 := Keep.refl h0 []
  suffices hD : Dn p e below s (Q21 Z a1 y1 qd ar yw yp xh xt hd es h0 n0) ({ frames := 4, cells := 1, slots := 4, locals := 53 } : Room).cells ({ frames := 4, cells := 1, slots := 4, locals := 53 } : Room).slots s₁ (mkF m 0 #[.val (.ref a1), .val (.long y1), .second, .unset, .unset, .unset, .unset] []) from by
    obtain ⟨s₂, o, q1, q2⟩ := hD
    exact ⟨s₂, o, castTop (ef_rm21 m a1 y1) q1, q2⟩
  by_cases he : es = []
  · refine Dn.st (fun t q => XS.aloadN X0.here hx rfl (hb hby d21_0) rfl rfl  q) ?_
    show Dn p e below s _ _ _ s₁ (mkF m 1 #[.val (.ref a1), .val (.long y1), .second, .unset, .unset, .unset, .unset] [(.ref a1)])
    obtain ⟨T1, X1, e1, st1⟩ := getF X0 hx hZ hown (host := "") (Or.inl (hw _ (List.mem_of_getElem? (i := 89) rfl))) Via.refl e0 F_permits (g := (mkF m 1 #[.val (.ref a1), .val (.long y1), .second, .unset, .unset, .unset, .unset] [(.ref a1)])) rfl rfl (hb hby d21_1)
    refine Dn.st st1 ?_
    show Dn p e below s _ _ _ T1 (mkF m 4 #[.val (.ref a1), .val (.long y1), .second, .unset, .unset, .unset, .unset] [(.long yp)])
    refine Dn.st (fun t q => XS.lstoreN X1.here hx rfl (hb hby d21_4) rfl (l' := #[.val (.ref a1), .val (.long y1), .second, .val (.long yp), .second, .unset, .unset]) rfl q) ?_
    show Dn p e below s _ _ _ T1 (mkF m 5 #[.val (.ref a1), .val (.long y1), .second, .val (.long yp), .second, .unset, .unset] [])
    refine Dn.st (fun t q => XS.aloadN X1.here hx rfl (hb hby d21_5) rfl rfl  q) ?_
    show Dn p e below s _ _ _ T1 (mkF m 6 #[.val (.ref a1), .val (.long y1), .second, .val (.long yp), .second, .unset, .unset] [(.ref a1)])
    obtain ⟨T2, X2, e2, st2⟩ := getF X1 hx hZ hown (host := "") (Or.inl (hw _ (List.mem_of_getElem? (i := 31) rfl))) Via.refl e1 F_entries (g := (mkF m 6 #[.val (.ref a1), .val (.long y1), .second, .val (.long yp), .second, .unset, .unset] [(.ref a1)])) rfl rfl (hb hby d21_6)
    refine Dn.st st2 ?_
    show Dn p e below s _ _ _ T2 (mkF m 9 #[.val (.ref a1), .val (.long y1), .second, .val (.long yp), .second, .unset, .unset] [(.ref qd)])
    have Zq3 := Z0
    have Kq3 := K0
    have lt_a1_3 : a1 < h0.size := E_a1.lt
    have lt_qd_3 : qd < h0.size := E_q.lt
    have lt_ar_3 : ar < h0.size := A.lt
    obtain ⟨cq3, kq3, q3a, q3b, q3c⟩ := isOf hZ e2 E_q
    obtain ⟨_, _, ⟨T3, Lq3, kq_3, nq_3⟩, -, X3, ⟨Lc3, hQ3, lq3, yq3, zq3⟩, st3⟩ := X2.virtualBack hx (y := (⟨"java/util/ArrayDeque", "iterator", "()Ljava/util/Iterator;"⟩ : MethodName)) (z := (⟨"java/util/ArrayDeque", "iterator", "()Ljava/util/Iterator;"⟩ : MethodName)) hown (mvT hZ (hw _ (List.mem_of_getElem? (i := 132) rfl))) (mvT hZ (hw _ (List.mem_of_getElem? (i := 133) rfl))) (notFace_of_selects (args := #[]) (mvT hZ (hw _ (List.mem_of_getElem? (i := 135) rfl)))) (mvT hZ (hw _ (List.mem_of_getElem? (i := 135) rfl))) (mvT hZ (hw _ (List.mem_of_getElem? (i := 134) rfl))) (by decide) (backOf (W := 0) (rm22 l Z a0 hw [] qd ar xh xt (own_at hd es) h0 n0 Z0 E_q F_elements F_head F_tail A) hZ (hw _ (List.mem_of_getElem? (i := 136) rfl)) (hw _ (List.mem_of_getElem? (i := 16) rfl)) (by decide) (by decide)) q3a q3c (g := (mkF m 9 #[.val (.ref a1), .val (.long y1), .second, .val (.long yp), .second, .unset, .unset] [(.ref qd)])) rfl (by rw [hml]; rfl) (Steps.refl _) (argsL := []) (rest := []) (lenOf pd_12 rfl) rfl (by show 2 * 0 + _ ≤ _; exact Nat.le_of_eq rfl) (hb hby d21_9) (fun _ _ => ⟨rfl, e2, (by decide : 0 + 1 ≤ _), (by decide : 0 + 4 ≤ _)⟩)
    dsimp only [Pt.U, Pt.locs, Pt.cells, Pt.slots] at X3 lq3 yq3 zq3 st3 hQ3
    subst lq3 yq3 zq3
    obtain ⟨b1, rfl, N3q, K3, le3, E_b1, F_this, F_rem, F_cur, F_last⟩ := hQ3
    have N0 := Fr.app N0 N3q
    have Z0 := Nat.le_trans Z0 K3.1
    have K0 := K0.trans K3 all0
    have E_a1 := E_a1.keep K3
    have F_entries := F_entries.keep K3 nin0
    have F_windowTicks := F_windowTicks.keep K3 nin0
    have F_permits := F_permits.keep K3 nin0
    have E_q := E_q.keep K3
    have F_elements := F_elements.keep K3 nin0
    have F_head := F_head.keep K3 nin0
    have F_tail := F_tail.keep K3 nin0
    have A := A.keep K3 nin0
    have ne_a1_b1 : a1 ≠ b1 := own_ne' lt_a1_3 le3
    have ne_qd_b1 : qd ≠ b1 := own_ne' lt_qd_3 le3
    have ne_ar_b1 : ar ≠ b1 := own_ne' lt_ar_3 le3
    have g_b1 : n0 ≤ b1 := Nat.le_trans Zq3 le3
    have sz_b1 : h0.size ≤ b1 := Nat.le_trans Kq3.1 le3
    refine Dn.tr st3 ?_
    show Dn p e below s _ _ _ T3 (mkF m 12 #[.val (.ref a1), .val (.long y1), .second, .val (.long yp), .second, .unset, .unset] [(.ref b1)])
    refine Dn.st (fun t q => XS.astore X3.here hx rfl (hb hby d21_12) rfl rfl (l' := #[.val (.ref a1), .val (.long y1), .second, .val (.long yp), .second, .val (.ref b1), .unset]) rfl q) ?_
    show Dn p e below s _ _ _ T3 (mkF m 14 #[.val (.ref a1), .val (.long y1), .second, .val (.long yp), .second, .val (.ref b1), .unset] [])
    refine Dn.st (fun t q => XS.aload X3.here hx rfl (hb hby d21_14) rfl rfl  q) ?_
    show Dn p e below s _ _ _ T3 (mkF m 16 #[.val (.ref a1), .val (.long y1), .second, .val (.long yp), .second, .val (.ref b1), .unset] [(.ref b1)])
    obtain ⟨cq4, kq4, q4a, q4b, q4c⟩ := isOf hZ rfl E_b1
    obtain ⟨_, _, ⟨T4, Lq4, kq_4, nq_4⟩, -, X4, ⟨Lc4, hQ4, lq4, yq4, zq4⟩, st4⟩ := X3.interfaceBack hx (xi := (⟨"java/util/Iterator", "hasNext", "()Z"⟩ : MethodName)) (y := (⟨"java/util/ArrayDeque$DeqIterator", "hasNext", "()Z"⟩ : MethodName)) hown (mvT hZ (hw _ (List.mem_of_getElem? (i := 155) rfl))) (mvT hZ (hw _ (List.mem_of_getElem? (i := 156) rfl))) (mvT hZ (hw _ (List.mem_of_getElem? (i := 157) rfl))) (mvT hZ (hw _ (List.mem_of_getElem? (i := 158) rfl))) (mvT hZ (hw _ (List.mem_of_getElem? (i := 159) rfl))) (mvT hZ (hw _ (List.mem_of_getElem? (i := 160) rfl))) (mvT hZ (hw _ (List.mem_of_getElem? (i := 161) rfl))) (mvT hZ (hw _ (List.mem_of_getElem? (i := 162) rfl))) (by decide) (backOf (W := 0) (rm24 l Z a0 hw [] b1 (own_sub xt xh (Nat.toInt32 17)) T3.heap n0 Z0 F_rem) hZ (hw _ (List.mem_of_getElem? (i := 163) rfl)) (hw _ (List.mem_of_getElem? (i := 139) rfl)) (by decide) (by decide)) q4a q4b q4c (g := (mkF m 16 #[.val (.ref a1), .val (.long y1), .second, .val (.long yp), .second, .val (.ref b1), .unset] [(.ref b1)])) rfl (by rw [hml]; rfl) (Steps.refl _) (argsL := []) (rest := []) (lenOf pd_5 rfl) rfl (by show 2 * 0 + _ ≤ _; exact Nat.le_of_eq rfl) (hb hby d21_16) (fun _ _ => ⟨rfl, rfl, (by decide : 1 + 0 ≤ _), (by decide : 4 + 0 ≤ _)⟩)
    dsimp only [Pt.U, Pt.locs, Pt.cells, Pt.slots] at X4 lq4 yq4 zq4 st4 hQ4
    subst lq4 yq4 zq4
    obtain ⟨rfl, N4q, hq4⟩ := hQ4
    have N0 := Fr.app N0 N4q
    have e4 : T4.heap = T3.heap := hq4
    refine Dn.tr st4 ?_
    show Dn p e below s _ _ _ T4 (mkF m 21 #[.val (.ref a1), .val (.long y1), .second, .val (.long yp), .second, .val (.ref b1), .unset] [(.int (if (0 : Int32) < (own_sub xt xh (Nat.toInt32 17)) then (1 : Int32) else (0 : Int32)))])
    rw [show (if (0 : Int32) < (own_sub xt xh (Nat.toInt32 17)) then (1 : Int32) else (0 : Int32)) = (0 : Int32) from (own_rem0 he hxh hxt hbe)]
    show Dn p e below s _ _ _ T4 (mkF m 21 #[.val (.ref a1), .val (.long y1), .second, .val (.long yp), .second, .val (.ref b1), .unset] [(.int (0 : Int32))])
    refine Dn.st (fun t q => XS.ifYes X4.here hx rfl (pc0 := 21) (pc' := 60) rfl (hb hby d21_21) rfl ((if0 _ _).trans (teq rfl).1) (by decide) (by decide) q) ?_
    show Dn p e below s _ _ _ T4 (mkF m 60 #[.val (.ref a1), .val (.long y1), .second, .val (.long yp), .second, .val (.ref b1), .unset] [])
    refine Dn.st (fun t q => XS.lloadN X4.here hx rfl (hb hby d21_60) rfl  q) ?_
    show Dn p e below s _ _ _ T4 (mkF m 61 #[.val (.ref a1), .val (.long y1), .second, .val (.long yp), .second, .val (.ref b1), .unset] [(.long yp)])
    exact Dn.retJ X4 hx Bd.notSynchronized Bd.returns (hb hby d21_61) (by rw [e4]; exact ⟨rfl, N0, K0⟩) (by decide) (by decide)
  · obtain ⟨ea, et, ep, er, hee⟩ := own_cons he
    obtain ⟨E_ea, F_tick_ea, -⟩ := (hee ▸ En : Ens Z _ ((ea, et, ep) :: er)).hd
    have hl : (y1 - et) < yw := hfst (ea, et, ep) (by rw [hee]; exact List.mem_cons_self ..)
    refine Dn.st (fun t q => XS.aloadN X0.here hx rfl (hb hby d21_0) rfl rfl  q) ?_
    show Dn p e below s _ _ _ s₁ (mkF m 1 #[.val (.ref a1), .val (.long y1), .second, .unset, .unset, .unset, .unset] [(.ref a1)])
    obtain ⟨T5, X5, e5, st5⟩ := getF X0 hx hZ hown (host := "") (Or.inl (hw _ (List.mem_of_getElem? (i := 89) rfl))) Via.refl e0 F_permits (g := (mkF m 1 #[.val (.ref a1), .val (.long y1), .second, .unset, .unset, .unset, .unset] [(.ref a1)])) rfl rfl (hb hby d21_1)
    refine Dn.st st5 ?_
    show Dn p e below s _ _ _ T5 (mkF m 4 #[.val (.ref a1), .val (.long y1), .second, .unset, .unset, .unset, .unset] [(.long yp)])
    refine Dn.st (fun t q => XS.lstoreN X5.here hx rfl (hb hby d21_4) rfl (l' := #[.val (.ref a1), .val (.long y1), .second, .val (.long yp), .second, .unset, .unset]) rfl q) ?_
    show Dn p e below s _ _ _ T5 (mkF m 5 #[.val (.ref a1), .val (.long y1), .second, .val (.long yp), .second, .unset, .unset] [])
    refine Dn.st (fun t q => XS.aloadN X5.here hx rfl (hb hby d21_5) rfl rfl  q) ?_
    show Dn p e below s _ _ _ T5 (mkF m 6 #[.val (.ref a1), .val (.long y1), .second, .val (.long yp), .second, .unset, .unset] [(.ref a1)])
    obtain ⟨T6, X6, e6, st6⟩ := getF X5 hx hZ hown (host := "") (Or.inl (hw _ (List.mem_of_getElem? (i := 31) rfl))) Via.refl e5 F_entries (g := (mkF m 6 #[.val (.ref a1), .val (.long y1), .second, .val (.long yp), .second, .unset, .unset] [(.ref a1)])) rfl rfl (hb hby d21_6)
    refine Dn.st st6 ?_
    show Dn p e below s _ _ _ T6 (mkF m 9 #[.val (.ref a1), .val (.long y1), .second, .val (.long yp), .second, .unset, .unset] [(.ref qd)])
    have Zq7 := Z0
    have Kq7 := K0
    have lt_a1_7 : a1 < h0.size := E_a1.lt
    have lt_qd_7 : qd < h0.size := E_q.lt
    have lt_ar_7 : ar < h0.size := A.lt
    have lt_ea_7 : ea < h0.size := E_ea.lt
    obtain ⟨cq7, kq7, q7a, q7b, q7c⟩ := isOf hZ e6 E_q
    obtain ⟨_, _, ⟨T7, Lq7, kq_7, nq_7⟩, -, X7, ⟨Lc7, hQ7, lq7, yq7, zq7⟩, st7⟩ := X6.virtualBack hx (y := (⟨"java/util/ArrayDeque", "iterator", "()Ljava/util/Iterator;"⟩ : MethodName)) (z := (⟨"java/util/ArrayDeque", "iterator", "()Ljava/util/Iterator;"⟩ : MethodName)) hown (mvT hZ (hw _ (List.mem_of_getElem? (i := 132) rfl))) (mvT hZ (hw _ (List.mem_of_getElem? (i := 133) rfl))) (notFace_of_selects (args := #[]) (mvT hZ (hw _ (List.mem_of_getElem? (i := 135) rfl)))) (mvT hZ (hw _ (List.mem_of_getElem? (i := 135) rfl))) (mvT hZ (hw _ (List.mem_of_getElem? (i := 134) rfl))) (by decide) (backOf (W := 0) (rm22 l Z a0 hw [] qd ar xh xt (own_at hd es) h0 n0 Z0 E_q F_elements F_head F_tail A) hZ (hw _ (List.mem_of_getElem? (i := 136) rfl)) (hw _ (List.mem_of_getElem? (i := 16) rfl)) (by decide) (by decide)) q7a q7c (g := (mkF m 9 #[.val (.ref a1), .val (.long y1), .second, .val (.long yp), .second, .unset, .unset] [(.ref qd)])) rfl (by rw [hml]; rfl) (Steps.refl _) (argsL := []) (rest := []) (lenOf pd_12 rfl) rfl (by show 2 * 0 + _ ≤ _; exact Nat.le_of_eq rfl) (hb hby d21_9) (fun _ _ => ⟨rfl, e6, (by decide : 0 + 1 ≤ _), (by decide : 0 + 4 ≤ _)⟩)
    dsimp only [Pt.U, Pt.locs, Pt.cells, Pt.slots] at X7 lq7 yq7 zq7 st7 hQ7
    subst lq7 yq7 zq7
    obtain ⟨b1, rfl, N7q, K7, le7, E_b1, F_this, F_rem, F_cur, F_last⟩ := hQ7
    have N0 := Fr.app N0 N7q
    have Z0 := Nat.le_trans Z0 K7.1
    have K0 := K0.trans K7 all0
    have E_a1 := E_a1.keep K7
    have F_entries := F_entries.keep K7 nin0
    have F_windowTicks := F_windowTicks.keep K7 nin0
    have F_permits := F_permits.keep K7 nin0
    have E_q := E_q.keep K7
    have F_elements := F_elements.keep K7 nin0
    have F_head := F_head.keep K7 nin0
    have F_tail := F_tail.keep K7 nin0
    have A := A.keep K7 nin0
    have E_ea := E_ea.keep K7
    have F_tick_ea := F_tick_ea.keep K7 nin0
    have ne_a1_b1 : a1 ≠ b1 := own_ne' lt_a1_7 le7
    have ne_qd_b1 : qd ≠ b1 := own_ne' lt_qd_7 le7
    have ne_ar_b1 : ar ≠ b1 := own_ne' lt_ar_7 le7
    have ne_ea_b1 : ea ≠ b1 := own_ne' lt_ea_7 le7
    have g_b1 : n0 ≤ b1 := Nat.le_trans Zq7 le7
    have sz_b1 : h0.size ≤ b1 := Nat.le_trans Kq7.1 le7
    refine Dn.tr st7 ?_
    show Dn p e below s _ _ _ T7 (mkF m 12 #[.val (.ref a1), .val (.long y1), .second, .val (.long yp), .second, .unset, .unset] [(.ref b1)])
    refine Dn.st (fun t q => XS.astore X7.here hx rfl (hb hby d21_12) rfl rfl (l' := #[.val (.ref a1), .val (.long y1), .second, .val (.long yp), .second, .val (.ref b1), .unset]) rfl q) ?_
    show Dn p e below s _ _ _ T7 (mkF m 14 #[.val (.ref a1), .val (.long y1), .second, .val (.long yp), .second, .val (.ref b1), .unset] [])
    refine Dn.st (fun t q => XS.aload X7.here hx rfl (hb hby d21_14) rfl rfl  q) ?_
    show Dn p e below s _ _ _ T7 (mkF m 16 #[.val (.ref a1), .val (.long y1), .second, .val (.long yp), .second, .val (.ref b1), .unset] [(.ref b1)])
    obtain ⟨cq8, kq8, q8a, q8b, q8c⟩ := isOf hZ rfl E_b1
    obtain ⟨_, _, ⟨T8, Lq8, kq_8, nq_8⟩, -, X8, ⟨Lc8, hQ8, lq8, yq8, zq8⟩, st8⟩ := X7.interfaceBack hx (xi := (⟨"java/util/Iterator", "hasNext", "()Z"⟩ : MethodName)) (y := (⟨"java/util/ArrayDeque$DeqIterator", "hasNext", "()Z"⟩ : MethodName)) hown (mvT hZ (hw _ (List.mem_of_getElem? (i := 155) rfl))) (mvT hZ (hw _ (List.mem_of_getElem? (i := 156) rfl))) (mvT hZ (hw _ (List.mem_of_getElem? (i := 157) rfl))) (mvT hZ (hw _ (List.mem_of_getElem? (i := 158) rfl))) (mvT hZ (hw _ (List.mem_of_getElem? (i := 159) rfl))) (mvT hZ (hw _ (List.mem_of_getElem? (i := 160) rfl))) (mvT hZ (hw _ (List.mem_of_getElem? (i := 161) rfl))) (mvT hZ (hw _ (List.mem_of_getElem? (i := 162) rfl))) (by decide) (backOf (W := 0) (rm24 l Z a0 hw [] b1 (own_sub xt xh (Nat.toInt32 17)) T7.heap n0 Z0 F_rem) hZ (hw _ (List.mem_of_getElem? (i := 163) rfl)) (hw _ (List.mem_of_getElem? (i := 139) rfl)) (by decide) (by decide)) q8a q8b q8c (g := (mkF m 16 #[.val (.ref a1), .val (.long y1), .second, .val (.long yp), .second, .val (.ref b1), .unset] [(.ref b1)])) rfl (by rw [hml]; rfl) (Steps.refl _) (argsL := []) (rest := []) (lenOf pd_5 rfl) rfl (by show 2 * 0 + _ ≤ _; exact Nat.le_of_eq rfl) (hb hby d21_16) (fun _ _ => ⟨rfl, rfl, (by decide : 1 + 0 ≤ _), (by decide : 4 + 0 ≤ _)⟩)
    dsimp only [Pt.U, Pt.locs, Pt.cells, Pt.slots] at X8 lq8 yq8 zq8 st8 hQ8
    subst lq8 yq8 zq8
    obtain ⟨rfl, N8q, hq8⟩ := hQ8
    have N0 := Fr.app N0 N8q
    have e8 : T8.heap = T7.heap := hq8
    refine Dn.tr st8 ?_
    show Dn p e below s _ _ _ T8 (mkF m 21 #[.val (.ref a1), .val (.long y1), .second, .val (.long yp), .second, .val (.ref b1), .unset] [(.int (if (0 : Int32) < (own_sub xt xh (Nat.toInt32 17)) then (1 : Int32) else (0 : Int32)))])
    rw [show (if (0 : Int32) < (own_sub xt xh (Nat.toInt32 17)) then (1 : Int32) else (0 : Int32)) = (1 : Int32) from (if_pos (own_rem1 hee hxh hxt hbe))]
    show Dn p e below s _ _ _ T8 (mkF m 21 #[.val (.ref a1), .val (.long y1), .second, .val (.long yp), .second, .val (.ref b1), .unset] [(.int (1 : Int32))])
    refine Dn.st (fun t q => XS.ifNo X8.here hx rfl (hb hby d21_21) rfl ((if0 _ _).trans (feq (by decide)).1) q) ?_
    show Dn p e below s _ _ _ T8 (mkF m 24 #[.val (.ref a1), .val (.long y1), .second, .val (.long yp), .second, .val (.ref b1), .unset] [])
    refine Dn.st (fun t q => XS.aload X8.here hx rfl (hb hby d21_24) rfl rfl  q) ?_
    show Dn p e below s _ _ _ T8 (mkF m 26 #[.val (.ref a1), .val (.long y1), .second, .val (.long yp), .second, .val (.ref b1), .unset] [(.ref b1)])
    obtain ⟨cq9, kq9, q9a, q9b, q9c⟩ := isOf hZ e8 E_b1
    obtain ⟨_, _, ⟨T9, Lq9, kq_9, nq_9⟩, -, X9, ⟨Lc9, hQ9, lq9, yq9, zq9⟩, st9⟩ := X8.interfaceBack hx (xi := (⟨"java/util/Iterator", "next", "()Ljava/lang/Object;"⟩ : MethodName)) (y := (⟨"java/util/ArrayDeque$DeqIterator", "next", "()Ljava/lang/Object;"⟩ : MethodName)) hown (mvT hZ (hw _ (List.mem_of_getElem? (i := 164) rfl))) (mvT hZ (hw _ (List.mem_of_getElem? (i := 165) rfl))) (mvT hZ (hw _ (List.mem_of_getElem? (i := 166) rfl))) (mvT hZ (hw _ (List.mem_of_getElem? (i := 167) rfl))) (mvT hZ (hw _ (List.mem_of_getElem? (i := 168) rfl))) (mvT hZ (hw _ (List.mem_of_getElem? (i := 169) rfl))) (mvT hZ (hw _ (List.mem_of_getElem? (i := 170) rfl))) (mvT hZ (hw _ (List.mem_of_getElem? (i := 162) rfl))) (by decide) (backOf (W := 0) (rm25 l Z a0 hw [] b1 qd ar xh (own_sub xt xh (Nat.toInt32 17)) (.int (-1 : Int32)) (own_at hd es) hd ea T7.heap n0 Z0 E_b1 F_this F_rem F_cur F_last F_elements A (Ne.symm ne_qd_b1) (Ne.symm ne_ar_b1) g_b1 (own_rem1 hee hxh hxt hbe) hxh (own_b17' hee hbe) (own_at_first hee)) hZ (hw _ (List.mem_of_getElem? (i := 171) rfl)) (hw _ (List.mem_of_getElem? (i := 139) rfl)) (by decide) (by decide)) q9a q9b q9c (g := (mkF m 26 #[.val (.ref a1), .val (.long y1), .second, .val (.long yp), .second, .val (.ref b1), .unset] [(.ref b1)])) rfl (by rw [hml]; rfl) (Steps.refl _) (argsL := []) (rest := []) (lenOf pd_2 rfl) rfl (by show 2 * 0 + _ ≤ _; exact Nat.le_of_eq rfl) (hb hby d21_26) (fun _ _ => ⟨rfl, e8, (by decide : 1 + 0 ≤ _), (by decide : 4 + 0 ≤ _)⟩)
    dsimp only [Pt.U, Pt.locs, Pt.cells, Pt.slots] at X9 lq9 yq9 zq9 st9 hQ9
    subst lq9 yq9 zq9
    obtain ⟨rfl, N9q, K9⟩ := hQ9
    have N0 := Fr.app N0 N9q
    have Z0 := Nat.le_trans Z0 K9.1
    have K0 := K0.trans K9 (allS (Or.inr sz_b1) all0)
    have E_a1 := E_a1.keep K9
    have F_entries := F_entries.keep K9 (ninS ne_a1_b1 nin0)
    have F_windowTicks := F_windowTicks.keep K9 (ninS ne_a1_b1 nin0)
    have F_permits := F_permits.keep K9 (ninS ne_a1_b1 nin0)
    have E_q := E_q.keep K9
    have F_elements := F_elements.keep K9 (ninS ne_qd_b1 nin0)
    have F_head := F_head.keep K9 (ninS ne_qd_b1 nin0)
    have F_tail := F_tail.keep K9 (ninS ne_qd_b1 nin0)
    have A := A.keep K9 (ninS ne_ar_b1 nin0)
    have E_ea := E_ea.keep K9
    have F_tick_ea := F_tick_ea.keep K9 (ninS ne_ea_b1 nin0)
    have E_b1 := E_b1.keep K9
    refine Dn.tr st9 ?_
    show Dn p e below s _ _ _ T9 (mkF m 31 #[.val (.ref a1), .val (.long y1), .second, .val (.long yp), .second, .val (.ref b1), .unset] [(.ref ea)])
    obtain ⟨T10, X10, e10, st10⟩ := castY X9 hx hZ hown (hw _ (List.mem_of_getElem? (i := 69) rfl)) rfl (Ins.self E_ea) (g := (mkF m 31 #[.val (.ref a1), .val (.long y1), .second, .val (.long yp), .second, .val (.ref b1), .unset] [(.ref ea)])) rfl rfl (hb hby d21_31)
    refine Dn.st st10 ?_
    show Dn p e below s _ _ _ T10 (mkF m 34 #[.val (.ref a1), .val (.long y1), .second, .val (.long yp), .second, .val (.ref b1), .unset] [(.ref ea)])
    refine Dn.st (fun t q => XS.astore X10.here hx rfl (hb hby d21_34) rfl rfl (l' := #[.val (.ref a1), .val (.long y1), .second, .val (.long yp), .second, .val (.ref b1), .val (.ref ea)]) rfl q) ?_
    show Dn p e below s _ _ _ T10 (mkF m 36 #[.val (.ref a1), .val (.long y1), .second, .val (.long yp), .second, .val (.ref b1), .val (.ref ea)] [])
    refine Dn.st (fun t q => XS.aloadN X10.here hx rfl (hb hby d21_36) rfl rfl  q) ?_
    show Dn p e below s _ _ _ T10 (mkF m 37 #[.val (.ref a1), .val (.long y1), .second, .val (.long yp), .second, .val (.ref b1), .val (.ref ea)] [(.ref a1)])
    refine Dn.st (fun t q => XS.aload X10.here hx rfl (hb hby d21_37) rfl rfl  q) ?_
    show Dn p e below s _ _ _ T10 (mkF m 39 #[.val (.ref a1), .val (.long y1), .second, .val (.long yp), .second, .val (.ref b1), .val (.ref ea)] [(.ref ea), (.ref a1)])
    refine Dn.st (fun t q => XS.lloadN X10.here hx rfl (hb hby d21_39) rfl  q) ?_
    show Dn p e below s _ _ _ T10 (mkF m 40 #[.val (.ref a1), .val (.long y1), .second, .val (.long yp), .second, .val (.ref b1), .val (.ref ea)] [(.long y1), (.ref ea), (.ref a1)])
    obtain ⟨cq11, q11, q11'⟩ := E_a1.cell
    obtain ⟨_, _, ⟨T11, Lq11, kq_11, nq_11⟩, -, X11, ⟨Lc11, hQ11, lq11, yq11, zq11⟩, st11⟩ := X10.privateBack hx (y := (⟨"com/example/scripted_rate_limiter/scriptedratelimiter/PermitLog", "hasLeft", "(Lcom/example/scripted_rate_limiter/scriptedratelimiter/PermitLog$Entry;J)Z"⟩ : MethodName)) hown (mvT hZ (hw _ (List.mem_of_getElem? (i := 97) rfl))) (mvT hZ (hw _ (List.mem_of_getElem? (i := 98) rfl))) (own_self (mvT hZ (hw _ (List.mem_of_getElem? (i := 5) rfl))) (mvP hZ (hw _ (List.mem_of_getElem? (i := 99) rfl))) (mvT hZ (hw _ (List.mem_of_getElem? (i := 98) rfl))) (by decide)) (Cond.privateMethod_at (mvP hZ (hw _ (List.mem_of_getElem? (i := 99) rfl)) (args := #[]))) (mvT hZ (hw _ (List.mem_of_getElem? (i := 100) rfl))) (by decide) (backOf (W := 0) (rm15 l Z a0 hw [] a1 ea y1 et yw T9.heap n0 Z0 F_tick_ea F_windowTicks) hZ (hw _ (List.mem_of_getElem? (i := 100) rfl)) (hw _ (List.mem_of_getElem? (i := 6) rfl)) (by decide) (by decide)) (g := (mkF m 40 #[.val (.ref a1), .val (.long y1), .second, .val (.long yp), .second, .val (.ref b1), .val (.ref ea)] [(.long y1), (.ref ea), (.ref a1)])) rfl (by rw [hml]; rfl) (Steps.refl _) (a := a1) (by rw [e10]; exact q11) q11' (argsL := [(.ref ea), (.long y1)]) (rest := []) (lenOf pd_6 rfl) rfl (by show 2 * 0 + _ ≤ _; exact Nat.le_of_eq rfl) (hb hby d21_40) (fun _ _ => ⟨rfl, e10, (by decide : 1 + 0 ≤ _), (by decide : 4 + 0 ≤ _)⟩)
    dsimp only [Pt.U, Pt.locs, Pt.cells, Pt.slots] at X11 lq11 yq11 zq11 st11 hQ11
    subst lq11 yq11 zq11
    obtain ⟨rfl, N11q, hq11⟩ := hQ11
    have N0 := Fr.app N0 N11q
    have e11 : T11.heap = T9.heap := hq11
    refine Dn.tr st11 ?_
    show Dn p e below s _ _ _ T11 (mkF m 43 #[.val (.ref a1), .val (.long y1), .second, .val (.long yp), .second, .val (.ref b1), .val (.ref ea)] [(.int (if (y1 - et) < yw then (0 : Int32) else (1 : Int32)))])
    rw [show (if (y1 - et) < yw then (0 : Int32) else (1 : Int32)) = (0 : Int32) from (if_pos hl)]
    show Dn p e below s _ _ _ T11 (mkF m 43 #[.val (.ref a1), .val (.long y1), .second, .val (.long yp), .second, .val (.ref b1), .val (.ref ea)] [(.int (0 : Int32))])
    refine Dn.st (fun t q => XS.ifNo X11.here hx rfl (hb hby d21_43) rfl ((if0 _ _).trans (teq rfl).2) q) ?_
    show Dn p e below s _ _ _ T11 (mkF m 46 #[.val (.ref a1), .val (.long y1), .second, .val (.long yp), .second, .val (.ref b1), .val (.ref ea)] [])
    refine Dn.st (fun t q => XS.goto X11.here hx rfl (pc0 := 46) (pc' := 60) rfl (hb hby d21_46) (by decide) (by decide) q) ?_
    show Dn p e below s _ _ _ T11 (mkF m 60 #[.val (.ref a1), .val (.long y1), .second, .val (.long yp), .second, .val (.ref b1), .val (.ref ea)] [])
    refine Dn.st (fun t q => XS.lloadN X11.here hx rfl (hb hby d21_60) rfl  q) ?_
    show Dn p e below s _ _ _ T11 (mkF m 61 #[.val (.ref a1), .val (.long y1), .second, .val (.long yp), .second, .val (.ref b1), .val (.ref ea)] [(.long yp)])
    exact Dn.retJ X11 hx Bd.notSynchronized Bd.returns (hb hby d21_61) (by rw [e11]; exact ⟨rfl, N0, K0⟩) (by decide) (by decide)
theorem pd_13 : parseMethodDescriptor "(JJJ)V" = some ⟨[.long, .long, .long], none⟩ := by decide +kernel
theorem pd_14 : parseMethodDescriptor "(J)J" = some ⟨[.long], some .long⟩ := by decide +kernel
theorem pn_5 : plainName "com/example/scripted_rate_limiter/scriptedratelimiter/PermitLogDropLeftPinLaw" = true := by first | (simp [plainName, overriddenIn]; done) | decide +kernel
theorem ef_rm0 (m : MethodId) (x0 : Int64) (x1 : Int32) (x2 : Int64) (x3 : Int64) (x4 : Int64) (x5 : Int64) : entryFrame m #[(.long x0), (.int x1), (.long x2), (.long x3), (.long x4), (.long x5)] maxLocals = mkF m 0 #[.val (.long x0), .second, .val (.int x1), .val (.long x2), .second, .val (.long x3), .second, .val (.long x4), .second, .val (.long x5), .second, .unset, .unset, .unset, .unset, .unset, .unset, .unset, .unset, .unset, .unset, .unset, .unset, .unset, .unset, .unset, .unset, .unset, .unset, .unset, .unset, .unset, .unset, .unset, .unset, .unset, .unset, .unset] [] := by first | (simp [entryFrame, mkF, argsToLocals, Value.category, maxLocals]; done) | rfl
def Q0 (Z : State) (y0 : Int64) (x0 : Int32) (y2 : Int64) (y3 : Int64) (y4 : Int64) (y5 : Int64) (h0 : Heap) (n0 : Nat) (v : Option Value) (h : Heap) (L : List Loc) : Prop := v = some (.int 1) ∧ Fr n0 L
set_option maxRecDepth 65536 in
set_option maxHeartbeats 40000000 in
theorem rm0 (l : Launch) (Z : State) (a0 : Array Value) (hw : ∀ d ∈ tables_1, d.before a0 Z = true) (ws : List Jvm.Cond) (y0 : Int64) (x0 : Int32) (y2 : Int64) (y3 : Int64) (y4 : Int64) (y5 : Int64) (h0 : Heap) (n0 : Nat) (Z0 : n0 ≤ h0.size) :
    MetFree l x (head1 (Jvm.Cond.code x code maxLocals ret :: ws) room_1) (fun a U => a = #[(.long y0), (.int x0), (.long y2), (.long y3), (.long y4), (.long y5)] ∧ Z.Warmed39 U.vm ∧ U.heap = h0) (fun _ _ _ _ _ => True) (fun _ U o U' => ∃ v L, o = .returned v ∧ Q0 Z y0 x0 y2 y3 y4 y5 h0 n0 v U'.heap L ∧ FrameEnd U o U' L 7 35) := by
  refine MetFree.of_bodySF (plainFor_of_name pn_5) hisR ?_
  intro p e s m args below meth c s₁ Bd hml0 hP hK
  obtain ⟨rfl, hZ, hh⟩ := hP
  have hx := Bd.exec
  have hby := Bd.bytes
  have hml : c.maxLocals = 38 := hml0
  have hown : s.vm.findClass "com/example/scripted_rate_limiter/scriptedratelimiter/PermitLogDropLeftPinLaw" = some m.cls := findClass_of_methodNamed Bd.named
  have hnm := (name_of_methodNamed Bd.named Bd.method).1
  have X0 : Stand p l e room_1 s m #[(.long y0), (.int x0), (.long y2), (.long y3), (.long y4), (.long y5)] below meth c s₁ [] 0 0 := Stand.of_body Bd
  have e0 : s₁.heap = h0 := by rw [← hh, Bd.state]; rfl
  have N0 := Fr.nil n0
  have K0 := Keep.refl h0 []
  suffices hD : Dn p e below s (Q0 Z y0 x0 y2 y3 y4 y5 h0 n0) 7 35 s₁ (mkF m 0 #[.val (.long y0), .second, .val (.int x0), .val (.long y2), .second, .val (.long y3), .second, .val (.long y4), .second, .val (.long y5), .second, .unset, .unset, .unset, .unset, .unset, .unset, .unset, .unset, .unset, .unset, .unset, .unset, .unset, .unset, .unset, .unset, .unset, .unset, .unset, .unset, .unset, .unset, .unset, .unset, .unset, .unset, .unset] []) from by
    obtain ⟨s₂, o, q1, q2⟩ := hD
    exact ⟨s₂, o, castTop (ef_rm0 m y0 x0 y2 y3 y4 y5) q1, q2⟩
  have Z00 := Z0
  refine Dn.st (fun t q => XS.iloadN X0.here hx rfl (hb hby at_0) rfl  q) ?_
  show Dn p e below s _ _ _ s₁ (mkF m 1 #[.val (.long y0), .second, .val (.int x0), .val (.long y2), .second, .val (.long y3), .second, .val (.long y4), .second, .val (.long y5), .second, .unset, .unset, .unset, .unset, .unset, .unset, .unset, .unset, .unset, .unset, .unset, .unset, .unset, .unset, .unset, .unset, .unset, .unset, .unset, .unset, .unset, .unset, .unset, .unset, .unset, .unset, .unset] [(.int x0)])
  refine Dn.st (fun t q => XS.bipush X0.here hx rfl (hb hby at_1) q) ?_
  show Dn p e below s _ _ _ s₁ (mkF m 3 #[.val (.long y0), .second, .val (.int x0), .val (.long y2), .second, .val (.long y3), .second, .val (.long y4), .second, .val (.long y5), .second, .unset, .unset, .unset, .unset, .unset, .unset, .unset, .unset, .unset, .unset, .unset, .unset, .unset, .unset, .unset, .unset, .unset, .unset, .unset, .unset, .unset, .unset, .unset, .unset, .unset, .unset, .unset] [(.int (8 : Int32)), (.int x0)])
  refine Dn.st (fun t q => XS.iand X0.here hx rfl (hb hby at_3) rfl q) ?_
  show Dn p e below s _ _ _ s₁ (mkF m 4 #[.val (.long y0), .second, .val (.int x0), .val (.long y2), .second, .val (.long y3), .second, .val (.long y4), .second, .val (.long y5), .second, .unset, .unset, .unset, .unset, .unset, .unset, .unset, .unset, .unset, .unset, .unset, .unset, .unset, .unset, .unset, .unset, .unset, .unset, .unset, .unset, .unset, .unset, .unset, .unset, .unset, .unset, .unset] [(.int (x0 &&& (8 : Int32)))])
  have jw : ∀ (yw : Int64) (hw0 : 1 ≤ yw.toInt ∧ yw.toInt ≤ 1048576), Dn p e below s (Q0 Z y0 x0 y2 y3 y4 y5 h0 n0) (7) (35) s₁ (mkF m 28 #[.val (.long y0), .second, .val (.int x0), .val (.long y2), .second, .val (.long y3), .second, .val (.long y4), .second, .val (.long y5), .second, .unset, .unset, .unset, .unset, .unset, .unset, .unset, .unset, .unset, .unset, .unset, .unset, .unset, .unset, .unset, .unset, .unset, .unset, .unset, .unset, .unset, .unset, .unset, .unset, .unset, .unset, .unset] [(.long yw)]) := by
    intro yw hw0
    refine Dn.st (fun t q => XS.lstore X0.here hx rfl (hb hby at_28) rfl (l' := #[.val (.long y0), .second, .val (.int x0), .val (.long y2), .second, .val (.long y3), .second, .val (.long y4), .second, .val (.long y5), .second, .val (.long yw), .second, .unset, .unset, .unset, .unset, .unset, .unset, .unset, .unset, .unset, .unset, .unset, .unset, .unset, .unset, .unset, .unset, .unset, .unset, .unset, .unset, .unset, .unset, .unset, .unset, .unset]) rfl q) ?_
    show Dn p e below s _ _ _ s₁ (mkF m 30 #[.val (.long y0), .second, .val (.int x0), .val (.long y2), .second, .val (.long y3), .second, .val (.long y4), .second, .val (.long y5), .second, .val (.long yw), .second, .unset, .unset, .unset, .unset, .unset, .unset, .unset, .unset, .unset, .unset, .unset, .unset, .unset, .unset, .unset, .unset, .unset, .unset, .unset, .unset, .unset, .unset, .unset, .unset, .unset] [])
    refine Dn.st (fun t q => XS.iloadN X0.here hx rfl (hb hby at_30) rfl  q) ?_
    show Dn p e below s _ _ _ s₁ (mkF m 31 #[.val (.long y0), .second, .val (.int x0), .val (.long y2), .second, .val (.long y3), .second, .val (.long y4), .second, .val (.long y5), .second, .val (.long yw), .second, .unset, .unset, .unset, .unset, .unset, .unset, .unset, .unset, .unset, .unset, .unset, .unset, .unset, .unset, .unset, .unset, .unset, .unset, .unset, .unset, .unset, .unset, .unset, .unset, .unset] [(.int x0)])
    refine Dn.st (fun t q => XS.iconst X0.here hx rfl (hb hby at_31) q) ?_
    show Dn p e below s _ _ _ s₁ (mkF m 32 #[.val (.long y0), .second, .val (.int x0), .val (.long y2), .second, .val (.long y3), .second, .val (.long y4), .second, .val (.long y5), .second, .val (.long yw), .second, .unset, .unset, .unset, .unset, .unset, .unset, .unset, .unset, .unset, .unset, .unset, .unset, .unset, .unset, .unset, .unset, .unset, .unset, .unset, .unset, .unset, .unset, .unset, .unset, .unset] [(.int (4 : Int32)), (.int x0)])
    refine Dn.st (fun t q => XS.iushr X0.here hx rfl (hb hby at_32) rfl q) ?_
    show Dn p e below s _ _ _ s₁ (mkF m 33 #[.val (.long y0), .second, .val (.int x0), .val (.long y2), .second, .val (.long y3), .second, .val (.long y4), .second, .val (.long y5), .second, .val (.long yw), .second, .unset, .unset, .unset, .unset, .unset, .unset, .unset, .unset, .unset, .unset, .unset, .unset, .unset, .unset, .unset, .unset, .unset, .unset, .unset, .unset, .unset, .unset, .unset, .unset, .unset] [(.int ((x0.toUInt32 >>> ((4 : Int32) &&& 31).toUInt32).toInt32))])
    refine Dn.st (fun t q => XS.bipush X0.here hx rfl (hb hby at_33) q) ?_
    show Dn p e below s _ _ _ s₁ (mkF m 35 #[.val (.long y0), .second, .val (.int x0), .val (.long y2), .second, .val (.long y3), .second, .val (.long y4), .second, .val (.long y5), .second, .val (.long yw), .second, .unset, .unset, .unset, .unset, .unset, .unset, .unset, .unset, .unset, .unset, .unset, .unset, .unset, .unset, .unset, .unset, .unset, .unset, .unset, .unset, .unset, .unset, .unset, .unset, .unset] [(.int (15 : Int32)), (.int ((x0.toUInt32 >>> ((4 : Int32) &&& 31).toUInt32).toInt32))])
    refine Dn.st (fun t q => XS.iand X0.here hx rfl (hb hby at_35) rfl q) ?_
    show Dn p e below s _ _ _ s₁ (mkF m 36 #[.val (.long y0), .second, .val (.int x0), .val (.long y2), .second, .val (.long y3), .second, .val (.long y4), .second, .val (.long y5), .second, .val (.long yw), .second, .unset, .unset, .unset, .unset, .unset, .unset, .unset, .unset, .unset, .unset, .unset, .unset, .unset, .unset, .unset, .unset, .unset, .unset, .unset, .unset, .unset, .unset, .unset, .unset, .unset] [(.int (((x0.toUInt32 >>> ((4 : Int32) &&& 31).toUInt32).toInt32) &&& (15 : Int32)))])
    refine Dn.st (fun t q => XS.i2l X0.here hx rfl (hb hby at_36) rfl q) ?_
    show Dn p e below s _ _ _ s₁ (mkF m 37 #[.val (.long y0), .second, .val (.int x0), .val (.long y2), .second, .val (.long y3), .second, .val (.long y4), .second, .val (.long y5), .second, .val (.long yw), .second, .unset, .unset, .unset, .unset, .unset, .unset, .unset, .unset, .unset, .unset, .unset, .unset, .unset, .unset, .unset, .unset, .unset, .unset, .unset, .unset, .unset, .unset, .unset, .unset, .unset] [(.long ((((x0.toUInt32 >>> ((4 : Int32) &&& 31).toUInt32).toInt32) &&& (15 : Int32)).toInt64))])
    refine Dn.st (fun t q => XS.lload X0.here hx rfl (hb hby at_37) rfl  q) ?_
    show Dn p e below s _ _ _ s₁ (mkF m 39 #[.val (.long y0), .second, .val (.int x0), .val (.long y2), .second, .val (.long y3), .second, .val (.long y4), .second, .val (.long y5), .second, .val (.long yw), .second, .unset, .unset, .unset, .unset, .unset, .unset, .unset, .unset, .unset, .unset, .unset, .unset, .unset, .unset, .unset, .unset, .unset, .unset, .unset, .unset, .unset, .unset, .unset, .unset, .unset] [(.long yw), (.long ((((x0.toUInt32 >>> ((4 : Int32) &&& 31).toUInt32).toInt32) &&& (15 : Int32)).toInt64))])
    refine Dn.st (fun t q => XS.lrem X0.here hx rfl (hb hby at_39) rfl (own_nz64 (by omega)) q) ?_
    show Dn p e below s _ _ _ s₁ (mkF m 40 #[.val (.long y0), .second, .val (.int x0), .val (.long y2), .second, .val (.long y3), .second, .val (.long y4), .second, .val (.long y5), .second, .val (.long yw), .second, .unset, .unset, .unset, .unset, .unset, .unset, .unset, .unset, .unset, .unset, .unset, .unset, .unset, .unset, .unset, .unset, .unset, .unset, .unset, .unset, .unset, .unset, .unset, .unset, .unset] [(.long (((((x0.toUInt32 >>> ((4 : Int32) &&& 31).toUInt32).toInt32) &&& (15 : Int32)).toInt64) - (((((x0.toUInt32 >>> ((4 : Int32) &&& 31).toUInt32).toInt32) &&& (15 : Int32)).toInt64) / yw) * yw))])
    generalize hga : (((((x0.toUInt32 >>> ((4 : Int32) &&& 31).toUInt32).toInt32) &&& (15 : Int32)).toInt64) - (((((x0.toUInt32 >>> ((4 : Int32) &&& 31).toUInt32).toInt32) &&& (15 : Int32)).toInt64) / yw) * yw) = ga
    show Dn p e below s _ _ _ s₁ (mkF m 40 #[.val (.long y0), .second, .val (.int x0), .val (.long y2), .second, .val (.long y3), .second, .val (.long y4), .second, .val (.long y5), .second, .val (.long yw), .second, .unset, .unset, .unset, .unset, .unset, .unset, .unset, .unset, .unset, .unset, .unset, .unset, .unset, .unset, .unset, .unset, .unset, .unset, .unset, .unset, .unset, .unset, .unset, .unset, .unset] [(.long ga)])
    have bga := own_mod (own_15 _) (by omega) hga
    have eu : (yw - ga).toInt = yw.toInt - ga.toInt := Jvm.Kit.i64_sub (by omega) (by omega)
    refine Dn.st (fun t q => XS.lstore X0.here hx rfl (hb hby at_40) rfl (l' := #[.val (.long y0), .second, .val (.int x0), .val (.long y2), .second, .val (.long y3), .second, .val (.long y4), .second, .val (.long y5), .second, .val (.long yw), .second, .val (.long ga), .second, .unset, .unset, .unset, .unset, .unset, .unset, .unset, .unset, .unset, .unset, .unset, .unset, .unset, .unset, .unset, .unset, .unset, .unset, .unset, .unset, .unset, .unset, .unset]) rfl q) ?_
    show Dn p e below s _ _ _ s₁ (mkF m 42 #[.val (.long y0), .second, .val (.int x0), .val (.long y2), .second, .val (.long y3), .second, .val (.long y4), .second, .val (.long y5), .second, .val (.long yw), .second, .val (.long ga), .second, .unset, .unset, .unset, .unset, .unset, .unset, .unset, .unset, .unset, .unset, .unset, .unset, .unset, .unset, .unset, .unset, .unset, .unset, .unset, .unset, .unset, .unset, .unset] [])
    refine Dn.st (fun t q => XS.iloadN X0.here hx rfl (hb hby at_42) rfl  q) ?_
    show Dn p e below s _ _ _ s₁ (mkF m 43 #[.val (.long y0), .second, .val (.int x0), .val (.long y2), .second, .val (.long y3), .second, .val (.long y4), .second, .val (.long y5), .second, .val (.long yw), .second, .val (.long ga), .second, .unset, .unset, .unset, .unset, .unset, .unset, .unset, .unset, .unset, .unset, .unset, .unset, .unset, .unset, .unset, .unset, .unset, .unset, .unset, .unset, .unset, .unset, .unset] [(.int x0)])
    refine Dn.st (fun t q => XS.bipush X0.here hx rfl (hb hby at_43) q) ?_
    show Dn p e below s _ _ _ s₁ (mkF m 45 #[.val (.long y0), .second, .val (.int x0), .val (.long y2), .second, .val (.long y3), .second, .val (.long y4), .second, .val (.long y5), .second, .val (.long yw), .second, .val (.long ga), .second, .unset, .unset, .unset, .unset, .unset, .unset, .unset, .unset, .unset, .unset, .unset, .unset, .unset, .unset, .unset, .unset, .unset, .unset, .unset, .unset, .unset, .unset, .unset] [(.int (8 : Int32)), (.int x0)])
    refine Dn.st (fun t q => XS.iushr X0.here hx rfl (hb hby at_45) rfl q) ?_
    show Dn p e below s _ _ _ s₁ (mkF m 46 #[.val (.long y0), .second, .val (.int x0), .val (.long y2), .second, .val (.long y3), .second, .val (.long y4), .second, .val (.long y5), .second, .val (.long yw), .second, .val (.long ga), .second, .unset, .unset, .unset, .unset, .unset, .unset, .unset, .unset, .unset, .unset, .unset, .unset, .unset, .unset, .unset, .unset, .unset, .unset, .unset, .unset, .unset, .unset, .unset] [(.int ((x0.toUInt32 >>> ((8 : Int32) &&& 31).toUInt32).toInt32))])
    refine Dn.st (fun t q => XS.bipush X0.here hx rfl (hb hby at_46) q) ?_
    show Dn p e below s _ _ _ s₁ (mkF m 48 #[.val (.long y0), .second, .val (.int x0), .val (.long y2), .second, .val (.long y3), .second, .val (.long y4), .second, .val (.long y5), .second, .val (.long yw), .second, .val (.long ga), .second, .unset, .unset, .unset, .unset, .unset, .unset, .unset, .unset, .unset, .unset, .unset, .unset, .unset, .unset, .unset, .unset, .unset, .unset, .unset, .unset, .unset, .unset, .unset] [(.int (15 : Int32)), (.int ((x0.toUInt32 >>> ((8 : Int32) &&& 31).toUInt32).toInt32))])
    refine Dn.st (fun t q => XS.iand X0.here hx rfl (hb hby at_48) rfl q) ?_
    show Dn p e below s _ _ _ s₁ (mkF m 49 #[.val (.long y0), .second, .val (.int x0), .val (.long y2), .second, .val (.long y3), .second, .val (.long y4), .second, .val (.long y5), .second, .val (.long yw), .second, .val (.long ga), .second, .unset, .unset, .unset, .unset, .unset, .unset, .unset, .unset, .unset, .unset, .unset, .unset, .unset, .unset, .unset, .unset, .unset, .unset, .unset, .unset, .unset, .unset, .unset] [(.int (((x0.toUInt32 >>> ((8 : Int32) &&& 31).toUInt32).toInt32) &&& (15 : Int32)))])
    refine Dn.st (fun t q => XS.i2l X0.here hx rfl (hb hby at_49) rfl q) ?_
    show Dn p e below s _ _ _ s₁ (mkF m 50 #[.val (.long y0), .second, .val (.int x0), .val (.long y2), .second, .val (.long y3), .second, .val (.long y4), .second, .val (.long y5), .second, .val (.long yw), .second, .val (.long ga), .second, .unset, .unset, .unset, .unset, .unset, .unset, .unset, .unset, .unset, .unset, .unset, .unset, .unset, .unset, .unset, .unset, .unset, .unset, .unset, .unset, .unset, .unset, .unset] [(.long ((((x0.toUInt32 >>> ((8 : Int32) &&& 31).toUInt32).toInt32) &&& (15 : Int32)).toInt64))])
    refine Dn.st (fun t q => XS.lload X0.here hx rfl (hb hby at_50) rfl  q) ?_
    show Dn p e below s _ _ _ s₁ (mkF m 52 #[.val (.long y0), .second, .val (.int x0), .val (.long y2), .second, .val (.long y3), .second, .val (.long y4), .second, .val (.long y5), .second, .val (.long yw), .second, .val (.long ga), .second, .unset, .unset, .unset, .unset, .unset, .unset, .unset, .unset, .unset, .unset, .unset, .unset, .unset, .unset, .unset, .unset, .unset, .unset, .unset, .unset, .unset, .unset, .unset] [(.long yw), (.long ((((x0.toUInt32 >>> ((8 : Int32) &&& 31).toUInt32).toInt32) &&& (15 : Int32)).toInt64))])
    refine Dn.st (fun t q => XS.lload X0.here hx rfl (hb hby at_52) rfl  q) ?_
    show Dn p e below s _ _ _ s₁ (mkF m 54 #[.val (.long y0), .second, .val (.int x0), .val (.long y2), .second, .val (.long y3), .second, .val (.long y4), .second, .val (.long y5), .second, .val (.long yw), .second, .val (.long ga), .second, .unset, .unset, .unset, .unset, .unset, .unset, .unset, .unset, .unset, .unset, .unset, .unset, .unset, .unset, .unset, .unset, .unset, .unset, .unset, .unset, .unset, .unset, .unset] [(.long ga), (.long yw), (.long ((((x0.toUInt32 >>> ((8 : Int32) &&& 31).toUInt32).toInt32) &&& (15 : Int32)).toInt64))])
    refine Dn.st (fun t q => XS.lsub X0.here hx rfl (hb hby at_54) rfl q) ?_
    show Dn p e below s _ _ _ s₁ (mkF m 55 #[.val (.long y0), .second, .val (.int x0), .val (.long y2), .second, .val (.long y3), .second, .val (.long y4), .second, .val (.long y5), .second, .val (.long yw), .second, .val (.long ga), .second, .unset, .unset, .unset, .unset, .unset, .unset, .unset, .unset, .unset, .unset, .unset, .unset, .unset, .unset, .unset, .unset, .unset, .unset, .unset, .unset, .unset, .unset, .unset] [(.long (yw - ga)), (.long ((((x0.toUInt32 >>> ((8 : Int32) &&& 31).toUInt32).toInt32) &&& (15 : Int32)).toInt64))])
    refine Dn.st (fun t q => XS.lrem X0.here hx rfl (hb hby at_55) rfl (own_nz64 (by rw [eu]; omega)) q) ?_
    show Dn p e below s _ _ _ s₁ (mkF m 56 #[.val (.long y0), .second, .val (.int x0), .val (.long y2), .second, .val (.long y3), .second, .val (.long y4), .second, .val (.long y5), .second, .val (.long yw), .second, .val (.long ga), .second, .unset, .unset, .unset, .unset, .unset, .unset, .unset, .unset, .unset, .unset, .unset, .unset, .unset, .unset, .unset, .unset, .unset, .unset, .unset, .unset, .unset, .unset, .unset] [(.long (((((x0.toUInt32 >>> ((8 : Int32) &&& 31).toUInt32).toInt32) &&& (15 : Int32)).toInt64) - (((((x0.toUInt32 >>> ((8 : Int32) &&& 31).toUInt32).toInt32) &&& (15 : Int32)).toInt64) / (yw - ga)) * (yw - ga)))])
    generalize hgb : (((((x0.toUInt32 >>> ((8 : Int32) &&& 31).toUInt32).toInt32) &&& (15 : Int32)).toInt64) - (((((x0.toUInt32 >>> ((8 : Int32) &&& 31).toUInt32).toInt32) &&& (15 : Int32)).toInt64) / (yw - ga)) * (yw - ga)) = gb
    show Dn p e below s _ _ _ s₁ (mkF m 56 #[.val (.long y0), .second, .val (.int x0), .val (.long y2), .second, .val (.long y3), .second, .val (.long y4), .second, .val (.long y5), .second, .val (.long yw), .second, .val (.long ga), .second, .unset, .unset, .unset, .unset, .unset, .unset, .unset, .unset, .unset, .unset, .unset, .unset, .unset, .unset, .unset, .unset, .unset, .unset, .unset, .unset, .unset, .unset, .unset] [(.long gb)])
    have bgb := own_mod (own_15 _) (by rw [eu]; omega) hgb
    rw [eu] at bgb
    refine Dn.st (fun t q => XS.lstore X0.here hx rfl (hb hby at_56) rfl (l' := #[.val (.long y0), .second, .val (.int x0), .val (.long y2), .second, .val (.long y3), .second, .val (.long y4), .second, .val (.long y5), .second, .val (.long yw), .second, .val (.long ga), .second, .val (.long gb), .second, .unset, .unset, .unset, .unset, .unset, .unset, .unset, .unset, .unset, .unset, .unset, .unset, .unset, .unset, .unset, .unset, .unset, .unset, .unset, .unset, .unset]) rfl q) ?_
    show Dn p e below s _ _ _ s₁ (mkF m 58 #[.val (.long y0), .second, .val (.int x0), .val (.long y2), .second, .val (.long y3), .second, .val (.long y4), .second, .val (.long y5), .second, .val (.long yw), .second, .val (.long ga), .second, .val (.long gb), .second, .unset, .unset, .unset, .unset, .unset, .unset, .unset, .unset, .unset, .unset, .unset, .unset, .unset, .unset, .unset, .unset, .unset, .unset, .unset, .unset, .unset] [])
    refine Dn.st (fun t q => XS.lloadN X0.here hx rfl (hb hby at_58) rfl  q) ?_
    show Dn p e below s _ _ _ s₁ (mkF m 59 #[.val (.long y0), .second, .val (.int x0), .val (.long y2), .second, .val (.long y3), .second, .val (.long y4), .second, .val (.long y5), .second, .val (.long yw), .second, .val (.long ga), .second, .val (.long gb), .second, .unset, .unset, .unset, .unset, .unset, .unset, .unset, .unset, .unset, .unset, .unset, .unset, .unset, .unset, .unset, .unset, .unset, .unset, .unset, .unset, .unset] [(.long y0)])
    refine Dn.st (X0.ldc2Long hx hown (mvT hZ (hw _ (List.mem_of_getElem? (i := 0) rfl))) (g := (mkF m 59 #[.val (.long y0), .second, .val (.int x0), .val (.long y2), .second, .val (.long y3), .second, .val (.long y4), .second, .val (.long y5), .second, .val (.long yw), .second, .val (.long ga), .second, .val (.long gb), .second, .unset, .unset, .unset, .unset, .unset, .unset, .unset, .unset, .unset, .unset, .unset, .unset, .unset, .unset, .unset, .unset, .unset, .unset, .unset, .unset, .unset] [(.long y0)])) rfl (hb hby at_59)) ?_
    show Dn p e below s _ _ _ s₁ (mkF m 62 #[.val (.long y0), .second, .val (.int x0), .val (.long y2), .second, .val (.long y3), .second, .val (.long y4), .second, .val (.long y5), .second, .val (.long yw), .second, .val (.long ga), .second, .val (.long gb), .second, .unset, .unset, .unset, .unset, .unset, .unset, .unset, .unset, .unset, .unset, .unset, .unset, .unset, .unset, .unset, .unset, .unset, .unset, .unset, .unset, .unset] [(.long (4611686018427387903 : Int64)), (.long y0)])
    refine Dn.st (fun t q => XS.land X0.here hx rfl (hb hby at_62) rfl q) ?_
    show Dn p e below s _ _ _ s₁ (mkF m 63 #[.val (.long y0), .second, .val (.int x0), .val (.long y2), .second, .val (.long y3), .second, .val (.long y4), .second, .val (.long y5), .second, .val (.long yw), .second, .val (.long ga), .second, .val (.long gb), .second, .unset, .unset, .unset, .unset, .unset, .unset, .unset, .unset, .unset, .unset, .unset, .unset, .unset, .unset, .unset, .unset, .unset, .unset, .unset, .unset, .unset] [(.long (y0 &&& (4611686018427387903 : Int64)))])
    generalize ht1 : (y0 &&& (4611686018427387903 : Int64)) = t1
    show Dn p e below s _ _ _ s₁ (mkF m 63 #[.val (.long y0), .second, .val (.int x0), .val (.long y2), .second, .val (.long y3), .second, .val (.long y4), .second, .val (.long y5), .second, .val (.long yw), .second, .val (.long ga), .second, .val (.long gb), .second, .unset, .unset, .unset, .unset, .unset, .unset, .unset, .unset, .unset, .unset, .unset, .unset, .unset, .unset, .unset, .unset, .unset, .unset, .unset, .unset, .unset] [(.long t1)])
    have bt1 := own_t1 ht1
    refine Dn.st (fun t q => XS.lstore X0.here hx rfl (hb hby at_63) rfl (l' := #[.val (.long y0), .second, .val (.int x0), .val (.long y2), .second, .val (.long y3), .second, .val (.long y4), .second, .val (.long y5), .second, .val (.long yw), .second, .val (.long ga), .second, .val (.long gb), .second, .val (.long t1), .second, .unset, .unset, .unset, .unset, .unset, .unset, .unset, .unset, .unset, .unset, .unset, .unset, .unset, .unset, .unset, .unset, .unset, .unset, .unset]) rfl q) ?_
    show Dn p e below s _ _ _ s₁ (mkF m 65 #[.val (.long y0), .second, .val (.int x0), .val (.long y2), .second, .val (.long y3), .second, .val (.long y4), .second, .val (.long y5), .second, .val (.long yw), .second, .val (.long ga), .second, .val (.long gb), .second, .val (.long t1), .second, .unset, .unset, .unset, .unset, .unset, .unset, .unset, .unset, .unset, .unset, .unset, .unset, .unset, .unset, .unset, .unset, .unset, .unset, .unset] [])
    refine Dn.st (fun t q => XS.lload X0.here hx rfl (hb hby at_65) rfl  q) ?_
    show Dn p e below s _ _ _ s₁ (mkF m 67 #[.val (.long y0), .second, .val (.int x0), .val (.long y2), .second, .val (.long y3), .second, .val (.long y4), .second, .val (.long y5), .second, .val (.long yw), .second, .val (.long ga), .second, .val (.long gb), .second, .val (.long t1), .second, .unset, .unset, .unset, .unset, .unset, .unset, .unset, .unset, .unset, .unset, .unset, .unset, .unset, .unset, .unset, .unset, .unset, .unset, .unset] [(.long t1)])
    refine Dn.st (fun t q => XS.lload X0.here hx rfl (hb hby at_67) rfl  q) ?_
    show Dn p e below s _ _ _ s₁ (mkF m 69 #[.val (.long y0), .second, .val (.int x0), .val (.long y2), .second, .val (.long y3), .second, .val (.long y4), .second, .val (.long y5), .second, .val (.long yw), .second, .val (.long ga), .second, .val (.long gb), .second, .val (.long t1), .second, .unset, .unset, .unset, .unset, .unset, .unset, .unset, .unset, .unset, .unset, .unset, .unset, .unset, .unset, .unset, .unset, .unset, .unset, .unset] [(.long ga), (.long t1)])
    refine Dn.st (fun t q => XS.ladd X0.here hx rfl (hb hby at_69) rfl q) ?_
    show Dn p e below s _ _ _ s₁ (mkF m 70 #[.val (.long y0), .second, .val (.int x0), .val (.long y2), .second, .val (.long y3), .second, .val (.long y4), .second, .val (.long y5), .second, .val (.long yw), .second, .val (.long ga), .second, .val (.long gb), .second, .val (.long t1), .second, .unset, .unset, .unset, .unset, .unset, .unset, .unset, .unset, .unset, .unset, .unset, .unset, .unset, .unset, .unset, .unset, .unset, .unset, .unset] [(.long (t1 + ga))])
    generalize ht2 : (t1 + ga) = t2
    show Dn p e below s _ _ _ s₁ (mkF m 70 #[.val (.long y0), .second, .val (.int x0), .val (.long y2), .second, .val (.long y3), .second, .val (.long y4), .second, .val (.long y5), .second, .val (.long yw), .second, .val (.long ga), .second, .val (.long gb), .second, .val (.long t1), .second, .unset, .unset, .unset, .unset, .unset, .unset, .unset, .unset, .unset, .unset, .unset, .unset, .unset, .unset, .unset, .unset, .unset, .unset, .unset] [(.long t2)])
    have et2 := own_tadd (B := 4611686018427387904) bt1 (by omega) ⟨bga.1, bga.2.2⟩ ht2
    refine Dn.st (fun t q => XS.lstore X0.here hx rfl (hb hby at_70) rfl (l' := #[.val (.long y0), .second, .val (.int x0), .val (.long y2), .second, .val (.long y3), .second, .val (.long y4), .second, .val (.long y5), .second, .val (.long yw), .second, .val (.long ga), .second, .val (.long gb), .second, .val (.long t1), .second, .val (.long t2), .second, .unset, .unset, .unset, .unset, .unset, .unset, .unset, .unset, .unset, .unset, .unset, .unset, .unset, .unset, .unset, .unset, .unset]) rfl q) ?_
    show Dn p e below s _ _ _ s₁ (mkF m 72 #[.val (.long y0), .second, .val (.int x0), .val (.long y2), .second, .val (.long y3), .second, .val (.long y4), .second, .val (.long y5), .second, .val (.long yw), .second, .val (.long ga), .second, .val (.long gb), .second, .val (.long t1), .second, .val (.long t2), .second, .unset, .unset, .unset, .unset, .unset, .unset, .unset, .unset, .unset, .unset, .unset, .unset, .unset, .unset, .unset, .unset, .unset] [])
    refine Dn.st (fun t q => XS.lload X0.here hx rfl (hb hby at_72) rfl  q) ?_
    show Dn p e below s _ _ _ s₁ (mkF m 74 #[.val (.long y0), .second, .val (.int x0), .val (.long y2), .second, .val (.long y3), .second, .val (.long y4), .second, .val (.long y5), .second, .val (.long yw), .second, .val (.long ga), .second, .val (.long gb), .second, .val (.long t1), .second, .val (.long t2), .second, .unset, .unset, .unset, .unset, .unset, .unset, .unset, .unset, .unset, .unset, .unset, .unset, .unset, .unset, .unset, .unset, .unset] [(.long t2)])
    refine Dn.st (fun t q => XS.lload X0.here hx rfl (hb hby at_74) rfl  q) ?_
    show Dn p e below s _ _ _ s₁ (mkF m 76 #[.val (.long y0), .second, .val (.int x0), .val (.long y2), .second, .val (.long y3), .second, .val (.long y4), .second, .val (.long y5), .second, .val (.long yw), .second, .val (.long ga), .second, .val (.long gb), .second, .val (.long t1), .second, .val (.long t2), .second, .unset, .unset, .unset, .unset, .unset, .unset, .unset, .unset, .unset, .unset, .unset, .unset, .unset, .unset, .unset, .unset, .unset] [(.long gb), (.long t2)])
    refine Dn.st (fun t q => XS.ladd X0.here hx rfl (hb hby at_76) rfl q) ?_
    show Dn p e below s _ _ _ s₁ (mkF m 77 #[.val (.long y0), .second, .val (.int x0), .val (.long y2), .second, .val (.long y3), .second, .val (.long y4), .second, .val (.long y5), .second, .val (.long yw), .second, .val (.long ga), .second, .val (.long gb), .second, .val (.long t1), .second, .val (.long t2), .second, .unset, .unset, .unset, .unset, .unset, .unset, .unset, .unset, .unset, .unset, .unset, .unset, .unset, .unset, .unset, .unset, .unset] [(.long (t2 + gb))])
    generalize ht3 : (t2 + gb) = t3
    show Dn p e below s _ _ _ s₁ (mkF m 77 #[.val (.long y0), .second, .val (.int x0), .val (.long y2), .second, .val (.long y3), .second, .val (.long y4), .second, .val (.long y5), .second, .val (.long yw), .second, .val (.long ga), .second, .val (.long gb), .second, .val (.long t1), .second, .val (.long t2), .second, .unset, .unset, .unset, .unset, .unset, .unset, .unset, .unset, .unset, .unset, .unset, .unset, .unset, .unset, .unset, .unset, .unset] [(.long t3)])
    have et3 := own_tadd (B := 4611686018427387904 + 16) (t := t2) ⟨by omega, by omega⟩ (by omega) ⟨bgb.1, bgb.2.2⟩ ht3
    refine Dn.st (fun t q => XS.lstore X0.here hx rfl (hb hby at_77) rfl (l' := #[.val (.long y0), .second, .val (.int x0), .val (.long y2), .second, .val (.long y3), .second, .val (.long y4), .second, .val (.long y5), .second, .val (.long yw), .second, .val (.long ga), .second, .val (.long gb), .second, .val (.long t1), .second, .val (.long t2), .second, .val (.long t3), .second, .unset, .unset, .unset, .unset, .unset, .unset, .unset, .unset, .unset, .unset, .unset, .unset, .unset, .unset, .unset]) rfl q) ?_
    show Dn p e below s _ _ _ s₁ (mkF m 79 #[.val (.long y0), .second, .val (.int x0), .val (.long y2), .second, .val (.long y3), .second, .val (.long y4), .second, .val (.long y5), .second, .val (.long yw), .second, .val (.long ga), .second, .val (.long gb), .second, .val (.long t1), .second, .val (.long t2), .second, .val (.long t3), .second, .unset, .unset, .unset, .unset, .unset, .unset, .unset, .unset, .unset, .unset, .unset, .unset, .unset, .unset, .unset] [])
    refine Dn.st (fun t q => XS.lconst X0.here hx rfl (hb hby at_79) q) ?_
    show Dn p e below s _ _ _ s₁ (mkF m 80 #[.val (.long y0), .second, .val (.int x0), .val (.long y2), .second, .val (.long y3), .second, .val (.long y4), .second, .val (.long y5), .second, .val (.long yw), .second, .val (.long ga), .second, .val (.long gb), .second, .val (.long t1), .second, .val (.long t2), .second, .val (.long t3), .second, .unset, .unset, .unset, .unset, .unset, .unset, .unset, .unset, .unset, .unset, .unset, .unset, .unset, .unset, .unset] [(.long (1 : Int64))])
    refine Dn.st (fun t q => XS.lload X0.here hx rfl (hb hby at_80) rfl  q) ?_
    show Dn p e below s _ _ _ s₁ (mkF m 82 #[.val (.long y0), .second, .val (.int x0), .val (.long y2), .second, .val (.long y3), .second, .val (.long y4), .second, .val (.long y5), .second, .val (.long yw), .second, .val (.long ga), .second, .val (.long gb), .second, .val (.long t1), .second, .val (.long t2), .second, .val (.long t3), .second, .unset, .unset, .unset, .unset, .unset, .unset, .unset, .unset, .unset, .unset, .unset, .unset, .unset, .unset, .unset] [(.long y3), (.long (1 : Int64))])
    refine Dn.st (X0.ldc2Long hx hown (mvT hZ (hw _ (List.mem_of_getElem? (i := 1) rfl))) (g := (mkF m 82 #[.val (.long y0), .second, .val (.int x0), .val (.long y2), .second, .val (.long y3), .second, .val (.long y4), .second, .val (.long y5), .second, .val (.long yw), .second, .val (.long ga), .second, .val (.long gb), .second, .val (.long t1), .second, .val (.long t2), .second, .val (.long t3), .second, .unset, .unset, .unset, .unset, .unset, .unset, .unset, .unset, .unset, .unset, .unset, .unset, .unset, .unset, .unset] [(.long y3), (.long (1 : Int64))])) rfl (hb hby at_82)) ?_
    show Dn p e below s _ _ _ s₁ (mkF m 85 #[.val (.long y0), .second, .val (.int x0), .val (.long y2), .second, .val (.long y3), .second, .val (.long y4), .second, .val (.long y5), .second, .val (.long yw), .second, .val (.long ga), .second, .val (.long gb), .second, .val (.long t1), .second, .val (.long t2), .second, .val (.long t3), .second, .unset, .unset, .unset, .unset, .unset, .unset, .unset, .unset, .unset, .unset, .unset, .unset, .unset, .unset, .unset] [(.long (281474976710655 : Int64)), (.long y3), (.long (1 : Int64))])
    refine Dn.st (fun t q => XS.land X0.here hx rfl (hb hby at_85) rfl q) ?_
    show Dn p e below s _ _ _ s₁ (mkF m 86 #[.val (.long y0), .second, .val (.int x0), .val (.long y2), .second, .val (.long y3), .second, .val (.long y4), .second, .val (.long y5), .second, .val (.long yw), .second, .val (.long ga), .second, .val (.long gb), .second, .val (.long t1), .second, .val (.long t2), .second, .val (.long t3), .second, .unset, .unset, .unset, .unset, .unset, .unset, .unset, .unset, .unset, .unset, .unset, .unset, .unset, .unset, .unset] [(.long (y3 &&& (281474976710655 : Int64))), (.long (1 : Int64))])
    refine Dn.st (fun t q => XS.ladd X0.here hx rfl (hb hby at_86) rfl q) ?_
    show Dn p e below s _ _ _ s₁ (mkF m 87 #[.val (.long y0), .second, .val (.int x0), .val (.long y2), .second, .val (.long y3), .second, .val (.long y4), .second, .val (.long y5), .second, .val (.long yw), .second, .val (.long ga), .second, .val (.long gb), .second, .val (.long t1), .second, .val (.long t2), .second, .val (.long t3), .second, .unset, .unset, .unset, .unset, .unset, .unset, .unset, .unset, .unset, .unset, .unset, .unset, .unset, .unset, .unset] [(.long ((1 : Int64) + (y3 &&& (281474976710655 : Int64))))])
    generalize hc1 : ((1 : Int64) + (y3 &&& (281474976710655 : Int64))) = c1
    show Dn p e below s _ _ _ s₁ (mkF m 87 #[.val (.long y0), .second, .val (.int x0), .val (.long y2), .second, .val (.long y3), .second, .val (.long y4), .second, .val (.long y5), .second, .val (.long yw), .second, .val (.long ga), .second, .val (.long gb), .second, .val (.long t1), .second, .val (.long t2), .second, .val (.long t3), .second, .unset, .unset, .unset, .unset, .unset, .unset, .unset, .unset, .unset, .unset, .unset, .unset, .unset, .unset, .unset] [(.long c1)])
    refine Dn.st (fun t q => XS.lstore X0.here hx rfl (hb hby at_87) rfl (l' := #[.val (.long y0), .second, .val (.int x0), .val (.long y2), .second, .val (.long y3), .second, .val (.long y4), .second, .val (.long y5), .second, .val (.long yw), .second, .val (.long ga), .second, .val (.long gb), .second, .val (.long t1), .second, .val (.long t2), .second, .val (.long t3), .second, .val (.long c1), .second, .unset, .unset, .unset, .unset, .unset, .unset, .unset, .unset, .unset, .unset, .unset, .unset, .unset]) rfl q) ?_
    show Dn p e below s _ _ _ s₁ (mkF m 89 #[.val (.long y0), .second, .val (.int x0), .val (.long y2), .second, .val (.long y3), .second, .val (.long y4), .second, .val (.long y5), .second, .val (.long yw), .second, .val (.long ga), .second, .val (.long gb), .second, .val (.long t1), .second, .val (.long t2), .second, .val (.long t3), .second, .val (.long c1), .second, .unset, .unset, .unset, .unset, .unset, .unset, .unset, .unset, .unset, .unset, .unset, .unset, .unset] [])
    refine Dn.st (fun t q => XS.lconst X0.here hx rfl (hb hby at_89) q) ?_
    show Dn p e below s _ _ _ s₁ (mkF m 90 #[.val (.long y0), .second, .val (.int x0), .val (.long y2), .second, .val (.long y3), .second, .val (.long y4), .second, .val (.long y5), .second, .val (.long yw), .second, .val (.long ga), .second, .val (.long gb), .second, .val (.long t1), .second, .val (.long t2), .second, .val (.long t3), .second, .val (.long c1), .second, .unset, .unset, .unset, .unset, .unset, .unset, .unset, .unset, .unset, .unset, .unset, .unset, .unset] [(.long (1 : Int64))])
    refine Dn.st (fun t q => XS.lload X0.here hx rfl (hb hby at_90) rfl  q) ?_
    show Dn p e below s _ _ _ s₁ (mkF m 92 #[.val (.long y0), .second, .val (.int x0), .val (.long y2), .second, .val (.long y3), .second, .val (.long y4), .second, .val (.long y5), .second, .val (.long yw), .second, .val (.long ga), .second, .val (.long gb), .second, .val (.long t1), .second, .val (.long t2), .second, .val (.long t3), .second, .val (.long c1), .second, .unset, .unset, .unset, .unset, .unset, .unset, .unset, .unset, .unset, .unset, .unset, .unset, .unset] [(.long y4), (.long (1 : Int64))])
    refine Dn.st (X0.ldc2Long hx hown (mvT hZ (hw _ (List.mem_of_getElem? (i := 1) rfl))) (g := (mkF m 92 #[.val (.long y0), .second, .val (.int x0), .val (.long y2), .second, .val (.long y3), .second, .val (.long y4), .second, .val (.long y5), .second, .val (.long yw), .second, .val (.long ga), .second, .val (.long gb), .second, .val (.long t1), .second, .val (.long t2), .second, .val (.long t3), .second, .val (.long c1), .second, .unset, .unset, .unset, .unset, .unset, .unset, .unset, .unset, .unset, .unset, .unset, .unset, .unset] [(.long y4), (.long (1 : Int64))])) rfl (hb hby at_92)) ?_
    show Dn p e below s _ _ _ s₁ (mkF m 95 #[.val (.long y0), .second, .val (.int x0), .val (.long y2), .second, .val (.long y3), .second, .val (.long y4), .second, .val (.long y5), .second, .val (.long yw), .second, .val (.long ga), .second, .val (.long gb), .second, .val (.long t1), .second, .val (.long t2), .second, .val (.long t3), .second, .val (.long c1), .second, .unset, .unset, .unset, .unset, .unset, .unset, .unset, .unset, .unset, .unset, .unset, .unset, .unset] [(.long (281474976710655 : Int64)), (.long y4), (.long (1 : Int64))])
    refine Dn.st (fun t q => XS.land X0.here hx rfl (hb hby at_95) rfl q) ?_
    show Dn p e below s _ _ _ s₁ (mkF m 96 #[.val (.long y0), .second, .val (.int x0), .val (.long y2), .second, .val (.long y3), .second, .val (.long y4), .second, .val (.long y5), .second, .val (.long yw), .second, .val (.long ga), .second, .val (.long gb), .second, .val (.long t1), .second, .val (.long t2), .second, .val (.long t3), .second, .val (.long c1), .second, .unset, .unset, .unset, .unset, .unset, .unset, .unset, .unset, .unset, .unset, .unset, .unset, .unset] [(.long (y4 &&& (281474976710655 : Int64))), (.long (1 : Int64))])
    refine Dn.st (fun t q => XS.ladd X0.here hx rfl (hb hby at_96) rfl q) ?_
    show Dn p e below s _ _ _ s₁ (mkF m 97 #[.val (.long y0), .second, .val (.int x0), .val (.long y2), .second, .val (.long y3), .second, .val (.long y4), .second, .val (.long y5), .second, .val (.long yw), .second, .val (.long ga), .second, .val (.long gb), .second, .val (.long t1), .second, .val (.long t2), .second, .val (.long t3), .second, .val (.long c1), .second, .unset, .unset, .unset, .unset, .unset, .unset, .unset, .unset, .unset, .unset, .unset, .unset, .unset] [(.long ((1 : Int64) + (y4 &&& (281474976710655 : Int64))))])
    generalize hc2 : ((1 : Int64) + (y4 &&& (281474976710655 : Int64))) = c2
    show Dn p e below s _ _ _ s₁ (mkF m 97 #[.val (.long y0), .second, .val (.int x0), .val (.long y2), .second, .val (.long y3), .second, .val (.long y4), .second, .val (.long y5), .second, .val (.long yw), .second, .val (.long ga), .second, .val (.long gb), .second, .val (.long t1), .second, .val (.long t2), .second, .val (.long t3), .second, .val (.long c1), .second, .unset, .unset, .unset, .unset, .unset, .unset, .unset, .unset, .unset, .unset, .unset, .unset, .unset] [(.long c2)])
    refine Dn.st (fun t q => XS.lstore X0.here hx rfl (hb hby at_97) rfl (l' := #[.val (.long y0), .second, .val (.int x0), .val (.long y2), .second, .val (.long y3), .second, .val (.long y4), .second, .val (.long y5), .second, .val (.long yw), .second, .val (.long ga), .second, .val (.long gb), .second, .val (.long t1), .second, .val (.long t2), .second, .val (.long t3), .second, .val (.long c1), .second, .val (.long c2), .second, .unset, .unset, .unset, .unset, .unset, .unset, .unset, .unset, .unset, .unset, .unset]) rfl q) ?_
    show Dn p e below s _ _ _ s₁ (mkF m 99 #[.val (.long y0), .second, .val (.int x0), .val (.long y2), .second, .val (.long y3), .second, .val (.long y4), .second, .val (.long y5), .second, .val (.long yw), .second, .val (.long ga), .second, .val (.long gb), .second, .val (.long t1), .second, .val (.long t2), .second, .val (.long t3), .second, .val (.long c1), .second, .val (.long c2), .second, .unset, .unset, .unset, .unset, .unset, .unset, .unset, .unset, .unset, .unset, .unset] [])
    refine Dn.st (fun t q => XS.lconst X0.here hx rfl (hb hby at_99) q) ?_
    show Dn p e below s _ _ _ s₁ (mkF m 100 #[.val (.long y0), .second, .val (.int x0), .val (.long y2), .second, .val (.long y3), .second, .val (.long y4), .second, .val (.long y5), .second, .val (.long yw), .second, .val (.long ga), .second, .val (.long gb), .second, .val (.long t1), .second, .val (.long t2), .second, .val (.long t3), .second, .val (.long c1), .second, .val (.long c2), .second, .unset, .unset, .unset, .unset, .unset, .unset, .unset, .unset, .unset, .unset, .unset] [(.long (1 : Int64))])
    refine Dn.st (fun t q => XS.lload X0.here hx rfl (hb hby at_100) rfl  q) ?_
    show Dn p e below s _ _ _ s₁ (mkF m 102 #[.val (.long y0), .second, .val (.int x0), .val (.long y2), .second, .val (.long y3), .second, .val (.long y4), .second, .val (.long y5), .second, .val (.long yw), .second, .val (.long ga), .second, .val (.long gb), .second, .val (.long t1), .second, .val (.long t2), .second, .val (.long t3), .second, .val (.long c1), .second, .val (.long c2), .second, .unset, .unset, .unset, .unset, .unset, .unset, .unset, .unset, .unset, .unset, .unset] [(.long y5), (.long (1 : Int64))])
    refine Dn.st (X0.ldc2Long hx hown (mvT hZ (hw _ (List.mem_of_getElem? (i := 1) rfl))) (g := (mkF m 102 #[.val (.long y0), .second, .val (.int x0), .val (.long y2), .second, .val (.long y3), .second, .val (.long y4), .second, .val (.long y5), .second, .val (.long yw), .second, .val (.long ga), .second, .val (.long gb), .second, .val (.long t1), .second, .val (.long t2), .second, .val (.long t3), .second, .val (.long c1), .second, .val (.long c2), .second, .unset, .unset, .unset, .unset, .unset, .unset, .unset, .unset, .unset, .unset, .unset] [(.long y5), (.long (1 : Int64))])) rfl (hb hby at_102)) ?_
    show Dn p e below s _ _ _ s₁ (mkF m 105 #[.val (.long y0), .second, .val (.int x0), .val (.long y2), .second, .val (.long y3), .second, .val (.long y4), .second, .val (.long y5), .second, .val (.long yw), .second, .val (.long ga), .second, .val (.long gb), .second, .val (.long t1), .second, .val (.long t2), .second, .val (.long t3), .second, .val (.long c1), .second, .val (.long c2), .second, .unset, .unset, .unset, .unset, .unset, .unset, .unset, .unset, .unset, .unset, .unset] [(.long (281474976710655 : Int64)), (.long y5), (.long (1 : Int64))])
    refine Dn.st (fun t q => XS.land X0.here hx rfl (hb hby at_105) rfl q) ?_
    show Dn p e below s _ _ _ s₁ (mkF m 106 #[.val (.long y0), .second, .val (.int x0), .val (.long y2), .second, .val (.long y3), .second, .val (.long y4), .second, .val (.long y5), .second, .val (.long yw), .second, .val (.long ga), .second, .val (.long gb), .second, .val (.long t1), .second, .val (.long t2), .second, .val (.long t3), .second, .val (.long c1), .second, .val (.long c2), .second, .unset, .unset, .unset, .unset, .unset, .unset, .unset, .unset, .unset, .unset, .unset] [(.long (y5 &&& (281474976710655 : Int64))), (.long (1 : Int64))])
    refine Dn.st (fun t q => XS.ladd X0.here hx rfl (hb hby at_106) rfl q) ?_
    show Dn p e below s _ _ _ s₁ (mkF m 107 #[.val (.long y0), .second, .val (.int x0), .val (.long y2), .second, .val (.long y3), .second, .val (.long y4), .second, .val (.long y5), .second, .val (.long yw), .second, .val (.long ga), .second, .val (.long gb), .second, .val (.long t1), .second, .val (.long t2), .second, .val (.long t3), .second, .val (.long c1), .second, .val (.long c2), .second, .unset, .unset, .unset, .unset, .unset, .unset, .unset, .unset, .unset, .unset, .unset] [(.long ((1 : Int64) + (y5 &&& (281474976710655 : Int64))))])
    generalize hc3 : ((1 : Int64) + (y5 &&& (281474976710655 : Int64))) = c3
    show Dn p e below s _ _ _ s₁ (mkF m 107 #[.val (.long y0), .second, .val (.int x0), .val (.long y2), .second, .val (.long y3), .second, .val (.long y4), .second, .val (.long y5), .second, .val (.long yw), .second, .val (.long ga), .second, .val (.long gb), .second, .val (.long t1), .second, .val (.long t2), .second, .val (.long t3), .second, .val (.long c1), .second, .val (.long c2), .second, .unset, .unset, .unset, .unset, .unset, .unset, .unset, .unset, .unset, .unset, .unset] [(.long c3)])
    refine Dn.st (fun t q => XS.lstore X0.here hx rfl (hb hby at_107) rfl (l' := #[.val (.long y0), .second, .val (.int x0), .val (.long y2), .second, .val (.long y3), .second, .val (.long y4), .second, .val (.long y5), .second, .val (.long yw), .second, .val (.long ga), .second, .val (.long gb), .second, .val (.long t1), .second, .val (.long t2), .second, .val (.long t3), .second, .val (.long c1), .second, .val (.long c2), .second, .val (.long c3), .second, .unset, .unset, .unset, .unset, .unset, .unset, .unset, .unset, .unset]) rfl q) ?_
    show Dn p e below s _ _ _ s₁ (mkF m 109 #[.val (.long y0), .second, .val (.int x0), .val (.long y2), .second, .val (.long y3), .second, .val (.long y4), .second, .val (.long y5), .second, .val (.long yw), .second, .val (.long ga), .second, .val (.long gb), .second, .val (.long t1), .second, .val (.long t2), .second, .val (.long t3), .second, .val (.long c1), .second, .val (.long c2), .second, .val (.long c3), .second, .unset, .unset, .unset, .unset, .unset, .unset, .unset, .unset, .unset] [])
    refine Dn.st (fun t q => XS.lloadN X0.here hx rfl (hb hby at_109) rfl  q) ?_
    show Dn p e below s _ _ _ s₁ (mkF m 110 #[.val (.long y0), .second, .val (.int x0), .val (.long y2), .second, .val (.long y3), .second, .val (.long y4), .second, .val (.long y5), .second, .val (.long yw), .second, .val (.long ga), .second, .val (.long gb), .second, .val (.long t1), .second, .val (.long t2), .second, .val (.long t3), .second, .val (.long c1), .second, .val (.long c2), .second, .val (.long c3), .second, .unset, .unset, .unset, .unset, .unset, .unset, .unset, .unset, .unset] [(.long y2)])
    refine Dn.st (X0.ldc2Long hx hown (mvT hZ (hw _ (List.mem_of_getElem? (i := 2) rfl))) (g := (mkF m 110 #[.val (.long y0), .second, .val (.int x0), .val (.long y2), .second, .val (.long y3), .second, .val (.long y4), .second, .val (.long y5), .second, .val (.long yw), .second, .val (.long ga), .second, .val (.long gb), .second, .val (.long t1), .second, .val (.long t2), .second, .val (.long t3), .second, .val (.long c1), .second, .val (.long c2), .second, .val (.long c3), .second, .unset, .unset, .unset, .unset, .unset, .unset, .unset, .unset, .unset] [(.long y2)])) rfl (hb hby at_110)) ?_
    show Dn p e below s _ _ _ s₁ (mkF m 113 #[.val (.long y0), .second, .val (.int x0), .val (.long y2), .second, .val (.long y3), .second, .val (.long y4), .second, .val (.long y5), .second, .val (.long yw), .second, .val (.long ga), .second, .val (.long gb), .second, .val (.long t1), .second, .val (.long t2), .second, .val (.long t3), .second, .val (.long c1), .second, .val (.long c2), .second, .val (.long c3), .second, .unset, .unset, .unset, .unset, .unset, .unset, .unset, .unset, .unset] [(.long (32 : Int64)), (.long y2)])
    refine Dn.st (fun t q => XS.land X0.here hx rfl (hb hby at_113) rfl q) ?_
    show Dn p e below s _ _ _ s₁ (mkF m 114 #[.val (.long y0), .second, .val (.int x0), .val (.long y2), .second, .val (.long y3), .second, .val (.long y4), .second, .val (.long y5), .second, .val (.long yw), .second, .val (.long ga), .second, .val (.long gb), .second, .val (.long t1), .second, .val (.long t2), .second, .val (.long t3), .second, .val (.long c1), .second, .val (.long c2), .second, .val (.long c3), .second, .unset, .unset, .unset, .unset, .unset, .unset, .unset, .unset, .unset] [(.long (y2 &&& (32 : Int64)))])
    refine Dn.st (fun t q => XS.lconst X0.here hx rfl (hb hby at_114) q) ?_
    show Dn p e below s _ _ _ s₁ (mkF m 115 #[.val (.long y0), .second, .val (.int x0), .val (.long y2), .second, .val (.long y3), .second, .val (.long y4), .second, .val (.long y5), .second, .val (.long yw), .second, .val (.long ga), .second, .val (.long gb), .second, .val (.long t1), .second, .val (.long t2), .second, .val (.long t3), .second, .val (.long c1), .second, .val (.long c2), .second, .val (.long c3), .second, .unset, .unset, .unset, .unset, .unset, .unset, .unset, .unset, .unset] [(.long (0 : Int64)), (.long (y2 &&& (32 : Int64)))])
    refine Dn.st (fun t q => XS.lcmp X0.here hx rfl (hb hby at_115) rfl q) ?_
    show Dn p e below s _ _ _ s₁ (mkF m 116 #[.val (.long y0), .second, .val (.int x0), .val (.long y2), .second, .val (.long y3), .second, .val (.long y4), .second, .val (.long y5), .second, .val (.long yw), .second, .val (.long ga), .second, .val (.long gb), .second, .val (.long t1), .second, .val (.long t2), .second, .val (.long t3), .second, .val (.long c1), .second, .val (.long c2), .second, .val (.long c3), .second, .unset, .unset, .unset, .unset, .unset, .unset, .unset, .unset, .unset] [(.int (lcmpW (y2 &&& (32 : Int64)) (0 : Int64)))])
    have jd : ∀ (yd : Int64) (hd0 : t3.toInt ≤ yd.toInt ∧ yd.toInt < 4611686018427387904 + 288230376151711744 + 100), Dn p e below s (Q0 Z y0 x0 y2 y3 y4 y5 h0 n0) (7) (35) s₁ (mkF m 137 #[.val (.long y0), .second, .val (.int x0), .val (.long y2), .second, .val (.long y3), .second, .val (.long y4), .second, .val (.long y5), .second, .val (.long yw), .second, .val (.long ga), .second, .val (.long gb), .second, .val (.long t1), .second, .val (.long t2), .second, .val (.long t3), .second, .val (.long c1), .second, .val (.long c2), .second, .val (.long c3), .second, .unset, .unset, .unset, .unset, .unset, .unset, .unset, .unset, .unset] [(.long yd)]) := by
      intro yd hd0
      have w21 : (t2 - t1) < yw := (own_sublt (by omega) (by omega)).mpr (by omega)
      have w31 : (t3 - t1) < yw := (own_sublt (by omega) (by omega)).mpr (by omega)
      have w32 : (t3 - t2) < yw := (own_sublt (by omega) (by omega)).mpr (by omega)
      refine Dn.st (fun t q => XS.lstore X0.here hx rfl (hb hby at_137) rfl (l' := #[.val (.long y0), .second, .val (.int x0), .val (.long y2), .second, .val (.long y3), .second, .val (.long y4), .second, .val (.long y5), .second, .val (.long yw), .second, .val (.long ga), .second, .val (.long gb), .second, .val (.long t1), .second, .val (.long t2), .second, .val (.long t3), .second, .val (.long c1), .second, .val (.long c2), .second, .val (.long c3), .second, .val (.long yd), .second, .unset, .unset, .unset, .unset, .unset, .unset, .unset]) rfl q) ?_
      show Dn p e below s _ _ _ s₁ (mkF m 139 #[.val (.long y0), .second, .val (.int x0), .val (.long y2), .second, .val (.long y3), .second, .val (.long y4), .second, .val (.long y5), .second, .val (.long yw), .second, .val (.long ga), .second, .val (.long gb), .second, .val (.long t1), .second, .val (.long t2), .second, .val (.long t3), .second, .val (.long c1), .second, .val (.long c2), .second, .val (.long c3), .second, .val (.long yd), .second, .unset, .unset, .unset, .unset, .unset, .unset, .unset] [])
      obtain ⟨T1, h1, X1, e1, E1, A1, D1, -, st1⟩ := newO X0 hx hZ hown (hw _ (List.mem_of_getElem? (i := 4) rfl)) (hw _ (List.mem_of_getElem? (i := 5) rfl)) (hw _ (List.mem_of_getElem? (i := 6) rfl)) e0 (g := (mkF m 139 #[.val (.long y0), .second, .val (.int x0), .val (.long y2), .second, .val (.long y3), .second, .val (.long y4), .second, .val (.long y5), .second, .val (.long yw), .second, .val (.long ga), .second, .val (.long gb), .second, .val (.long t1), .second, .val (.long t2), .second, .val (.long t3), .second, .val (.long c1), .second, .val (.long c2), .second, .val (.long c3), .second, .val (.long yd), .second, .unset, .unset, .unset, .unset, .unset, .unset, .unset] [])) rfl (hb hby at_139) (by decide) (by decide)
      obtain ⟨b0, g1⟩ : ∃ z, z = h0.size := ⟨_, rfl⟩
      rw [← g1] at A1 D1 st1
      have g_b0 : n0 ≤ b0 := Nat.le_trans Z0 (Nat.le_of_eq g1.symm)
      have sz_b0 : h0.size ≤ b0 := Nat.le_trans K0.1 (Nat.le_of_eq g1.symm)
      have Z0 := Nat.le_trans Z0 E1.1
      have K0 := K0.ext E1
      have E_b0 := A1
      have F_entries_b0 : Fld Z h1 b0 "com/example/scripted_rate_limiter/scriptedratelimiter/PermitLog" "entries" "Ljava/util/ArrayDeque;" .null := D1 (Or.inr (hw _ (List.mem_of_getElem? (i := 32) rfl))) (ty := (.object "java/util/ArrayDeque")) (by decide)
      have F_limit_b0 : Fld Z h1 b0 "com/example/scripted_rate_limiter/scriptedratelimiter/PermitLog" "limit" "J" (.long (0 : Int64)) := D1 (Or.inr (hw _ (List.mem_of_getElem? (i := 34) rfl))) (ty := .long) (by decide)
      have F_tickMillis_b0 : Fld Z h1 b0 "com/example/scripted_rate_limiter/scriptedratelimiter/PermitLog" "tickMillis" "J" (.long (0 : Int64)) := D1 (Or.inr (hw _ (List.mem_of_getElem? (i := 36) rfl))) (ty := .long) (by decide)
      have F_windowTicks_b0 : Fld Z h1 b0 "com/example/scripted_rate_limiter/scriptedratelimiter/PermitLog" "windowTicks" "J" (.long (0 : Int64)) := D1 (Or.inr (hw _ (List.mem_of_getElem? (i := 38) rfl))) (ty := .long) (by decide)
      have F_permits_b0 : Fld Z h1 b0 "com/example/scripted_rate_limiter/scriptedratelimiter/PermitLog" "permits" "J" (.long (0 : Int64)) := D1 (Or.inl (hw _ (List.mem_of_getElem? (i := 90) rfl))) (ty := .long) (by decide)
      refine Dn.st st1 ?_
      show Dn p e below s _ _ _ T1 (mkF m 142 #[.val (.long y0), .second, .val (.int x0), .val (.long y2), .second, .val (.long y3), .second, .val (.long y4), .second, .val (.long y5), .second, .val (.long yw), .second, .val (.long ga), .second, .val (.long gb), .second, .val (.long t1), .second, .val (.long t2), .second, .val (.long t3), .second, .val (.long c1), .second, .val (.long c2), .second, .val (.long c3), .second, .val (.long yd), .second, .unset, .unset, .unset, .unset, .unset, .unset, .unset] [(.ref b0)])
      refine Dn.st (fun t q => XS.dup X1.here hx rfl (hb hby at_142) rfl rfl q) ?_
      show Dn p e below s _ _ _ T1 (mkF m 143 #[.val (.long y0), .second, .val (.int x0), .val (.long y2), .second, .val (.long y3), .second, .val (.long y4), .second, .val (.long y5), .second, .val (.long yw), .second, .val (.long ga), .second, .val (.long gb), .second, .val (.long t1), .second, .val (.long t2), .second, .val (.long t3), .second, .val (.long c1), .second, .val (.long c2), .second, .val (.long c3), .second, .val (.long yd), .second, .unset, .unset, .unset, .unset, .unset, .unset, .unset] [(.ref b0), (.ref b0)])
      refine Dn.st (X1.ldc2Long hx hown (mvT hZ (hw _ (List.mem_of_getElem? (i := 7) rfl))) (g := (mkF m 143 #[.val (.long y0), .second, .val (.int x0), .val (.long y2), .second, .val (.long y3), .second, .val (.long y4), .second, .val (.long y5), .second, .val (.long yw), .second, .val (.long ga), .second, .val (.long gb), .second, .val (.long t1), .second, .val (.long t2), .second, .val (.long t3), .second, .val (.long c1), .second, .val (.long c2), .second, .val (.long c3), .second, .val (.long yd), .second, .unset, .unset, .unset, .unset, .unset, .unset, .unset] [(.ref b0), (.ref b0)])) rfl (hb hby at_143)) ?_
      show Dn p e below s _ _ _ T1 (mkF m 146 #[.val (.long y0), .second, .val (.int x0), .val (.long y2), .second, .val (.long y3), .second, .val (.long y4), .second, .val (.long y5), .second, .val (.long yw), .second, .val (.long ga), .second, .val (.long gb), .second, .val (.long t1), .second, .val (.long t2), .second, .val (.long t3), .second, .val (.long c1), .second, .val (.long c2), .second, .val (.long c3), .second, .val (.long yd), .second, .unset, .unset, .unset, .unset, .unset, .unset, .unset] [(.long (9223372036854775807 : Int64)), (.ref b0), (.ref b0)])
      refine Dn.st (fun t q => XS.lconst X1.here hx rfl (hb hby at_146) q) ?_
      show Dn p e below s _ _ _ T1 (mkF m 147 #[.val (.long y0), .second, .val (.int x0), .val (.long y2), .second, .val (.long y3), .second, .val (.long y4), .second, .val (.long y5), .second, .val (.long yw), .second, .val (.long ga), .second, .val (.long gb), .second, .val (.long t1), .second, .val (.long t2), .second, .val (.long t3), .second, .val (.long c1), .second, .val (.long c2), .second, .val (.long c3), .second, .val (.long yd), .second, .unset, .unset, .unset, .unset, .unset, .unset, .unset] [(.long (1 : Int64)), (.long (9223372036854775807 : Int64)), (.ref b0), (.ref b0)])
      refine Dn.st (fun t q => XS.lload X1.here hx rfl (hb hby at_147) rfl  q) ?_
      show Dn p e below s _ _ _ T1 (mkF m 149 #[.val (.long y0), .second, .val (.int x0), .val (.long y2), .second, .val (.long y3), .second, .val (.long y4), .second, .val (.long y5), .second, .val (.long yw), .second, .val (.long ga), .second, .val (.long gb), .second, .val (.long t1), .second, .val (.long t2), .second, .val (.long t3), .second, .val (.long c1), .second, .val (.long c2), .second, .val (.long c3), .second, .val (.long yd), .second, .unset, .unset, .unset, .unset, .unset, .unset, .unset] [(.long yw), (.long (1 : Int64)), (.long (9223372036854775807 : Int64)), (.ref b0), (.ref b0)])
      have Zq2 := Z0
      have Kq2 := K0
      have lt_b0_2 : b0 < h1.size := E_b0.lt
      obtain ⟨_, _, ⟨T2, Lq2, kq_2, nq_2⟩, -, X2, ⟨Lc2, hQ2, lq2, yq2, zq2⟩, st2⟩ := X1.specialBack hx (y := (⟨"com/example/scripted_rate_limiter/scriptedratelimiter/PermitLog", "<init>", "(JJJ)V"⟩ : MethodName)) rfl hown (mvT hZ (hw _ (List.mem_of_getElem? (i := 8) rfl))) (mvT hZ (hw _ (List.mem_of_getElem? (i := 9) rfl))) (mvT hZ (hw _ (List.mem_of_getElem? (i := 10) rfl))) (by decide) (backOf (W := 1) (rm1 l Z a0 hw [] b0 (9223372036854775807 : Int64) (1 : Int64) yw .null (.long (0 : Int64)) (.long (0 : Int64)) (.long (0 : Int64)) (.long (0 : Int64)) h1 n0 Z0 E_b0 F_entries_b0 F_limit_b0 F_tickMillis_b0 F_windowTicks_b0 F_permits_b0 g_b0) hZ (hw _ (List.mem_of_getElem? (i := 10) rfl)) (hw _ (List.mem_of_getElem? (i := 6) rfl)) (by decide) (by decide)) (g := (mkF m 149 #[.val (.long y0), .second, .val (.int x0), .val (.long y2), .second, .val (.long y3), .second, .val (.long y4), .second, .val (.long y5), .second, .val (.long yw), .second, .val (.long ga), .second, .val (.long gb), .second, .val (.long t1), .second, .val (.long t2), .second, .val (.long t3), .second, .val (.long c1), .second, .val (.long c2), .second, .val (.long c3), .second, .val (.long yd), .second, .unset, .unset, .unset, .unset, .unset, .unset, .unset] [(.long yw), (.long (1 : Int64)), (.long (9223372036854775807 : Int64)), (.ref b0), (.ref b0)])) rfl (by rw [hml]; rfl) (Steps.refl _) (a := b0) (argsL := [(.long (9223372036854775807 : Int64)), (.long (1 : Int64)), (.long yw)]) (rest := [(.ref b0)]) (lenOf pd_13 rfl) rfl (by show 2 * 0 + _ ≤ _; exact Nat.le_of_eq rfl) (hb hby at_149) (fun _ _ => ⟨rfl, e1, (by decide : 1 + 2 ≤ _), (by decide : 5 + 20 ≤ _)⟩)
      dsimp only [Pt.U, Pt.locs, Pt.cells, Pt.slots] at X2 lq2 yq2 zq2 st2 hQ2
      subst lq2 yq2 zq2
      obtain ⟨bq, ba, rfl, N2q, K2, le2, lf2, ne_bq_ba, F_entries, F_windowTicks, F_permits, E_q, F_elements, F_head, F_tail, A⟩ := hQ2
      have N0 := Fr.app N0 N2q
      have Z0 := Nat.le_trans Z0 K2.1
      have K0 := K0.trans K2 (allS (Or.inr sz_b0) all0)
      have E_b0 := E_b0.keep K2
      have ne_b0_bq : b0 ≠ bq := own_ne' lt_b0_2 le2
      have g_bq : n0 ≤ bq := Nat.le_trans Zq2 le2
      have sz_bq : h0.size ≤ bq := Nat.le_trans Kq2.1 le2
      have ne_b0_ba : b0 ≠ ba := own_ne' lt_b0_2 lf2
      have g_ba : n0 ≤ ba := Nat.le_trans Zq2 lf2
      have sz_ba : h0.size ≤ ba := Nat.le_trans Kq2.1 lf2
      have A : AryO Z T2.heap ba 17 (own_at 0 []) := A.congr (fun j _ => own_at_nil j)
      have En : Ens Z T2.heap [] := fun _ hx => absurd hx List.not_mem_nil
      refine Dn.tr st2 ?_
      show Dn p e below s _ _ _ T2 (mkF m 152 #[.val (.long y0), .second, .val (.int x0), .val (.long y2), .second, .val (.long y3), .second, .val (.long y4), .second, .val (.long y5), .second, .val (.long yw), .second, .val (.long ga), .second, .val (.long gb), .second, .val (.long t1), .second, .val (.long t2), .second, .val (.long t3), .second, .val (.long c1), .second, .val (.long c2), .second, .val (.long c3), .second, .val (.long yd), .second, .unset, .unset, .unset, .unset, .unset, .unset, .unset] [(.ref b0)])
      refine Dn.st (fun t q => XS.astore X2.here hx rfl (hb hby at_152) rfl rfl (l' := #[.val (.long y0), .second, .val (.int x0), .val (.long y2), .second, .val (.long y3), .second, .val (.long y4), .second, .val (.long y5), .second, .val (.long yw), .second, .val (.long ga), .second, .val (.long gb), .second, .val (.long t1), .second, .val (.long t2), .second, .val (.long t3), .second, .val (.long c1), .second, .val (.long c2), .second, .val (.long c3), .second, .val (.long yd), .second, .val (.ref b0), .unset, .unset, .unset, .unset, .unset, .unset]) rfl q) ?_
      show Dn p e below s _ _ _ T2 (mkF m 154 #[.val (.long y0), .second, .val (.int x0), .val (.long y2), .second, .val (.long y3), .second, .val (.long y4), .second, .val (.long y5), .second, .val (.long yw), .second, .val (.long ga), .second, .val (.long gb), .second, .val (.long t1), .second, .val (.long t2), .second, .val (.long t3), .second, .val (.long c1), .second, .val (.long c2), .second, .val (.long c3), .second, .val (.long yd), .second, .val (.ref b0), .unset, .unset, .unset, .unset, .unset, .unset] [])
      refine Dn.st (fun t q => XS.aload X2.here hx rfl (hb hby at_154) rfl rfl  q) ?_
      show Dn p e below s _ _ _ T2 (mkF m 156 #[.val (.long y0), .second, .val (.int x0), .val (.long y2), .second, .val (.long y3), .second, .val (.long y4), .second, .val (.long y5), .second, .val (.long yw), .second, .val (.long ga), .second, .val (.long gb), .second, .val (.long t1), .second, .val (.long t2), .second, .val (.long t3), .second, .val (.long c1), .second, .val (.long c2), .second, .val (.long c3), .second, .val (.long yd), .second, .val (.ref b0), .unset, .unset, .unset, .unset, .unset, .unset] [(.ref b0)])
      refine Dn.st (fun t q => XS.lload X2.here hx rfl (hb hby at_156) rfl  q) ?_
      show Dn p e below s _ _ _ T2 (mkF m 158 #[.val (.long y0), .second, .val (.int x0), .val (.long y2), .second, .val (.long y3), .second, .val (.long y4), .second, .val (.long y5), .second, .val (.long yw), .second, .val (.long ga), .second, .val (.long gb), .second, .val (.long t1), .second, .val (.long t2), .second, .val (.long t3), .second, .val (.long c1), .second, .val (.long c2), .second, .val (.long c3), .second, .val (.long yd), .second, .val (.ref b0), .unset, .unset, .unset, .unset, .unset, .unset] [(.long t1), (.ref b0)])
      refine Dn.st (fun t q => XS.lload X2.here hx rfl (hb hby at_158) rfl  q) ?_
      show Dn p e below s _ _ _ T2 (mkF m 160 #[.val (.long y0), .second, .val (.int x0), .val (.long y2), .second, .val (.long y3), .second, .val (.long y4), .second, .val (.long y5), .second, .val (.long yw), .second, .val (.long ga), .second, .val (.long gb), .second, .val (.long t1), .second, .val (.long t2), .second, .val (.long t3), .second, .val (.long c1), .second, .val (.long c2), .second, .val (.long c3), .second, .val (.long yd), .second, .val (.ref b0), .unset, .unset, .unset, .unset, .unset, .unset] [(.long c1), (.long t1), (.ref b0)])
      have Zq3 := Z0
      have Kq3 := K0
      have lt_b0_3 : b0 < T2.heap.size := E_b0.lt
      have lt_bq_3 : bq < T2.heap.size := E_q.lt
      have lt_ba_3 : ba < T2.heap.size := A.lt
      obtain ⟨cq3, kq3, q3a, q3b, q3c⟩ := isOf hZ rfl E_b0
      obtain ⟨_, _, ⟨T3, Lq3, kq_3, nq_3⟩, -, X3, ⟨Lc3, hQ3, lq3, yq3, zq3⟩, st3⟩ := X2.virtualBack hx (y := (⟨"com/example/scripted_rate_limiter/scriptedratelimiter/PermitLog", "add", "(JJ)V"⟩ : MethodName)) (z := (⟨"com/example/scripted_rate_limiter/scriptedratelimiter/PermitLog", "add", "(JJ)V"⟩ : MethodName)) hown (mvT hZ (hw _ (List.mem_of_getElem? (i := 39) rfl))) (mvT hZ (hw _ (List.mem_of_getElem? (i := 40) rfl))) (notFace_of_selects (args := #[]) (mvT hZ (hw _ (List.mem_of_getElem? (i := 42) rfl)))) (mvT hZ (hw _ (List.mem_of_getElem? (i := 42) rfl))) (mvT hZ (hw _ (List.mem_of_getElem? (i := 41) rfl))) (by decide) (backOf (W := 0) (rm5n l Z a0 hw [] b0 t1 c1 bq ba yw (0 : Int64) (0 : Int32) (0 : Int32) 0 [] T2.heap n0 Z0 E_b0 F_entries F_windowTicks F_permits E_q F_elements F_head F_tail A En ne_b0_bq ne_b0_ba ne_bq_ba g_b0 g_bq g_ba rfl rfl (by decide) (fun _ hx => absurd hx List.not_mem_nil) (fun _ hx => absurd hx List.not_mem_nil) rfl) hZ (hw _ (List.mem_of_getElem? (i := 43) rfl)) (hw _ (List.mem_of_getElem? (i := 6) rfl)) (by decide) (by decide)) q3a q3c (g := (mkF m 160 #[.val (.long y0), .second, .val (.int x0), .val (.long y2), .second, .val (.long y3), .second, .val (.long y4), .second, .val (.long y5), .second, .val (.long yw), .second, .val (.long ga), .second, .val (.long gb), .second, .val (.long t1), .second, .val (.long t2), .second, .val (.long t3), .second, .val (.long c1), .second, .val (.long c2), .second, .val (.long c3), .second, .val (.long yd), .second, .val (.ref b0), .unset, .unset, .unset, .unset, .unset, .unset] [(.long c1), (.long t1), (.ref b0)])) rfl (by rw [hml]; rfl) (Steps.refl _) (argsL := [(.long t1), (.long c1)]) (rest := []) (lenOf pd_8 rfl) rfl (by show 2 * 0 + _ ≤ _; exact Nat.le_of_eq rfl) (hb hby at_160) (fun _ _ => ⟨rfl, rfl, (by decide : 3 + 1 ≤ _), (by decide : 25 + 2 ≤ _)⟩)
      dsimp only [Pt.U, Pt.locs, Pt.cells, Pt.slots] at X3 lq3 yq3 zq3 st3 hQ3
      subst lq3 yq3 zq3
      obtain ⟨es1, rfl, N3q, K3, ad3, En, xt1, hxt1, F_entries, F_windowTicks, F_permits, F_elements, F_head, F_tail, A⟩ := hQ3
      have N0 := Fr.app N0 N3q
      have Z0 := Nat.le_trans Z0 K3.1
      have K0 := K0.trans K3 (allS (Or.inr sz_b0) (allS (Or.inr sz_bq) (allS (Or.inr sz_ba) all0)))
      have E_b0 := E_b0.keep K3
      have E_q := E_q.keep K3
      obtain ⟨b1, lb3, rfl⟩ := own_first ad3
      have ne_b0_b1 : b0 ≠ b1 := own_ne' lt_b0_3 lb3
      have ne_bq_b1 : bq ≠ b1 := own_ne' lt_bq_3 lb3
      have ne_ba_b1 : ba ≠ b1 := own_ne' lt_ba_3 lb3
      have g_b1 : n0 ≤ b1 := Nat.le_trans Zq3 lb3
      have sz_b1 : h0.size ≤ b1 := Nat.le_trans Kq3.1 lb3
      have hn1 : b1 ≠ b0 ∧ b1 ≠ bq ∧ b1 ≠ ba := ⟨(Ne.symm ne_b0_b1), (Ne.symm ne_bq_b1), (Ne.symm ne_ba_b1)⟩
      have hoff1 : own_off [(b1, t1, c1)] b0 bq ba := fun e he => by rw [List.mem_singleton.mp he]; exact hn1
      have hnd1 : ∀ e ∈ ([(b1, t1, c1)] : List Ent), (t2 - e.2.1) < yw := fun e he => by rw [List.mem_singleton.mp he]; exact w21
      refine Dn.tr st3 ?_
      show Dn p e below s _ _ _ T3 (mkF m 163 #[.val (.long y0), .second, .val (.int x0), .val (.long y2), .second, .val (.long y3), .second, .val (.long y4), .second, .val (.long y5), .second, .val (.long yw), .second, .val (.long ga), .second, .val (.long gb), .second, .val (.long t1), .second, .val (.long t2), .second, .val (.long t3), .second, .val (.long c1), .second, .val (.long c2), .second, .val (.long c3), .second, .val (.long yd), .second, .val (.ref b0), .unset, .unset, .unset, .unset, .unset, .unset] [])
      refine Dn.st (fun t q => XS.aload X3.here hx rfl (hb hby at_163) rfl rfl  q) ?_
      show Dn p e below s _ _ _ T3 (mkF m 165 #[.val (.long y0), .second, .val (.int x0), .val (.long y2), .second, .val (.long y3), .second, .val (.long y4), .second, .val (.long y5), .second, .val (.long yw), .second, .val (.long ga), .second, .val (.long gb), .second, .val (.long t1), .second, .val (.long t2), .second, .val (.long t3), .second, .val (.long c1), .second, .val (.long c2), .second, .val (.long c3), .second, .val (.long yd), .second, .val (.ref b0), .unset, .unset, .unset, .unset, .unset, .unset] [(.ref b0)])
      refine Dn.st (fun t q => XS.lload X3.here hx rfl (hb hby at_165) rfl  q) ?_
      show Dn p e below s _ _ _ T3 (mkF m 167 #[.val (.long y0), .second, .val (.int x0), .val (.long y2), .second, .val (.long y3), .second, .val (.long y4), .second, .val (.long y5), .second, .val (.long yw), .second, .val (.long ga), .second, .val (.long gb), .second, .val (.long t1), .second, .val (.long t2), .second, .val (.long t3), .second, .val (.long c1), .second, .val (.long c2), .second, .val (.long c3), .second, .val (.long yd), .second, .val (.ref b0), .unset, .unset, .unset, .unset, .unset, .unset] [(.long t2), (.ref b0)])
      refine Dn.st (fun t q => XS.lload X3.here hx rfl (hb hby at_167) rfl  q) ?_
      show Dn p e below s _ _ _ T3 (mkF m 169 #[.val (.long y0), .second, .val (.int x0), .val (.long y2), .second, .val (.long y3), .second, .val (.long y4), .second, .val (.long y5), .second, .val (.long yw), .second, .val (.long ga), .second, .val (.long gb), .second, .val (.long t1), .second, .val (.long t2), .second, .val (.long t3), .second, .val (.long c1), .second, .val (.long c2), .second, .val (.long c3), .second, .val (.long yd), .second, .val (.ref b0), .unset, .unset, .unset, .unset, .unset, .unset] [(.long c2), (.long t2), (.ref b0)])
      have lt2 : b1 < T3.heap.size := En.lt (b1, t1, c1) (List.mem_singleton.mpr rfl)
      have Zq4 := Z0
      have Kq4 := K0
      have lt_b0_4 : b0 < T3.heap.size := E_b0.lt
      have lt_bq_4 : bq < T3.heap.size := E_q.lt
      have lt_ba_4 : ba < T3.heap.size := A.lt
      obtain ⟨cq4, kq4, q4a, q4b, q4c⟩ := isOf hZ rfl E_b0
      obtain ⟨_, _, ⟨T4, Lq4, kq_4, nq_4⟩, -, X4, ⟨Lc4, hQ4, lq4, yq4, zq4⟩, st4⟩ := X3.virtualBack hx (y := (⟨"com/example/scripted_rate_limiter/scriptedratelimiter/PermitLog", "add", "(JJ)V"⟩ : MethodName)) (z := (⟨"com/example/scripted_rate_limiter/scriptedratelimiter/PermitLog", "add", "(JJ)V"⟩ : MethodName)) hown (mvT hZ (hw _ (List.mem_of_getElem? (i := 39) rfl))) (mvT hZ (hw _ (List.mem_of_getElem? (i := 40) rfl))) (notFace_of_selects (args := #[]) (mvT hZ (hw _ (List.mem_of_getElem? (i := 42) rfl)))) (mvT hZ (hw _ (List.mem_of_getElem? (i := 42) rfl))) (mvT hZ (hw _ (List.mem_of_getElem? (i := 41) rfl))) (by decide) (backOf (W := 0) (rm5s l Z a0 hw [] b0 t2 c2 bq ba yw ((0 : Int64) + c1) (0 : Int32) xt1 0 [(b1, t1, c1)] [] b1 t1 c1 T3.heap n0 Z0 E_b0 F_entries F_windowTicks F_permits E_q F_elements F_head F_tail A En ne_b0_bq ne_b0_ba ne_bq_ba g_b0 g_bq g_ba rfl hxt1 (by show 0 + 1 ≤ 3; decide) hoff1 hnd1 rfl (fun _ hx => absurd hx List.not_mem_nil) g_b1) hZ (hw _ (List.mem_of_getElem? (i := 43) rfl)) (hw _ (List.mem_of_getElem? (i := 6) rfl)) (by decide) (by decide)) q4a q4c (g := (mkF m 169 #[.val (.long y0), .second, .val (.int x0), .val (.long y2), .second, .val (.long y3), .second, .val (.long y4), .second, .val (.long y5), .second, .val (.long yw), .second, .val (.long ga), .second, .val (.long gb), .second, .val (.long t1), .second, .val (.long t2), .second, .val (.long t3), .second, .val (.long c1), .second, .val (.long c2), .second, .val (.long c3), .second, .val (.long yd), .second, .val (.ref b0), .unset, .unset, .unset, .unset, .unset, .unset] [(.long c2), (.long t2), (.ref b0)])) rfl (by rw [hml]; rfl) (Steps.refl _) (argsL := [(.long t2), (.long c2)]) (rest := []) (lenOf pd_8 rfl) rfl (by show 2 * 0 + _ ≤ _; exact Nat.le_of_eq rfl) (hb hby at_169) (fun _ _ => ⟨rfl, rfl, (by decide : 4 + 1 ≤ _), (by decide : 27 + 2 ≤ _)⟩)
      dsimp only [Pt.U, Pt.locs, Pt.cells, Pt.slots] at X4 lq4 yq4 zq4 st4 hQ4
      subst lq4 yq4 zq4
      obtain ⟨es2, rfl, N4q, K4, ad4, En, xt2, hxt2, F_entries, F_windowTicks, F_permits, F_elements, F_head, F_tail, A⟩ := hQ4
      have N0 := Fr.app N0 N4q
      have Z0 := Nat.le_trans Z0 K4.1
      have K0 := K0.trans K4 (allS (Or.inr sz_b0) (allS (Or.inr sz_bq) (allS (Or.inr sz_ba) (allS (Or.inr sz_b1) all0))))
      have E_b0 := E_b0.keep K4
      have E_q := E_q.keep K4
      obtain ⟨⟨eh, ea, et, ep, he2, hds2, sz_ea⟩, hoff2, hl2, hnd2⟩ := own_second_f lt2 lt_b0_4 lt_bq_4 lt_ba_4 sz_b1 Kq4.1 hn1 ad4 w31 w32
      have g_ea : n0 ≤ ea := Nat.le_trans Z00 sz_ea
      have ad2 := ad4
      refine Dn.tr st4 ?_
      show Dn p e below s _ _ _ T4 (mkF m 172 #[.val (.long y0), .second, .val (.int x0), .val (.long y2), .second, .val (.long y3), .second, .val (.long y4), .second, .val (.long y5), .second, .val (.long yw), .second, .val (.long ga), .second, .val (.long gb), .second, .val (.long t1), .second, .val (.long t2), .second, .val (.long t3), .second, .val (.long c1), .second, .val (.long c2), .second, .val (.long c3), .second, .val (.long yd), .second, .val (.ref b0), .unset, .unset, .unset, .unset, .unset, .unset] [])
      refine Dn.st (fun t q => XS.aload X4.here hx rfl (hb hby at_172) rfl rfl  q) ?_
      show Dn p e below s _ _ _ T4 (mkF m 174 #[.val (.long y0), .second, .val (.int x0), .val (.long y2), .second, .val (.long y3), .second, .val (.long y4), .second, .val (.long y5), .second, .val (.long yw), .second, .val (.long ga), .second, .val (.long gb), .second, .val (.long t1), .second, .val (.long t2), .second, .val (.long t3), .second, .val (.long c1), .second, .val (.long c2), .second, .val (.long c3), .second, .val (.long yd), .second, .val (.ref b0), .unset, .unset, .unset, .unset, .unset, .unset] [(.ref b0)])
      refine Dn.st (fun t q => XS.lload X4.here hx rfl (hb hby at_174) rfl  q) ?_
      show Dn p e below s _ _ _ T4 (mkF m 176 #[.val (.long y0), .second, .val (.int x0), .val (.long y2), .second, .val (.long y3), .second, .val (.long y4), .second, .val (.long y5), .second, .val (.long yw), .second, .val (.long ga), .second, .val (.long gb), .second, .val (.long t1), .second, .val (.long t2), .second, .val (.long t3), .second, .val (.long c1), .second, .val (.long c2), .second, .val (.long c3), .second, .val (.long yd), .second, .val (.ref b0), .unset, .unset, .unset, .unset, .unset, .unset] [(.long t3), (.ref b0)])
      refine Dn.st (fun t q => XS.lload X4.here hx rfl (hb hby at_176) rfl  q) ?_
      show Dn p e below s _ _ _ T4 (mkF m 178 #[.val (.long y0), .second, .val (.int x0), .val (.long y2), .second, .val (.long y3), .second, .val (.long y4), .second, .val (.long y5), .second, .val (.long yw), .second, .val (.long ga), .second, .val (.long gb), .second, .val (.long t1), .second, .val (.long t2), .second, .val (.long t3), .second, .val (.long c1), .second, .val (.long c2), .second, .val (.long c3), .second, .val (.long yd), .second, .val (.ref b0), .unset, .unset, .unset, .unset, .unset, .unset] [(.long c3), (.long t3), (.ref b0)])
      have Zq5 := Z0
      have Kq5 := K0
      have lt_b0_5 : b0 < T4.heap.size := E_b0.lt
      have lt_bq_5 : bq < T4.heap.size := E_q.lt
      have lt_ba_5 : ba < T4.heap.size := A.lt
      obtain ⟨cq5, kq5, q5a, q5b, q5c⟩ := isOf hZ rfl E_b0
      obtain ⟨_, _, ⟨T5, Lq5, kq_5, nq_5⟩, -, X5, ⟨Lc5, hQ5, lq5, yq5, zq5⟩, st5⟩ := X4.virtualBack hx (y := (⟨"com/example/scripted_rate_limiter/scriptedratelimiter/PermitLog", "add", "(JJ)V"⟩ : MethodName)) (z := (⟨"com/example/scripted_rate_limiter/scriptedratelimiter/PermitLog", "add", "(JJ)V"⟩ : MethodName)) hown (mvT hZ (hw _ (List.mem_of_getElem? (i := 39) rfl))) (mvT hZ (hw _ (List.mem_of_getElem? (i := 40) rfl))) (notFace_of_selects (args := #[]) (mvT hZ (hw _ (List.mem_of_getElem? (i := 42) rfl)))) (mvT hZ (hw _ (List.mem_of_getElem? (i := 42) rfl))) (mvT hZ (hw _ (List.mem_of_getElem? (i := 41) rfl))) (by decide) (backOf (W := 0) (rm5s l Z a0 hw [] b0 t3 c3 bq ba yw (((0 : Int64) + c1) + c2) (0 : Int32) xt2 0 es2 eh ea et ep T4.heap n0 Z0 E_b0 F_entries F_windowTicks F_permits E_q F_elements F_head F_tail A En ne_b0_bq ne_b0_ba ne_bq_ba g_b0 g_bq g_ba rfl hxt2 (by omega) hoff2 hnd2 he2 hds2 g_ea) hZ (hw _ (List.mem_of_getElem? (i := 43) rfl)) (hw _ (List.mem_of_getElem? (i := 6) rfl)) (by decide) (by decide)) q5a q5c (g := (mkF m 178 #[.val (.long y0), .second, .val (.int x0), .val (.long y2), .second, .val (.long y3), .second, .val (.long y4), .second, .val (.long y5), .second, .val (.long yw), .second, .val (.long ga), .second, .val (.long gb), .second, .val (.long t1), .second, .val (.long t2), .second, .val (.long t3), .second, .val (.long c1), .second, .val (.long c2), .second, .val (.long c3), .second, .val (.long yd), .second, .val (.ref b0), .unset, .unset, .unset, .unset, .unset, .unset] [(.long c3), (.long t3), (.ref b0)])) rfl (by rw [hml]; rfl) (Steps.refl _) (argsL := [(.long t3), (.long c3)]) (rest := []) (lenOf pd_8 rfl) rfl (by show 2 * 0 + _ ≤ _; exact Nat.le_of_eq rfl) (hb hby at_178) (fun _ _ => ⟨rfl, rfl, (by decide : 5 + 1 ≤ _), (by decide : 29 + 2 ≤ _)⟩)
      dsimp only [Pt.U, Pt.locs, Pt.cells, Pt.slots] at X5 lq5 yq5 zq5 st5 hQ5
      subst lq5 yq5 zq5
      obtain ⟨es3, rfl, N5q, K5, ad5, En, xt3, hxt3, F_entries, F_windowTicks, F_permits, F_elements, F_head, F_tail, A⟩ := hQ5
      have N0 := Fr.app N0 N5q
      have Z0 := Nat.le_trans Z0 K5.1
      have K0 := K0.trans K5 (allS (Or.inr sz_b0) (allS (Or.inr sz_bq) (allS (Or.inr sz_ba) (allS (Or.inr sz_ea) all0))))
      have E_b0 := E_b0.keep K5
      have E_q := E_q.keep K5
      obtain ⟨hoff3, hl3⟩ := own_third_f lt_b0_5 lt_bq_5 lt_ba_5 hl2 hoff2 ad5
      have ad3 := ad5
      refine Dn.tr st5 ?_
      show Dn p e below s _ _ _ T5 (mkF m 181 #[.val (.long y0), .second, .val (.int x0), .val (.long y2), .second, .val (.long y3), .second, .val (.long y4), .second, .val (.long y5), .second, .val (.long yw), .second, .val (.long ga), .second, .val (.long gb), .second, .val (.long t1), .second, .val (.long t2), .second, .val (.long t3), .second, .val (.long c1), .second, .val (.long c2), .second, .val (.long c3), .second, .val (.long yd), .second, .val (.ref b0), .unset, .unset, .unset, .unset, .unset, .unset] [])
      refine Dn.st (fun t q => XS.aload X5.here hx rfl (hb hby at_181) rfl rfl  q) ?_
      show Dn p e below s _ _ _ T5 (mkF m 183 #[.val (.long y0), .second, .val (.int x0), .val (.long y2), .second, .val (.long y3), .second, .val (.long y4), .second, .val (.long y5), .second, .val (.long yw), .second, .val (.long ga), .second, .val (.long gb), .second, .val (.long t1), .second, .val (.long t2), .second, .val (.long t3), .second, .val (.long c1), .second, .val (.long c2), .second, .val (.long c3), .second, .val (.long yd), .second, .val (.ref b0), .unset, .unset, .unset, .unset, .unset, .unset] [(.ref b0)])
      refine Dn.st (fun t q => XS.lload X5.here hx rfl (hb hby at_183) rfl  q) ?_
      show Dn p e below s _ _ _ T5 (mkF m 185 #[.val (.long y0), .second, .val (.int x0), .val (.long y2), .second, .val (.long y3), .second, .val (.long y4), .second, .val (.long y5), .second, .val (.long yw), .second, .val (.long ga), .second, .val (.long gb), .second, .val (.long t1), .second, .val (.long t2), .second, .val (.long t3), .second, .val (.long c1), .second, .val (.long c2), .second, .val (.long c3), .second, .val (.long yd), .second, .val (.ref b0), .unset, .unset, .unset, .unset, .unset, .unset] [(.long yd), (.ref b0)])
      obtain ⟨cq6, kq6, q6a, q6b, q6c⟩ := isOf hZ rfl E_b0
      obtain ⟨_, _, ⟨T6, Lq6, kq_6, nq_6⟩, -, X6, ⟨Lc6, hQ6, lq6, yq6, zq6⟩, st6⟩ := X5.virtualBack hx (y := (⟨"com/example/scripted_rate_limiter/scriptedratelimiter/PermitLog", "dropLeft", "(J)V"⟩ : MethodName)) (z := (⟨"com/example/scripted_rate_limiter/scriptedratelimiter/PermitLog", "dropLeft", "(J)V"⟩ : MethodName)) hown (mvT hZ (hw _ (List.mem_of_getElem? (i := 103) rfl))) (mvT hZ (hw _ (List.mem_of_getElem? (i := 45) rfl))) (notFace_of_selects (args := #[]) (mvT hZ (hw _ (List.mem_of_getElem? (i := 47) rfl)))) (mvT hZ (hw _ (List.mem_of_getElem? (i := 47) rfl))) (mvT hZ (hw _ (List.mem_of_getElem? (i := 46) rfl))) (by decide) (backOf (W := 0) (rm6 l Z a0 hw [] b0 yd bq ba yw ((((0 : Int64) + c1) + c2) + c3) (0 : Int32) xt3 0 es3 T5.heap n0 Z0 E_b0 F_entries F_windowTicks F_permits E_q F_elements F_head F_tail A En ne_b0_bq ne_b0_ba ne_bq_ba g_b0 g_bq g_ba rfl hxt3 (by omega) hoff3) hZ (hw _ (List.mem_of_getElem? (i := 48) rfl)) (hw _ (List.mem_of_getElem? (i := 6) rfl)) (by decide) (by decide)) q6a q6c (g := (mkF m 185 #[.val (.long y0), .second, .val (.int x0), .val (.long y2), .second, .val (.long y3), .second, .val (.long y4), .second, .val (.long y5), .second, .val (.long yw), .second, .val (.long ga), .second, .val (.long gb), .second, .val (.long t1), .second, .val (.long t2), .second, .val (.long t3), .second, .val (.long c1), .second, .val (.long c2), .second, .val (.long c3), .second, .val (.long yd), .second, .val (.ref b0), .unset, .unset, .unset, .unset, .unset, .unset] [(.long yd), (.ref b0)])) rfl (by rw [hml]; rfl) (Steps.refl _) (argsL := [(.long yd)]) (rest := []) (lenOf pd_7 rfl) rfl (by show 2 * 0 + _ ≤ _; exact Nat.le_of_eq rfl) (hb hby at_185) (fun _ _ => ⟨rfl, rfl, (by decide : 6 + 0 ≤ _), (by decide : 31 + 0 ≤ _)⟩)
      dsimp only [Pt.U, Pt.locs, Pt.cells, Pt.slots] at X6 lq6 yq6 zq6 st6 hQ6
      subst lq6 yq6 zq6
      obtain ⟨rfl, N6q, K6, F_entries, F_windowTicks, F_permits, F_elements, F_head, F_tail, A⟩ := hQ6
      have N0 := Fr.app N0 N6q
      have Z0 := Nat.le_trans Z0 K6.1
      have K0 := K0.trans K6 (allS (Or.inr sz_b0) (allS (Or.inr sz_bq) (allS (Or.inr sz_ba) all0)))
      have E_b0 := E_b0.keep K6
      have E_q := E_q.keep K6
      have En := En.keep K6 (fun z hz => (ninS ((own_off1 hoff3) z hz) (ninS ((own_off2 hoff3) z hz) (ninS ((own_off3 hoff3) z hz) nin0))))
      have En := Ens.dw (y := yd) (w := yw) En
      have hxh4 : (own_dh yd yw (0 : Int32) es3).toInt = (((own_dn yd yw 0 es3) : Nat) : Int) := own_dh_v _ _ es3 rfl (by omega)
      have hdl := own_dn_len (y := yd) (w := yw) 0 es3
      have hxt4 : xt3.toInt = (((own_dn yd yw 0 es3) + (own_dw yd yw es3).length : Nat) : Int) := by rw [hdl]; exact hxt3
      have hb4 : (own_dn yd yw 0 es3) + (own_dw yd yw es3).length ≤ 3 := by omega
      have hoff4 : own_off (own_dw yd yw es3) b0 bq ba := own_off_dw hoff3
      have fin := own_final (d := yd) (w := yw) (fun q => (own_sublt (by omega) (by omega)).mpr (by have := (own_sublt (by omega) (by omega)).mp q; omega)) (fun q => (own_sublt (by omega) (by omega)).mpr (by have := (own_sublt (by omega) (by omega)).mp q; omega)) ad2 ad3
      have hfst : ∀ e ∈ (own_dw yd yw es3), (t1 - e.2.1) < yw := own_fst (own_sublt (by omega) (by omega) |>.mpr (by omega)) (own_sublt (by omega) (by omega) |>.mpr (by omega)) (own_sublt (by omega) (by omega) |>.mpr (by omega)) ad2 ad3
      refine Dn.tr st6 ?_
      show Dn p e below s _ _ _ T6 (mkF m 188 #[.val (.long y0), .second, .val (.int x0), .val (.long y2), .second, .val (.long y3), .second, .val (.long y4), .second, .val (.long y5), .second, .val (.long yw), .second, .val (.long ga), .second, .val (.long gb), .second, .val (.long t1), .second, .val (.long t2), .second, .val (.long t3), .second, .val (.long c1), .second, .val (.long c2), .second, .val (.long c3), .second, .val (.long yd), .second, .val (.ref b0), .unset, .unset, .unset, .unset, .unset, .unset] [])
      refine Dn.st (fun t q => XS.lload X6.here hx rfl (hb hby at_188) rfl  q) ?_
      show Dn p e below s _ _ _ T6 (mkF m 190 #[.val (.long y0), .second, .val (.int x0), .val (.long y2), .second, .val (.long y3), .second, .val (.long y4), .second, .val (.long y5), .second, .val (.long yw), .second, .val (.long ga), .second, .val (.long gb), .second, .val (.long t1), .second, .val (.long t2), .second, .val (.long t3), .second, .val (.long c1), .second, .val (.long c2), .second, .val (.long c3), .second, .val (.long yd), .second, .val (.ref b0), .unset, .unset, .unset, .unset, .unset, .unset] [(.long yd)])
      refine Dn.st (fun t q => XS.lload X6.here hx rfl (hb hby at_190) rfl  q) ?_
      show Dn p e below s _ _ _ T6 (mkF m 192 #[.val (.long y0), .second, .val (.int x0), .val (.long y2), .second, .val (.long y3), .second, .val (.long y4), .second, .val (.long y5), .second, .val (.long yw), .second, .val (.long ga), .second, .val (.long gb), .second, .val (.long t1), .second, .val (.long t2), .second, .val (.long t3), .second, .val (.long c1), .second, .val (.long c2), .second, .val (.long c3), .second, .val (.long yd), .second, .val (.ref b0), .unset, .unset, .unset, .unset, .unset, .unset] [(.long t1), (.long yd)])
      refine Dn.st (fun t q => XS.lsub X6.here hx rfl (hb hby at_192) rfl q) ?_
      show Dn p e below s _ _ _ T6 (mkF m 193 #[.val (.long y0), .second, .val (.int x0), .val (.long y2), .second, .val (.long y3), .second, .val (.long y4), .second, .val (.long y5), .second, .val (.long yw), .second, .val (.long ga), .second, .val (.long gb), .second, .val (.long t1), .second, .val (.long t2), .second, .val (.long t3), .second, .val (.long c1), .second, .val (.long c2), .second, .val (.long c3), .second, .val (.long yd), .second, .val (.ref b0), .unset, .unset, .unset, .unset, .unset, .unset] [(.long (yd - t1))])
      refine Dn.st (fun t q => XS.lload X6.here hx rfl (hb hby at_193) rfl  q) ?_
      show Dn p e below s _ _ _ T6 (mkF m 195 #[.val (.long y0), .second, .val (.int x0), .val (.long y2), .second, .val (.long y3), .second, .val (.long y4), .second, .val (.long y5), .second, .val (.long yw), .second, .val (.long ga), .second, .val (.long gb), .second, .val (.long t1), .second, .val (.long t2), .second, .val (.long t3), .second, .val (.long c1), .second, .val (.long c2), .second, .val (.long c3), .second, .val (.long yd), .second, .val (.ref b0), .unset, .unset, .unset, .unset, .unset, .unset] [(.long yw), (.long (yd - t1))])
      refine Dn.st (fun t q => XS.lcmp X6.here hx rfl (hb hby at_195) rfl q) ?_
      show Dn p e below s _ _ _ T6 (mkF m 196 #[.val (.long y0), .second, .val (.int x0), .val (.long y2), .second, .val (.long y3), .second, .val (.long y4), .second, .val (.long y5), .second, .val (.long yw), .second, .val (.long ga), .second, .val (.long gb), .second, .val (.long t1), .second, .val (.long t2), .second, .val (.long t3), .second, .val (.long c1), .second, .val (.long c2), .second, .val (.long c3), .second, .val (.long yd), .second, .val (.ref b0), .unset, .unset, .unset, .unset, .unset, .unset] [(.int (lcmpW (yd - t1) yw))])
      have js1 : ∀ (z1 : Int32) (hz1 : z1 = if (yd - t1) < yw then (1 : Int32) else (0 : Int32)), Dn p e below s (Q0 Z y0 x0 y2 y3 y4 y5 h0 n0) (7) (35) T6 (mkF m 204 #[.val (.long y0), .second, .val (.int x0), .val (.long y2), .second, .val (.long y3), .second, .val (.long y4), .second, .val (.long y5), .second, .val (.long yw), .second, .val (.long ga), .second, .val (.long gb), .second, .val (.long t1), .second, .val (.long t2), .second, .val (.long t3), .second, .val (.long c1), .second, .val (.long c2), .second, .val (.long c3), .second, .val (.long yd), .second, .val (.ref b0), .unset, .unset, .unset, .unset, .unset, .unset] [(.int z1)]) := by
        intro z1 hz1
        refine Dn.st (fun t q => XS.istore X6.here hx rfl (hb hby at_204) rfl (l' := #[.val (.long y0), .second, .val (.int x0), .val (.long y2), .second, .val (.long y3), .second, .val (.long y4), .second, .val (.long y5), .second, .val (.long yw), .second, .val (.long ga), .second, .val (.long gb), .second, .val (.long t1), .second, .val (.long t2), .second, .val (.long t3), .second, .val (.long c1), .second, .val (.long c2), .second, .val (.long c3), .second, .val (.long yd), .second, .val (.ref b0), .val (.int z1), .unset, .unset, .unset, .unset, .unset]) rfl q) ?_
        show Dn p e below s _ _ _ T6 (mkF m 206 #[.val (.long y0), .second, .val (.int x0), .val (.long y2), .second, .val (.long y3), .second, .val (.long y4), .second, .val (.long y5), .second, .val (.long yw), .second, .val (.long ga), .second, .val (.long gb), .second, .val (.long t1), .second, .val (.long t2), .second, .val (.long t3), .second, .val (.long c1), .second, .val (.long c2), .second, .val (.long c3), .second, .val (.long yd), .second, .val (.ref b0), .val (.int z1), .unset, .unset, .unset, .unset, .unset] [])
        refine Dn.st (fun t q => XS.lload X6.here hx rfl (hb hby at_206) rfl  q) ?_
        show Dn p e below s _ _ _ T6 (mkF m 208 #[.val (.long y0), .second, .val (.int x0), .val (.long y2), .second, .val (.long y3), .second, .val (.long y4), .second, .val (.long y5), .second, .val (.long yw), .second, .val (.long ga), .second, .val (.long gb), .second, .val (.long t1), .second, .val (.long t2), .second, .val (.long t3), .second, .val (.long c1), .second, .val (.long c2), .second, .val (.long c3), .second, .val (.long yd), .second, .val (.ref b0), .val (.int z1), .unset, .unset, .unset, .unset, .unset] [(.long yd)])
        refine Dn.st (fun t q => XS.lload X6.here hx rfl (hb hby at_208) rfl  q) ?_
        show Dn p e below s _ _ _ T6 (mkF m 210 #[.val (.long y0), .second, .val (.int x0), .val (.long y2), .second, .val (.long y3), .second, .val (.long y4), .second, .val (.long y5), .second, .val (.long yw), .second, .val (.long ga), .second, .val (.long gb), .second, .val (.long t1), .second, .val (.long t2), .second, .val (.long t3), .second, .val (.long c1), .second, .val (.long c2), .second, .val (.long c3), .second, .val (.long yd), .second, .val (.ref b0), .val (.int z1), .unset, .unset, .unset, .unset, .unset] [(.long t2), (.long yd)])
        refine Dn.st (fun t q => XS.lsub X6.here hx rfl (hb hby at_210) rfl q) ?_
        show Dn p e below s _ _ _ T6 (mkF m 211 #[.val (.long y0), .second, .val (.int x0), .val (.long y2), .second, .val (.long y3), .second, .val (.long y4), .second, .val (.long y5), .second, .val (.long yw), .second, .val (.long ga), .second, .val (.long gb), .second, .val (.long t1), .second, .val (.long t2), .second, .val (.long t3), .second, .val (.long c1), .second, .val (.long c2), .second, .val (.long c3), .second, .val (.long yd), .second, .val (.ref b0), .val (.int z1), .unset, .unset, .unset, .unset, .unset] [(.long (yd - t2))])
        refine Dn.st (fun t q => XS.lload X6.here hx rfl (hb hby at_211) rfl  q) ?_
        show Dn p e below s _ _ _ T6 (mkF m 213 #[.val (.long y0), .second, .val (.int x0), .val (.long y2), .second, .val (.long y3), .second, .val (.long y4), .second, .val (.long y5), .second, .val (.long yw), .second, .val (.long ga), .second, .val (.long gb), .second, .val (.long t1), .second, .val (.long t2), .second, .val (.long t3), .second, .val (.long c1), .second, .val (.long c2), .second, .val (.long c3), .second, .val (.long yd), .second, .val (.ref b0), .val (.int z1), .unset, .unset, .unset, .unset, .unset] [(.long yw), (.long (yd - t2))])
        refine Dn.st (fun t q => XS.lcmp X6.here hx rfl (hb hby at_213) rfl q) ?_
        show Dn p e below s _ _ _ T6 (mkF m 214 #[.val (.long y0), .second, .val (.int x0), .val (.long y2), .second, .val (.long y3), .second, .val (.long y4), .second, .val (.long y5), .second, .val (.long yw), .second, .val (.long ga), .second, .val (.long gb), .second, .val (.long t1), .second, .val (.long t2), .second, .val (.long t3), .second, .val (.long c1), .second, .val (.long c2), .second, .val (.long c3), .second, .val (.long yd), .second, .val (.ref b0), .val (.int z1), .unset, .unset, .unset, .unset, .unset] [(.int (lcmpW (yd - t2) yw))])
        have js2 : ∀ (z2 : Int32) (hz2 : z2 = if (yd - t2) < yw then (1 : Int32) else (0 : Int32)), Dn p e below s (Q0 Z y0 x0 y2 y3 y4 y5 h0 n0) (7) (35) T6 (mkF m 222 #[.val (.long y0), .second, .val (.int x0), .val (.long y2), .second, .val (.long y3), .second, .val (.long y4), .second, .val (.long y5), .second, .val (.long yw), .second, .val (.long ga), .second, .val (.long gb), .second, .val (.long t1), .second, .val (.long t2), .second, .val (.long t3), .second, .val (.long c1), .second, .val (.long c2), .second, .val (.long c3), .second, .val (.long yd), .second, .val (.ref b0), .val (.int z1), .unset, .unset, .unset, .unset, .unset] [(.int z2)]) := by
          intro z2 hz2
          refine Dn.st (fun t q => XS.istore X6.here hx rfl (hb hby at_222) rfl (l' := #[.val (.long y0), .second, .val (.int x0), .val (.long y2), .second, .val (.long y3), .second, .val (.long y4), .second, .val (.long y5), .second, .val (.long yw), .second, .val (.long ga), .second, .val (.long gb), .second, .val (.long t1), .second, .val (.long t2), .second, .val (.long t3), .second, .val (.long c1), .second, .val (.long c2), .second, .val (.long c3), .second, .val (.long yd), .second, .val (.ref b0), .val (.int z1), .val (.int z2), .unset, .unset, .unset, .unset]) rfl q) ?_
          show Dn p e below s _ _ _ T6 (mkF m 224 #[.val (.long y0), .second, .val (.int x0), .val (.long y2), .second, .val (.long y3), .second, .val (.long y4), .second, .val (.long y5), .second, .val (.long yw), .second, .val (.long ga), .second, .val (.long gb), .second, .val (.long t1), .second, .val (.long t2), .second, .val (.long t3), .second, .val (.long c1), .second, .val (.long c2), .second, .val (.long c3), .second, .val (.long yd), .second, .val (.ref b0), .val (.int z1), .val (.int z2), .unset, .unset, .unset, .unset] [])
          refine Dn.st (fun t q => XS.lload X6.here hx rfl (hb hby at_224) rfl  q) ?_
          show Dn p e below s _ _ _ T6 (mkF m 226 #[.val (.long y0), .second, .val (.int x0), .val (.long y2), .second, .val (.long y3), .second, .val (.long y4), .second, .val (.long y5), .second, .val (.long yw), .second, .val (.long ga), .second, .val (.long gb), .second, .val (.long t1), .second, .val (.long t2), .second, .val (.long t3), .second, .val (.long c1), .second, .val (.long c2), .second, .val (.long c3), .second, .val (.long yd), .second, .val (.ref b0), .val (.int z1), .val (.int z2), .unset, .unset, .unset, .unset] [(.long yd)])
          refine Dn.st (fun t q => XS.lload X6.here hx rfl (hb hby at_226) rfl  q) ?_
          show Dn p e below s _ _ _ T6 (mkF m 228 #[.val (.long y0), .second, .val (.int x0), .val (.long y2), .second, .val (.long y3), .second, .val (.long y4), .second, .val (.long y5), .second, .val (.long yw), .second, .val (.long ga), .second, .val (.long gb), .second, .val (.long t1), .second, .val (.long t2), .second, .val (.long t3), .second, .val (.long c1), .second, .val (.long c2), .second, .val (.long c3), .second, .val (.long yd), .second, .val (.ref b0), .val (.int z1), .val (.int z2), .unset, .unset, .unset, .unset] [(.long t3), (.long yd)])
          refine Dn.st (fun t q => XS.lsub X6.here hx rfl (hb hby at_228) rfl q) ?_
          show Dn p e below s _ _ _ T6 (mkF m 229 #[.val (.long y0), .second, .val (.int x0), .val (.long y2), .second, .val (.long y3), .second, .val (.long y4), .second, .val (.long y5), .second, .val (.long yw), .second, .val (.long ga), .second, .val (.long gb), .second, .val (.long t1), .second, .val (.long t2), .second, .val (.long t3), .second, .val (.long c1), .second, .val (.long c2), .second, .val (.long c3), .second, .val (.long yd), .second, .val (.ref b0), .val (.int z1), .val (.int z2), .unset, .unset, .unset, .unset] [(.long (yd - t3))])
          refine Dn.st (fun t q => XS.lload X6.here hx rfl (hb hby at_229) rfl  q) ?_
          show Dn p e below s _ _ _ T6 (mkF m 231 #[.val (.long y0), .second, .val (.int x0), .val (.long y2), .second, .val (.long y3), .second, .val (.long y4), .second, .val (.long y5), .second, .val (.long yw), .second, .val (.long ga), .second, .val (.long gb), .second, .val (.long t1), .second, .val (.long t2), .second, .val (.long t3), .second, .val (.long c1), .second, .val (.long c2), .second, .val (.long c3), .second, .val (.long yd), .second, .val (.ref b0), .val (.int z1), .val (.int z2), .unset, .unset, .unset, .unset] [(.long yw), (.long (yd - t3))])
          refine Dn.st (fun t q => XS.lcmp X6.here hx rfl (hb hby at_231) rfl q) ?_
          show Dn p e below s _ _ _ T6 (mkF m 232 #[.val (.long y0), .second, .val (.int x0), .val (.long y2), .second, .val (.long y3), .second, .val (.long y4), .second, .val (.long y5), .second, .val (.long yw), .second, .val (.long ga), .second, .val (.long gb), .second, .val (.long t1), .second, .val (.long t2), .second, .val (.long t3), .second, .val (.long c1), .second, .val (.long c2), .second, .val (.long c3), .second, .val (.long yd), .second, .val (.ref b0), .val (.int z1), .val (.int z2), .unset, .unset, .unset, .unset] [(.int (lcmpW (yd - t3) yw))])
          have js3 : ∀ (z3 : Int32) (hz3 : z3 = if (yd - t3) < yw then (1 : Int32) else (0 : Int32)), Dn p e below s (Q0 Z y0 x0 y2 y3 y4 y5 h0 n0) (7) (35) T6 (mkF m 240 #[.val (.long y0), .second, .val (.int x0), .val (.long y2), .second, .val (.long y3), .second, .val (.long y4), .second, .val (.long y5), .second, .val (.long yw), .second, .val (.long ga), .second, .val (.long gb), .second, .val (.long t1), .second, .val (.long t2), .second, .val (.long t3), .second, .val (.long c1), .second, .val (.long c2), .second, .val (.long c3), .second, .val (.long yd), .second, .val (.ref b0), .val (.int z1), .val (.int z2), .unset, .unset, .unset, .unset] [(.int z3)]) := by
            intro z3 hz3
            refine Dn.st (fun t q => XS.istore X6.here hx rfl (hb hby at_240) rfl (l' := #[.val (.long y0), .second, .val (.int x0), .val (.long y2), .second, .val (.long y3), .second, .val (.long y4), .second, .val (.long y5), .second, .val (.long yw), .second, .val (.long ga), .second, .val (.long gb), .second, .val (.long t1), .second, .val (.long t2), .second, .val (.long t3), .second, .val (.long c1), .second, .val (.long c2), .second, .val (.long c3), .second, .val (.long yd), .second, .val (.ref b0), .val (.int z1), .val (.int z2), .val (.int z3), .unset, .unset, .unset]) rfl q) ?_
            show Dn p e below s _ _ _ T6 (mkF m 242 #[.val (.long y0), .second, .val (.int x0), .val (.long y2), .second, .val (.long y3), .second, .val (.long y4), .second, .val (.long y5), .second, .val (.long yw), .second, .val (.long ga), .second, .val (.long gb), .second, .val (.long t1), .second, .val (.long t2), .second, .val (.long t3), .second, .val (.long c1), .second, .val (.long c2), .second, .val (.long c3), .second, .val (.long yd), .second, .val (.ref b0), .val (.int z1), .val (.int z2), .val (.int z3), .unset, .unset, .unset] [])
            refine Dn.st (fun t q => XS.iload X6.here hx rfl (hb hby at_242) rfl  q) ?_
            show Dn p e below s _ _ _ T6 (mkF m 244 #[.val (.long y0), .second, .val (.int x0), .val (.long y2), .second, .val (.long y3), .second, .val (.long y4), .second, .val (.long y5), .second, .val (.long yw), .second, .val (.long ga), .second, .val (.long gb), .second, .val (.long t1), .second, .val (.long t2), .second, .val (.long t3), .second, .val (.long c1), .second, .val (.long c2), .second, .val (.long c3), .second, .val (.long yd), .second, .val (.ref b0), .val (.int z1), .val (.int z2), .val (.int z3), .unset, .unset, .unset] [(.int z1)])
            have jk1 : ∀ (z4 : Int32) (hz4 : z4 = if (yd - t1) < yw then (1 : Int32) else (0 : Int32)), Dn p e below s (Q0 Z y0 x0 y2 y3 y4 y5 h0 n0) (7) (35) T6 (mkF m 252 #[.val (.long y0), .second, .val (.int x0), .val (.long y2), .second, .val (.long y3), .second, .val (.long y4), .second, .val (.long y5), .second, .val (.long yw), .second, .val (.long ga), .second, .val (.long gb), .second, .val (.long t1), .second, .val (.long t2), .second, .val (.long t3), .second, .val (.long c1), .second, .val (.long c2), .second, .val (.long c3), .second, .val (.long yd), .second, .val (.ref b0), .val (.int z1), .val (.int z2), .val (.int z3), .unset, .unset, .unset] [(.int z4)]) := by
              intro z4 hz4
              refine Dn.st (fun t q => XS.iload X6.here hx rfl (hb hby at_252) rfl  q) ?_
              show Dn p e below s _ _ _ T6 (mkF m 254 #[.val (.long y0), .second, .val (.int x0), .val (.long y2), .second, .val (.long y3), .second, .val (.long y4), .second, .val (.long y5), .second, .val (.long yw), .second, .val (.long ga), .second, .val (.long gb), .second, .val (.long t1), .second, .val (.long t2), .second, .val (.long t3), .second, .val (.long c1), .second, .val (.long c2), .second, .val (.long c3), .second, .val (.long yd), .second, .val (.ref b0), .val (.int z1), .val (.int z2), .val (.int z3), .unset, .unset, .unset] [(.int z2), (.int z4)])
              have jk2 : ∀ (z5 : Int32) (hz5 : z5 = if (yd - t2) < yw ∧ ¬ (t2 = t1) then (1 : Int32) else (0 : Int32)), Dn p e below s (Q0 Z y0 x0 y2 y3 y4 y5 h0 n0) (7) (35) T6 (mkF m 270 #[.val (.long y0), .second, .val (.int x0), .val (.long y2), .second, .val (.long y3), .second, .val (.long y4), .second, .val (.long y5), .second, .val (.long yw), .second, .val (.long ga), .second, .val (.long gb), .second, .val (.long t1), .second, .val (.long t2), .second, .val (.long t3), .second, .val (.long c1), .second, .val (.long c2), .second, .val (.long c3), .second, .val (.long yd), .second, .val (.ref b0), .val (.int z1), .val (.int z2), .val (.int z3), .unset, .unset, .unset] [(.int z5), (.int z4)]) := by
                intro z5 hz5
                refine Dn.st (fun t q => XS.iadd X6.here hx rfl (hb hby at_270) rfl q) ?_
                show Dn p e below s _ _ _ T6 (mkF m 271 #[.val (.long y0), .second, .val (.int x0), .val (.long y2), .second, .val (.long y3), .second, .val (.long y4), .second, .val (.long y5), .second, .val (.long yw), .second, .val (.long ga), .second, .val (.long gb), .second, .val (.long t1), .second, .val (.long t2), .second, .val (.long t3), .second, .val (.long c1), .second, .val (.long c2), .second, .val (.long c3), .second, .val (.long yd), .second, .val (.ref b0), .val (.int z1), .val (.int z2), .val (.int z3), .unset, .unset, .unset] [(.int (z4 + z5))])
                refine Dn.st (fun t q => XS.iload X6.here hx rfl (hb hby at_271) rfl  q) ?_
                show Dn p e below s _ _ _ T6 (mkF m 273 #[.val (.long y0), .second, .val (.int x0), .val (.long y2), .second, .val (.long y3), .second, .val (.long y4), .second, .val (.long y5), .second, .val (.long yw), .second, .val (.long ga), .second, .val (.long gb), .second, .val (.long t1), .second, .val (.long t2), .second, .val (.long t3), .second, .val (.long c1), .second, .val (.long c2), .second, .val (.long c3), .second, .val (.long yd), .second, .val (.ref b0), .val (.int z1), .val (.int z2), .val (.int z3), .unset, .unset, .unset] [(.int z3), (.int (z4 + z5))])
                have jk3 : ∀ (z6 : Int32) (hz6 : z6 = if (yd - t3) < yw ∧ ¬ (t3 = t2) then (1 : Int32) else (0 : Int32)), Dn p e below s (Q0 Z y0 x0 y2 y3 y4 y5 h0 n0) (7) (35) T6 (mkF m 289 #[.val (.long y0), .second, .val (.int x0), .val (.long y2), .second, .val (.long y3), .second, .val (.long y4), .second, .val (.long y5), .second, .val (.long yw), .second, .val (.long ga), .second, .val (.long gb), .second, .val (.long t1), .second, .val (.long t2), .second, .val (.long t3), .second, .val (.long c1), .second, .val (.long c2), .second, .val (.long c3), .second, .val (.long yd), .second, .val (.ref b0), .val (.int z1), .val (.int z2), .val (.int z3), .unset, .unset, .unset] [(.int z6), (.int (z4 + z5))]) := by
                  intro z6 hz6
                  refine Dn.st (fun t q => XS.iadd X6.here hx rfl (hb hby at_289) rfl q) ?_
                  show Dn p e below s _ _ _ T6 (mkF m 290 #[.val (.long y0), .second, .val (.int x0), .val (.long y2), .second, .val (.long y3), .second, .val (.long y4), .second, .val (.long y5), .second, .val (.long yw), .second, .val (.long ga), .second, .val (.long gb), .second, .val (.long t1), .second, .val (.long t2), .second, .val (.long t3), .second, .val (.long c1), .second, .val (.long c2), .second, .val (.long c3), .second, .val (.long yd), .second, .val (.ref b0), .val (.int z1), .val (.int z2), .val (.int z3), .unset, .unset, .unset] [(.int ((z4 + z5) + z6))])
                  refine Dn.st (fun t q => XS.istore X6.here hx rfl (hb hby at_290) rfl (l' := #[.val (.long y0), .second, .val (.int x0), .val (.long y2), .second, .val (.long y3), .second, .val (.long y4), .second, .val (.long y5), .second, .val (.long yw), .second, .val (.long ga), .second, .val (.long gb), .second, .val (.long t1), .second, .val (.long t2), .second, .val (.long t3), .second, .val (.long c1), .second, .val (.long c2), .second, .val (.long c3), .second, .val (.long yd), .second, .val (.ref b0), .val (.int z1), .val (.int z2), .val (.int z3), .val (.int ((z4 + z5) + z6)), .unset, .unset]) rfl q) ?_
                  show Dn p e below s _ _ _ T6 (mkF m 292 #[.val (.long y0), .second, .val (.int x0), .val (.long y2), .second, .val (.long y3), .second, .val (.long y4), .second, .val (.long y5), .second, .val (.long yw), .second, .val (.long ga), .second, .val (.long gb), .second, .val (.long t1), .second, .val (.long t2), .second, .val (.long t3), .second, .val (.long c1), .second, .val (.long c2), .second, .val (.long c3), .second, .val (.long yd), .second, .val (.ref b0), .val (.int z1), .val (.int z2), .val (.int z3), .val (.int ((z4 + z5) + z6)), .unset, .unset] [])
                  refine Dn.st (fun t q => XS.iload X6.here hx rfl (hb hby at_292) rfl  q) ?_
                  show Dn p e below s _ _ _ T6 (mkF m 294 #[.val (.long y0), .second, .val (.int x0), .val (.long y2), .second, .val (.long y3), .second, .val (.long y4), .second, .val (.long y5), .second, .val (.long yw), .second, .val (.long ga), .second, .val (.long gb), .second, .val (.long t1), .second, .val (.long t2), .second, .val (.long t3), .second, .val (.long c1), .second, .val (.long c2), .second, .val (.long c3), .second, .val (.long yd), .second, .val (.ref b0), .val (.int z1), .val (.int z2), .val (.int z3), .val (.int ((z4 + z5) + z6)), .unset, .unset] [(.int z1)])
                  have jp1 : ∀ (p1 : Int64) (hp1 : p1 = if (yd - t1) < yw then c1 else (0 : Int64)), Dn p e below s (Q0 Z y0 x0 y2 y3 y4 y5 h0 n0) (7) (35) T6 (mkF m 303 #[.val (.long y0), .second, .val (.int x0), .val (.long y2), .second, .val (.long y3), .second, .val (.long y4), .second, .val (.long y5), .second, .val (.long yw), .second, .val (.long ga), .second, .val (.long gb), .second, .val (.long t1), .second, .val (.long t2), .second, .val (.long t3), .second, .val (.long c1), .second, .val (.long c2), .second, .val (.long c3), .second, .val (.long yd), .second, .val (.ref b0), .val (.int z1), .val (.int z2), .val (.int z3), .val (.int ((z4 + z5) + z6)), .unset, .unset] [(.long p1)]) := by
                    intro p1 hp1
                    refine Dn.st (fun t q => XS.iload X6.here hx rfl (hb hby at_303) rfl  q) ?_
                    show Dn p e below s _ _ _ T6 (mkF m 305 #[.val (.long y0), .second, .val (.int x0), .val (.long y2), .second, .val (.long y3), .second, .val (.long y4), .second, .val (.long y5), .second, .val (.long yw), .second, .val (.long ga), .second, .val (.long gb), .second, .val (.long t1), .second, .val (.long t2), .second, .val (.long t3), .second, .val (.long c1), .second, .val (.long c2), .second, .val (.long c3), .second, .val (.long yd), .second, .val (.ref b0), .val (.int z1), .val (.int z2), .val (.int z3), .val (.int ((z4 + z5) + z6)), .unset, .unset] [(.int z2), (.long p1)])
                    have jp2 : ∀ (p2 : Int64) (hp2 : p2 = if (yd - t2) < yw then c2 else (0 : Int64)), Dn p e below s (Q0 Z y0 x0 y2 y3 y4 y5 h0 n0) (7) (35) T6 (mkF m 314 #[.val (.long y0), .second, .val (.int x0), .val (.long y2), .second, .val (.long y3), .second, .val (.long y4), .second, .val (.long y5), .second, .val (.long yw), .second, .val (.long ga), .second, .val (.long gb), .second, .val (.long t1), .second, .val (.long t2), .second, .val (.long t3), .second, .val (.long c1), .second, .val (.long c2), .second, .val (.long c3), .second, .val (.long yd), .second, .val (.ref b0), .val (.int z1), .val (.int z2), .val (.int z3), .val (.int ((z4 + z5) + z6)), .unset, .unset] [(.long p2), (.long p1)]) := by
                      intro p2 hp2
                      refine Dn.st (fun t q => XS.ladd X6.here hx rfl (hb hby at_314) rfl q) ?_
                      show Dn p e below s _ _ _ T6 (mkF m 315 #[.val (.long y0), .second, .val (.int x0), .val (.long y2), .second, .val (.long y3), .second, .val (.long y4), .second, .val (.long y5), .second, .val (.long yw), .second, .val (.long ga), .second, .val (.long gb), .second, .val (.long t1), .second, .val (.long t2), .second, .val (.long t3), .second, .val (.long c1), .second, .val (.long c2), .second, .val (.long c3), .second, .val (.long yd), .second, .val (.ref b0), .val (.int z1), .val (.int z2), .val (.int z3), .val (.int ((z4 + z5) + z6)), .unset, .unset] [(.long (p1 + p2))])
                      refine Dn.st (fun t q => XS.iload X6.here hx rfl (hb hby at_315) rfl  q) ?_
                      show Dn p e below s _ _ _ T6 (mkF m 317 #[.val (.long y0), .second, .val (.int x0), .val (.long y2), .second, .val (.long y3), .second, .val (.long y4), .second, .val (.long y5), .second, .val (.long yw), .second, .val (.long ga), .second, .val (.long gb), .second, .val (.long t1), .second, .val (.long t2), .second, .val (.long t3), .second, .val (.long c1), .second, .val (.long c2), .second, .val (.long c3), .second, .val (.long yd), .second, .val (.ref b0), .val (.int z1), .val (.int z2), .val (.int z3), .val (.int ((z4 + z5) + z6)), .unset, .unset] [(.int z3), (.long (p1 + p2))])
                      have jp3 : ∀ (p3 : Int64) (hp3 : p3 = if (yd - t3) < yw then c3 else (0 : Int64)), Dn p e below s (Q0 Z y0 x0 y2 y3 y4 y5 h0 n0) (7) (35) T6 (mkF m 326 #[.val (.long y0), .second, .val (.int x0), .val (.long y2), .second, .val (.long y3), .second, .val (.long y4), .second, .val (.long y5), .second, .val (.long yw), .second, .val (.long ga), .second, .val (.long gb), .second, .val (.long t1), .second, .val (.long t2), .second, .val (.long t3), .second, .val (.long c1), .second, .val (.long c2), .second, .val (.long c3), .second, .val (.long yd), .second, .val (.ref b0), .val (.int z1), .val (.int z2), .val (.int z3), .val (.int ((z4 + z5) + z6)), .unset, .unset] [(.long p3), (.long (p1 + p2))]) := by
                        intro p3 hp3
                        have hsz : (own_sub xt3 (own_dh yd yw (0 : Int32) es3) (Nat.toInt32 17)) = ((z4 + z5) + z6) := by rw [own_sub_v hxh4 hxt4 hb4, hz4, hz5, hz6]; exact fin.1
                        have hpm : (own_dp yd yw ((((0 : Int64) + c1) + c2) + c3) es3) = ((p1 + p2) + p3) := by rw [hp1, hp2, hp3]; exact fin.2
                        refine Dn.st (fun t q => XS.ladd X6.here hx rfl (hb hby at_326) rfl q) ?_
                        show Dn p e below s _ _ _ T6 (mkF m 327 #[.val (.long y0), .second, .val (.int x0), .val (.long y2), .second, .val (.long y3), .second, .val (.long y4), .second, .val (.long y5), .second, .val (.long yw), .second, .val (.long ga), .second, .val (.long gb), .second, .val (.long t1), .second, .val (.long t2), .second, .val (.long t3), .second, .val (.long c1), .second, .val (.long c2), .second, .val (.long c3), .second, .val (.long yd), .second, .val (.ref b0), .val (.int z1), .val (.int z2), .val (.int z3), .val (.int ((z4 + z5) + z6)), .unset, .unset] [(.long ((p1 + p2) + p3))])
                        refine Dn.st (fun t q => XS.lstore X6.here hx rfl (hb hby at_327) rfl (l' := #[.val (.long y0), .second, .val (.int x0), .val (.long y2), .second, .val (.long y3), .second, .val (.long y4), .second, .val (.long y5), .second, .val (.long yw), .second, .val (.long ga), .second, .val (.long gb), .second, .val (.long t1), .second, .val (.long t2), .second, .val (.long t3), .second, .val (.long c1), .second, .val (.long c2), .second, .val (.long c3), .second, .val (.long yd), .second, .val (.ref b0), .val (.int z1), .val (.int z2), .val (.int z3), .val (.int ((z4 + z5) + z6)), .val (.long ((p1 + p2) + p3)), .second]) rfl q) ?_
                        show Dn p e below s _ _ _ T6 (mkF m 329 #[.val (.long y0), .second, .val (.int x0), .val (.long y2), .second, .val (.long y3), .second, .val (.long y4), .second, .val (.long y5), .second, .val (.long yw), .second, .val (.long ga), .second, .val (.long gb), .second, .val (.long t1), .second, .val (.long t2), .second, .val (.long t3), .second, .val (.long c1), .second, .val (.long c2), .second, .val (.long c3), .second, .val (.long yd), .second, .val (.ref b0), .val (.int z1), .val (.int z2), .val (.int z3), .val (.int ((z4 + z5) + z6)), .val (.long ((p1 + p2) + p3)), .second] [])
                        refine Dn.st (fun t q => XS.aload X6.here hx rfl (hb hby at_329) rfl rfl  q) ?_
                        show Dn p e below s _ _ _ T6 (mkF m 331 #[.val (.long y0), .second, .val (.int x0), .val (.long y2), .second, .val (.long y3), .second, .val (.long y4), .second, .val (.long y5), .second, .val (.long yw), .second, .val (.long ga), .second, .val (.long gb), .second, .val (.long t1), .second, .val (.long t2), .second, .val (.long t3), .second, .val (.long c1), .second, .val (.long c2), .second, .val (.long c3), .second, .val (.long yd), .second, .val (.ref b0), .val (.int z1), .val (.int z2), .val (.int z3), .val (.int ((z4 + z5) + z6)), .val (.long ((p1 + p2) + p3)), .second] [(.ref b0)])
                        obtain ⟨cq7, kq7, q7a, q7b, q7c⟩ := isOf hZ rfl E_b0
                        obtain ⟨_, _, ⟨T7, Lq7, kq_7, nq_7⟩, -, X7, ⟨Lc7, hQ7, lq7, yq7, zq7⟩, st7⟩ := X6.virtualBack hx (y := (⟨"com/example/scripted_rate_limiter/scriptedratelimiter/PermitLog", "size", "()I"⟩ : MethodName)) (z := (⟨"com/example/scripted_rate_limiter/scriptedratelimiter/PermitLog", "size", "()I"⟩ : MethodName)) hown (mvT hZ (hw _ (List.mem_of_getElem? (i := 114) rfl))) (mvT hZ (hw _ (List.mem_of_getElem? (i := 115) rfl))) (notFace_of_selects (args := #[]) (mvT hZ (hw _ (List.mem_of_getElem? (i := 117) rfl)))) (mvT hZ (hw _ (List.mem_of_getElem? (i := 117) rfl))) (mvT hZ (hw _ (List.mem_of_getElem? (i := 116) rfl))) (by decide) (backOf (W := 0) (rm18 l Z a0 hw [] b0 bq ba (own_dh yd yw (0 : Int32) es3) xt3 (own_at (own_dn yd yw 0 es3) (own_dw yd yw es3)) T6.heap n0 Z0 F_entries E_q F_elements F_head F_tail A) hZ (hw _ (List.mem_of_getElem? (i := 118) rfl)) (hw _ (List.mem_of_getElem? (i := 6) rfl)) (by decide) (by decide)) q7a q7c (g := (mkF m 331 #[.val (.long y0), .second, .val (.int x0), .val (.long y2), .second, .val (.long y3), .second, .val (.long y4), .second, .val (.long y5), .second, .val (.long yw), .second, .val (.long ga), .second, .val (.long gb), .second, .val (.long t1), .second, .val (.long t2), .second, .val (.long t3), .second, .val (.long c1), .second, .val (.long c2), .second, .val (.long c3), .second, .val (.long yd), .second, .val (.ref b0), .val (.int z1), .val (.int z2), .val (.int z3), .val (.int ((z4 + z5) + z6)), .val (.long ((p1 + p2) + p3)), .second] [(.ref b0)])) rfl (by rw [hml]; rfl) (Steps.refl _) (argsL := []) (rest := []) (lenOf pd_10 rfl) rfl (by show 2 * 0 + _ ≤ _; exact Nat.le_of_eq rfl) (hb hby at_331) (fun _ _ => ⟨rfl, rfl, (by decide : 6 + 0 ≤ _), (by decide : 31 + 0 ≤ _)⟩)
                        dsimp only [Pt.U, Pt.locs, Pt.cells, Pt.slots] at X7 lq7 yq7 zq7 st7 hQ7
                        subst lq7 yq7 zq7
                        obtain ⟨rfl, N7q, hq7⟩ := hQ7
                        have N0 := Fr.app N0 N7q
                        have e7 : T7.heap = T6.heap := hq7
                        refine Dn.tr st7 ?_
                        show Dn p e below s _ _ _ T7 (mkF m 334 #[.val (.long y0), .second, .val (.int x0), .val (.long y2), .second, .val (.long y3), .second, .val (.long y4), .second, .val (.long y5), .second, .val (.long yw), .second, .val (.long ga), .second, .val (.long gb), .second, .val (.long t1), .second, .val (.long t2), .second, .val (.long t3), .second, .val (.long c1), .second, .val (.long c2), .second, .val (.long c3), .second, .val (.long yd), .second, .val (.ref b0), .val (.int z1), .val (.int z2), .val (.int z3), .val (.int ((z4 + z5) + z6)), .val (.long ((p1 + p2) + p3)), .second] [(.int (own_sub xt3 (own_dh yd yw (0 : Int32) es3) (Nat.toInt32 17)))])
                        refine Dn.st (fun t q => XS.iload X7.here hx rfl (hb hby at_334) rfl  q) ?_
                        show Dn p e below s _ _ _ T7 (mkF m 336 #[.val (.long y0), .second, .val (.int x0), .val (.long y2), .second, .val (.long y3), .second, .val (.long y4), .second, .val (.long y5), .second, .val (.long yw), .second, .val (.long ga), .second, .val (.long gb), .second, .val (.long t1), .second, .val (.long t2), .second, .val (.long t3), .second, .val (.long c1), .second, .val (.long c2), .second, .val (.long c3), .second, .val (.long yd), .second, .val (.ref b0), .val (.int z1), .val (.int z2), .val (.int z3), .val (.int ((z4 + z5) + z6)), .val (.long ((p1 + p2) + p3)), .second] [(.int ((z4 + z5) + z6)), (.int (own_sub xt3 (own_dh yd yw (0 : Int32) es3) (Nat.toInt32 17)))])
                        refine Dn.st (fun t q => XS.icmpNo X7.here hx rfl (hb hby at_336) rfl (teq hsz).2 q) ?_
                        show Dn p e below s _ _ _ T7 (mkF m 339 #[.val (.long y0), .second, .val (.int x0), .val (.long y2), .second, .val (.long y3), .second, .val (.long y4), .second, .val (.long y5), .second, .val (.long yw), .second, .val (.long ga), .second, .val (.long gb), .second, .val (.long t1), .second, .val (.long t2), .second, .val (.long t3), .second, .val (.long c1), .second, .val (.long c2), .second, .val (.long c3), .second, .val (.long yd), .second, .val (.ref b0), .val (.int z1), .val (.int z2), .val (.int z3), .val (.int ((z4 + z5) + z6)), .val (.long ((p1 + p2) + p3)), .second] [])
                        refine Dn.st (fun t q => XS.aload X7.here hx rfl (hb hby at_339) rfl rfl  q) ?_
                        show Dn p e below s _ _ _ T7 (mkF m 341 #[.val (.long y0), .second, .val (.int x0), .val (.long y2), .second, .val (.long y3), .second, .val (.long y4), .second, .val (.long y5), .second, .val (.long yw), .second, .val (.long ga), .second, .val (.long gb), .second, .val (.long t1), .second, .val (.long t2), .second, .val (.long t3), .second, .val (.long c1), .second, .val (.long c2), .second, .val (.long c3), .second, .val (.long yd), .second, .val (.ref b0), .val (.int z1), .val (.int z2), .val (.int z3), .val (.int ((z4 + z5) + z6)), .val (.long ((p1 + p2) + p3)), .second] [(.ref b0)])
                        refine Dn.st (fun t q => XS.lload X7.here hx rfl (hb hby at_341) rfl  q) ?_
                        show Dn p e below s _ _ _ T7 (mkF m 343 #[.val (.long y0), .second, .val (.int x0), .val (.long y2), .second, .val (.long y3), .second, .val (.long y4), .second, .val (.long y5), .second, .val (.long yw), .second, .val (.long ga), .second, .val (.long gb), .second, .val (.long t1), .second, .val (.long t2), .second, .val (.long t3), .second, .val (.long c1), .second, .val (.long c2), .second, .val (.long c3), .second, .val (.long yd), .second, .val (.ref b0), .val (.int z1), .val (.int z2), .val (.int z3), .val (.int ((z4 + z5) + z6)), .val (.long ((p1 + p2) + p3)), .second] [(.long t1), (.ref b0)])
                        obtain ⟨cq8, kq8, q8a, q8b, q8c⟩ := isOf hZ e7 E_b0
                        obtain ⟨_, _, ⟨T8, Lq8, kq_8, nq_8⟩, -, X8, ⟨Lc8, hQ8, lq8, yq8, zq8⟩, st8⟩ := X7.virtualBack hx (y := (⟨"com/example/scripted_rate_limiter/scriptedratelimiter/PermitLog", "permitsAt", "(J)J"⟩ : MethodName)) (z := (⟨"com/example/scripted_rate_limiter/scriptedratelimiter/PermitLog", "permitsAt", "(J)J"⟩ : MethodName)) hown (mvT hZ (hw _ (List.mem_of_getElem? (i := 127) rfl))) (mvT hZ (hw _ (List.mem_of_getElem? (i := 128) rfl))) (notFace_of_selects (args := #[]) (mvT hZ (hw _ (List.mem_of_getElem? (i := 130) rfl)))) (mvT hZ (hw _ (List.mem_of_getElem? (i := 130) rfl))) (mvT hZ (hw _ (List.mem_of_getElem? (i := 129) rfl))) (by decide) (backOf (W := 0) (rm21 l Z a0 hw [] b0 t1 bq ba yw (own_dp yd yw ((((0 : Int64) + c1) + c2) + c3) es3) (own_dh yd yw (0 : Int32) es3) xt3 (own_dn yd yw 0 es3) (own_dw yd yw es3) T6.heap n0 Z0 E_b0 F_entries F_windowTicks F_permits E_q F_elements F_head F_tail A En ne_b0_bq ne_b0_ba ne_bq_ba g_b0 g_bq g_ba hxh4 hxt4 hb4 hoff4 hfst) hZ (hw _ (List.mem_of_getElem? (i := 131) rfl)) (hw _ (List.mem_of_getElem? (i := 6) rfl)) (by decide) (by decide)) q8a q8c (g := (mkF m 343 #[.val (.long y0), .second, .val (.int x0), .val (.long y2), .second, .val (.long y3), .second, .val (.long y4), .second, .val (.long y5), .second, .val (.long yw), .second, .val (.long ga), .second, .val (.long gb), .second, .val (.long t1), .second, .val (.long t2), .second, .val (.long t3), .second, .val (.long c1), .second, .val (.long c2), .second, .val (.long c3), .second, .val (.long yd), .second, .val (.ref b0), .val (.int z1), .val (.int z2), .val (.int z3), .val (.int ((z4 + z5) + z6)), .val (.long ((p1 + p2) + p3)), .second] [(.long t1), (.ref b0)])) rfl (by rw [hml]; rfl) (Steps.refl _) (argsL := [(.long t1)]) (rest := []) (lenOf pd_14 rfl) rfl (by show 2 * 0 + _ ≤ _; exact Nat.le_of_eq rfl) (hb hby at_343) (fun _ _ => ⟨rfl, e7, (by decide : 6 + 1 ≤ _), (by decide : 31 + 4 ≤ _)⟩)
                        dsimp only [Pt.U, Pt.locs, Pt.cells, Pt.slots] at X8 lq8 yq8 zq8 st8 hQ8
                        subst lq8 yq8 zq8
                        obtain ⟨rfl, N8q, K8⟩ := hQ8
                        have N0 := Fr.app N0 N8q
                        have Z0 := Nat.le_trans Z0 K8.1
                        have K0 := K0.trans K8 all0
                        have E_b0 := E_b0.keep K8
                        have E_q := E_q.keep K8
                        have En := En.keep K8 (fun z hz => nin0)
                        have F_entries := F_entries.keep K8 nin0
                        have F_windowTicks := F_windowTicks.keep K8 nin0
                        have F_permits := F_permits.keep K8 nin0
                        have F_elements := F_elements.keep K8 nin0
                        have F_head := F_head.keep K8 nin0
                        have F_tail := F_tail.keep K8 nin0
                        have A := A.keep K8 nin0
                        refine Dn.tr st8 ?_
                        show Dn p e below s _ _ _ T8 (mkF m 346 #[.val (.long y0), .second, .val (.int x0), .val (.long y2), .second, .val (.long y3), .second, .val (.long y4), .second, .val (.long y5), .second, .val (.long yw), .second, .val (.long ga), .second, .val (.long gb), .second, .val (.long t1), .second, .val (.long t2), .second, .val (.long t3), .second, .val (.long c1), .second, .val (.long c2), .second, .val (.long c3), .second, .val (.long yd), .second, .val (.ref b0), .val (.int z1), .val (.int z2), .val (.int z3), .val (.int ((z4 + z5) + z6)), .val (.long ((p1 + p2) + p3)), .second] [(.long (own_dp yd yw ((((0 : Int64) + c1) + c2) + c3) es3))])
                        refine Dn.st (fun t q => XS.lload X8.here hx rfl (hb hby at_346) rfl  q) ?_
                        show Dn p e below s _ _ _ T8 (mkF m 348 #[.val (.long y0), .second, .val (.int x0), .val (.long y2), .second, .val (.long y3), .second, .val (.long y4), .second, .val (.long y5), .second, .val (.long yw), .second, .val (.long ga), .second, .val (.long gb), .second, .val (.long t1), .second, .val (.long t2), .second, .val (.long t3), .second, .val (.long c1), .second, .val (.long c2), .second, .val (.long c3), .second, .val (.long yd), .second, .val (.ref b0), .val (.int z1), .val (.int z2), .val (.int z3), .val (.int ((z4 + z5) + z6)), .val (.long ((p1 + p2) + p3)), .second] [(.long ((p1 + p2) + p3)), (.long (own_dp yd yw ((((0 : Int64) + c1) + c2) + c3) es3))])
                        refine Dn.st (fun t q => XS.lcmp X8.here hx rfl (hb hby at_348) rfl q) ?_
                        show Dn p e below s _ _ _ T8 (mkF m 349 #[.val (.long y0), .second, .val (.int x0), .val (.long y2), .second, .val (.long y3), .second, .val (.long y4), .second, .val (.long y5), .second, .val (.long yw), .second, .val (.long ga), .second, .val (.long gb), .second, .val (.long t1), .second, .val (.long t2), .second, .val (.long t3), .second, .val (.long c1), .second, .val (.long c2), .second, .val (.long c3), .second, .val (.long yd), .second, .val (.ref b0), .val (.int z1), .val (.int z2), .val (.int z3), .val (.int ((z4 + z5) + z6)), .val (.long ((p1 + p2) + p3)), .second] [(.int (lcmpW (own_dp yd yw ((((0 : Int64) + c1) + c2) + c3) es3) ((p1 + p2) + p3)))])
                        refine Dn.st (fun t q => XS.ifNo X8.here hx rfl (hb hby at_349) rfl ((if0 _ _).trans (teq ((lw_eq _ _).mpr hpm)).2) q) ?_
                        show Dn p e below s _ _ _ T8 (mkF m 352 #[.val (.long y0), .second, .val (.int x0), .val (.long y2), .second, .val (.long y3), .second, .val (.long y4), .second, .val (.long y5), .second, .val (.long yw), .second, .val (.long ga), .second, .val (.long gb), .second, .val (.long t1), .second, .val (.long t2), .second, .val (.long t3), .second, .val (.long c1), .second, .val (.long c2), .second, .val (.long c3), .second, .val (.long yd), .second, .val (.ref b0), .val (.int z1), .val (.int z2), .val (.int z3), .val (.int ((z4 + z5) + z6)), .val (.long ((p1 + p2) + p3)), .second] [])
                        refine Dn.st (fun t q => XS.iconst X8.here hx rfl (hb hby at_352) q) ?_
                        show Dn p e below s _ _ _ T8 (mkF m 353 #[.val (.long y0), .second, .val (.int x0), .val (.long y2), .second, .val (.long y3), .second, .val (.long y4), .second, .val (.long y5), .second, .val (.long yw), .second, .val (.long ga), .second, .val (.long gb), .second, .val (.long t1), .second, .val (.long t2), .second, .val (.long t3), .second, .val (.long c1), .second, .val (.long c2), .second, .val (.long c3), .second, .val (.long yd), .second, .val (.ref b0), .val (.int z1), .val (.int z2), .val (.int z3), .val (.int ((z4 + z5) + z6)), .val (.long ((p1 + p2) + p3)), .second] [(.int (1 : Int32))])
                        refine Dn.st (fun t q => XS.goto X8.here hx rfl (pc0 := 353) (pc' := 357) rfl (hb hby at_353) (by decide) (by decide) q) ?_
                        show Dn p e below s _ _ _ T8 (mkF m 357 #[.val (.long y0), .second, .val (.int x0), .val (.long y2), .second, .val (.long y3), .second, .val (.long y4), .second, .val (.long y5), .second, .val (.long yw), .second, .val (.long ga), .second, .val (.long gb), .second, .val (.long t1), .second, .val (.long t2), .second, .val (.long t3), .second, .val (.long c1), .second, .val (.long c2), .second, .val (.long c3), .second, .val (.long yd), .second, .val (.ref b0), .val (.int z1), .val (.int z2), .val (.int z3), .val (.int ((z4 + z5) + z6)), .val (.long ((p1 + p2) + p3)), .second] [(.int (1 : Int32))])
                        exact Dn.retZ X8 hx Bd.notSynchronized (t := .boolean) Bd.returns (by simp) (hb hby at_357) (by exact ⟨rfl, N0⟩) (by decide) (by decide)
                      by_cases hf : z3 = (0 : Int32)
                      · refine Dn.st (fun t q => XS.ifYes X6.here hx rfl (pc0 := 317) (pc' := 325) rfl (hb hby at_317) rfl ((if0 _ _).trans (teq hf).1) (by decide) (by decide) q) ?_
                        show Dn p e below s _ _ _ T6 (mkF m 325 #[.val (.long y0), .second, .val (.int x0), .val (.long y2), .second, .val (.long y3), .second, .val (.long y4), .second, .val (.long y5), .second, .val (.long yw), .second, .val (.long ga), .second, .val (.long gb), .second, .val (.long t1), .second, .val (.long t2), .second, .val (.long t3), .second, .val (.long c1), .second, .val (.long c2), .second, .val (.long c3), .second, .val (.long yd), .second, .val (.ref b0), .val (.int z1), .val (.int z2), .val (.int z3), .val (.int ((z4 + z5) + z6)), .unset, .unset] [(.long (p1 + p2))])
                        refine Dn.st (fun t q => XS.lconst X6.here hx rfl (hb hby at_325) q) ?_
                        show Dn p e below s _ _ _ T6 (mkF m 326 #[.val (.long y0), .second, .val (.int x0), .val (.long y2), .second, .val (.long y3), .second, .val (.long y4), .second, .val (.long y5), .second, .val (.long yw), .second, .val (.long ga), .second, .val (.long gb), .second, .val (.long t1), .second, .val (.long t2), .second, .val (.long t3), .second, .val (.long c1), .second, .val (.long c2), .second, .val (.long c3), .second, .val (.long yd), .second, .val (.ref b0), .val (.int z1), .val (.int z2), .val (.int z3), .val (.int ((z4 + z5) + z6)), .unset, .unset] [(.long (0 : Int64)), (.long (p1 + p2))])
                        exact jp3 (0 : Int64) (own_p0 hz3 hf)
                      · refine Dn.st (fun t q => XS.ifNo X6.here hx rfl (hb hby at_317) rfl ((if0 _ _).trans (feq hf).1) q) ?_
                        show Dn p e below s _ _ _ T6 (mkF m 320 #[.val (.long y0), .second, .val (.int x0), .val (.long y2), .second, .val (.long y3), .second, .val (.long y4), .second, .val (.long y5), .second, .val (.long yw), .second, .val (.long ga), .second, .val (.long gb), .second, .val (.long t1), .second, .val (.long t2), .second, .val (.long t3), .second, .val (.long c1), .second, .val (.long c2), .second, .val (.long c3), .second, .val (.long yd), .second, .val (.ref b0), .val (.int z1), .val (.int z2), .val (.int z3), .val (.int ((z4 + z5) + z6)), .unset, .unset] [(.long (p1 + p2))])
                        refine Dn.st (fun t q => XS.lload X6.here hx rfl (hb hby at_320) rfl  q) ?_
                        show Dn p e below s _ _ _ T6 (mkF m 322 #[.val (.long y0), .second, .val (.int x0), .val (.long y2), .second, .val (.long y3), .second, .val (.long y4), .second, .val (.long y5), .second, .val (.long yw), .second, .val (.long ga), .second, .val (.long gb), .second, .val (.long t1), .second, .val (.long t2), .second, .val (.long t3), .second, .val (.long c1), .second, .val (.long c2), .second, .val (.long c3), .second, .val (.long yd), .second, .val (.ref b0), .val (.int z1), .val (.int z2), .val (.int z3), .val (.int ((z4 + z5) + z6)), .unset, .unset] [(.long c3), (.long (p1 + p2))])
                        refine Dn.st (fun t q => XS.goto X6.here hx rfl (pc0 := 322) (pc' := 326) rfl (hb hby at_322) (by decide) (by decide) q) ?_
                        show Dn p e below s _ _ _ T6 (mkF m 326 #[.val (.long y0), .second, .val (.int x0), .val (.long y2), .second, .val (.long y3), .second, .val (.long y4), .second, .val (.long y5), .second, .val (.long yw), .second, .val (.long ga), .second, .val (.long gb), .second, .val (.long t1), .second, .val (.long t2), .second, .val (.long t3), .second, .val (.long c1), .second, .val (.long c2), .second, .val (.long c3), .second, .val (.long yd), .second, .val (.ref b0), .val (.int z1), .val (.int z2), .val (.int z3), .val (.int ((z4 + z5) + z6)), .unset, .unset] [(.long c3), (.long (p1 + p2))])
                        exact jp3 c3 (own_p1 hz3 hf)
                    by_cases hf : z2 = (0 : Int32)
                    · refine Dn.st (fun t q => XS.ifYes X6.here hx rfl (pc0 := 305) (pc' := 313) rfl (hb hby at_305) rfl ((if0 _ _).trans (teq hf).1) (by decide) (by decide) q) ?_
                      show Dn p e below s _ _ _ T6 (mkF m 313 #[.val (.long y0), .second, .val (.int x0), .val (.long y2), .second, .val (.long y3), .second, .val (.long y4), .second, .val (.long y5), .second, .val (.long yw), .second, .val (.long ga), .second, .val (.long gb), .second, .val (.long t1), .second, .val (.long t2), .second, .val (.long t3), .second, .val (.long c1), .second, .val (.long c2), .second, .val (.long c3), .second, .val (.long yd), .second, .val (.ref b0), .val (.int z1), .val (.int z2), .val (.int z3), .val (.int ((z4 + z5) + z6)), .unset, .unset] [(.long p1)])
                      refine Dn.st (fun t q => XS.lconst X6.here hx rfl (hb hby at_313) q) ?_
                      show Dn p e below s _ _ _ T6 (mkF m 314 #[.val (.long y0), .second, .val (.int x0), .val (.long y2), .second, .val (.long y3), .second, .val (.long y4), .second, .val (.long y5), .second, .val (.long yw), .second, .val (.long ga), .second, .val (.long gb), .second, .val (.long t1), .second, .val (.long t2), .second, .val (.long t3), .second, .val (.long c1), .second, .val (.long c2), .second, .val (.long c3), .second, .val (.long yd), .second, .val (.ref b0), .val (.int z1), .val (.int z2), .val (.int z3), .val (.int ((z4 + z5) + z6)), .unset, .unset] [(.long (0 : Int64)), (.long p1)])
                      exact jp2 (0 : Int64) (own_p0 hz2 hf)
                    · refine Dn.st (fun t q => XS.ifNo X6.here hx rfl (hb hby at_305) rfl ((if0 _ _).trans (feq hf).1) q) ?_
                      show Dn p e below s _ _ _ T6 (mkF m 308 #[.val (.long y0), .second, .val (.int x0), .val (.long y2), .second, .val (.long y3), .second, .val (.long y4), .second, .val (.long y5), .second, .val (.long yw), .second, .val (.long ga), .second, .val (.long gb), .second, .val (.long t1), .second, .val (.long t2), .second, .val (.long t3), .second, .val (.long c1), .second, .val (.long c2), .second, .val (.long c3), .second, .val (.long yd), .second, .val (.ref b0), .val (.int z1), .val (.int z2), .val (.int z3), .val (.int ((z4 + z5) + z6)), .unset, .unset] [(.long p1)])
                      refine Dn.st (fun t q => XS.lload X6.here hx rfl (hb hby at_308) rfl  q) ?_
                      show Dn p e below s _ _ _ T6 (mkF m 310 #[.val (.long y0), .second, .val (.int x0), .val (.long y2), .second, .val (.long y3), .second, .val (.long y4), .second, .val (.long y5), .second, .val (.long yw), .second, .val (.long ga), .second, .val (.long gb), .second, .val (.long t1), .second, .val (.long t2), .second, .val (.long t3), .second, .val (.long c1), .second, .val (.long c2), .second, .val (.long c3), .second, .val (.long yd), .second, .val (.ref b0), .val (.int z1), .val (.int z2), .val (.int z3), .val (.int ((z4 + z5) + z6)), .unset, .unset] [(.long c2), (.long p1)])
                      refine Dn.st (fun t q => XS.goto X6.here hx rfl (pc0 := 310) (pc' := 314) rfl (hb hby at_310) (by decide) (by decide) q) ?_
                      show Dn p e below s _ _ _ T6 (mkF m 314 #[.val (.long y0), .second, .val (.int x0), .val (.long y2), .second, .val (.long y3), .second, .val (.long y4), .second, .val (.long y5), .second, .val (.long yw), .second, .val (.long ga), .second, .val (.long gb), .second, .val (.long t1), .second, .val (.long t2), .second, .val (.long t3), .second, .val (.long c1), .second, .val (.long c2), .second, .val (.long c3), .second, .val (.long yd), .second, .val (.ref b0), .val (.int z1), .val (.int z2), .val (.int z3), .val (.int ((z4 + z5) + z6)), .unset, .unset] [(.long c2), (.long p1)])
                      exact jp2 c2 (own_p1 hz2 hf)
                  by_cases hf : z1 = (0 : Int32)
                  · refine Dn.st (fun t q => XS.ifYes X6.here hx rfl (pc0 := 294) (pc' := 302) rfl (hb hby at_294) rfl ((if0 _ _).trans (teq hf).1) (by decide) (by decide) q) ?_
                    show Dn p e below s _ _ _ T6 (mkF m 302 #[.val (.long y0), .second, .val (.int x0), .val (.long y2), .second, .val (.long y3), .second, .val (.long y4), .second, .val (.long y5), .second, .val (.long yw), .second, .val (.long ga), .second, .val (.long gb), .second, .val (.long t1), .second, .val (.long t2), .second, .val (.long t3), .second, .val (.long c1), .second, .val (.long c2), .second, .val (.long c3), .second, .val (.long yd), .second, .val (.ref b0), .val (.int z1), .val (.int z2), .val (.int z3), .val (.int ((z4 + z5) + z6)), .unset, .unset] [])
                    refine Dn.st (fun t q => XS.lconst X6.here hx rfl (hb hby at_302) q) ?_
                    show Dn p e below s _ _ _ T6 (mkF m 303 #[.val (.long y0), .second, .val (.int x0), .val (.long y2), .second, .val (.long y3), .second, .val (.long y4), .second, .val (.long y5), .second, .val (.long yw), .second, .val (.long ga), .second, .val (.long gb), .second, .val (.long t1), .second, .val (.long t2), .second, .val (.long t3), .second, .val (.long c1), .second, .val (.long c2), .second, .val (.long c3), .second, .val (.long yd), .second, .val (.ref b0), .val (.int z1), .val (.int z2), .val (.int z3), .val (.int ((z4 + z5) + z6)), .unset, .unset] [(.long (0 : Int64))])
                    exact jp1 (0 : Int64) (own_p0 hz1 hf)
                  · refine Dn.st (fun t q => XS.ifNo X6.here hx rfl (hb hby at_294) rfl ((if0 _ _).trans (feq hf).1) q) ?_
                    show Dn p e below s _ _ _ T6 (mkF m 297 #[.val (.long y0), .second, .val (.int x0), .val (.long y2), .second, .val (.long y3), .second, .val (.long y4), .second, .val (.long y5), .second, .val (.long yw), .second, .val (.long ga), .second, .val (.long gb), .second, .val (.long t1), .second, .val (.long t2), .second, .val (.long t3), .second, .val (.long c1), .second, .val (.long c2), .second, .val (.long c3), .second, .val (.long yd), .second, .val (.ref b0), .val (.int z1), .val (.int z2), .val (.int z3), .val (.int ((z4 + z5) + z6)), .unset, .unset] [])
                    refine Dn.st (fun t q => XS.lload X6.here hx rfl (hb hby at_297) rfl  q) ?_
                    show Dn p e below s _ _ _ T6 (mkF m 299 #[.val (.long y0), .second, .val (.int x0), .val (.long y2), .second, .val (.long y3), .second, .val (.long y4), .second, .val (.long y5), .second, .val (.long yw), .second, .val (.long ga), .second, .val (.long gb), .second, .val (.long t1), .second, .val (.long t2), .second, .val (.long t3), .second, .val (.long c1), .second, .val (.long c2), .second, .val (.long c3), .second, .val (.long yd), .second, .val (.ref b0), .val (.int z1), .val (.int z2), .val (.int z3), .val (.int ((z4 + z5) + z6)), .unset, .unset] [(.long c1)])
                    refine Dn.st (fun t q => XS.goto X6.here hx rfl (pc0 := 299) (pc' := 303) rfl (hb hby at_299) (by decide) (by decide) q) ?_
                    show Dn p e below s _ _ _ T6 (mkF m 303 #[.val (.long y0), .second, .val (.int x0), .val (.long y2), .second, .val (.long y3), .second, .val (.long y4), .second, .val (.long y5), .second, .val (.long yw), .second, .val (.long ga), .second, .val (.long gb), .second, .val (.long t1), .second, .val (.long t2), .second, .val (.long t3), .second, .val (.long c1), .second, .val (.long c2), .second, .val (.long c3), .second, .val (.long yd), .second, .val (.ref b0), .val (.int z1), .val (.int z2), .val (.int z3), .val (.int ((z4 + z5) + z6)), .unset, .unset] [(.long c1)])
                    exact jp1 c1 (own_p1 hz1 hf)
                by_cases hf : z3 = (0 : Int32)
                · refine Dn.st (fun t q => XS.ifYes X6.here hx rfl (pc0 := 273) (pc' := 288) rfl (hb hby at_273) rfl ((if0 _ _).trans (teq hf).1) (by decide) (by decide) q) ?_
                  show Dn p e below s _ _ _ T6 (mkF m 288 #[.val (.long y0), .second, .val (.int x0), .val (.long y2), .second, .val (.long y3), .second, .val (.long y4), .second, .val (.long y5), .second, .val (.long yw), .second, .val (.long ga), .second, .val (.long gb), .second, .val (.long t1), .second, .val (.long t2), .second, .val (.long t3), .second, .val (.long c1), .second, .val (.long c2), .second, .val (.long c3), .second, .val (.long yd), .second, .val (.ref b0), .val (.int z1), .val (.int z2), .val (.int z3), .unset, .unset, .unset] [(.int (z4 + z5))])
                  refine Dn.st (fun t q => XS.iconst X6.here hx rfl (hb hby at_288) q) ?_
                  show Dn p e below s _ _ _ T6 (mkF m 289 #[.val (.long y0), .second, .val (.int x0), .val (.long y2), .second, .val (.long y3), .second, .val (.long y4), .second, .val (.long y5), .second, .val (.long yw), .second, .val (.long ga), .second, .val (.long gb), .second, .val (.long t1), .second, .val (.long t2), .second, .val (.long t3), .second, .val (.long c1), .second, .val (.long c2), .second, .val (.long c3), .second, .val (.long yd), .second, .val (.ref b0), .val (.int z1), .val (.int z2), .val (.int z3), .unset, .unset, .unset] [(.int (0 : Int32)), (.int (z4 + z5))])
                  exact jk3 (0 : Int32) (own_zn hz3 hf)
                · refine Dn.st (fun t q => XS.ifNo X6.here hx rfl (hb hby at_273) rfl ((if0 _ _).trans (feq hf).1) q) ?_
                  show Dn p e below s _ _ _ T6 (mkF m 276 #[.val (.long y0), .second, .val (.int x0), .val (.long y2), .second, .val (.long y3), .second, .val (.long y4), .second, .val (.long y5), .second, .val (.long yw), .second, .val (.long ga), .second, .val (.long gb), .second, .val (.long t1), .second, .val (.long t2), .second, .val (.long t3), .second, .val (.long c1), .second, .val (.long c2), .second, .val (.long c3), .second, .val (.long yd), .second, .val (.ref b0), .val (.int z1), .val (.int z2), .val (.int z3), .unset, .unset, .unset] [(.int (z4 + z5))])
                  refine Dn.st (fun t q => XS.lload X6.here hx rfl (hb hby at_276) rfl  q) ?_
                  show Dn p e below s _ _ _ T6 (mkF m 278 #[.val (.long y0), .second, .val (.int x0), .val (.long y2), .second, .val (.long y3), .second, .val (.long y4), .second, .val (.long y5), .second, .val (.long yw), .second, .val (.long ga), .second, .val (.long gb), .second, .val (.long t1), .second, .val (.long t2), .second, .val (.long t3), .second, .val (.long c1), .second, .val (.long c2), .second, .val (.long c3), .second, .val (.long yd), .second, .val (.ref b0), .val (.int z1), .val (.int z2), .val (.int z3), .unset, .unset, .unset] [(.long t3), (.int (z4 + z5))])
                  refine Dn.st (fun t q => XS.lload X6.here hx rfl (hb hby at_278) rfl  q) ?_
                  show Dn p e below s _ _ _ T6 (mkF m 280 #[.val (.long y0), .second, .val (.int x0), .val (.long y2), .second, .val (.long y3), .second, .val (.long y4), .second, .val (.long y5), .second, .val (.long yw), .second, .val (.long ga), .second, .val (.long gb), .second, .val (.long t1), .second, .val (.long t2), .second, .val (.long t3), .second, .val (.long c1), .second, .val (.long c2), .second, .val (.long c3), .second, .val (.long yd), .second, .val (.ref b0), .val (.int z1), .val (.int z2), .val (.int z3), .unset, .unset, .unset] [(.long t2), (.long t3), (.int (z4 + z5))])
                  refine Dn.st (fun t q => XS.lcmp X6.here hx rfl (hb hby at_280) rfl q) ?_
                  show Dn p e below s _ _ _ T6 (mkF m 281 #[.val (.long y0), .second, .val (.int x0), .val (.long y2), .second, .val (.long y3), .second, .val (.long y4), .second, .val (.long y5), .second, .val (.long yw), .second, .val (.long ga), .second, .val (.long gb), .second, .val (.long t1), .second, .val (.long t2), .second, .val (.long t3), .second, .val (.long c1), .second, .val (.long c2), .second, .val (.long c3), .second, .val (.long yd), .second, .val (.ref b0), .val (.int z1), .val (.int z2), .val (.int z3), .unset, .unset, .unset] [(.int (lcmpW t3 t2)), (.int (z4 + z5))])
                  by_cases hg : t3 = t2
                  · refine Dn.st (fun t q => XS.ifYes X6.here hx rfl (pc0 := 281) (pc' := 288) rfl (hb hby at_281) rfl ((if0 _ _).trans (teq ((lw_eq _ _).mpr hg)).1) (by decide) (by decide) q) ?_
                    show Dn p e below s _ _ _ T6 (mkF m 288 #[.val (.long y0), .second, .val (.int x0), .val (.long y2), .second, .val (.long y3), .second, .val (.long y4), .second, .val (.long y5), .second, .val (.long yw), .second, .val (.long ga), .second, .val (.long gb), .second, .val (.long t1), .second, .val (.long t2), .second, .val (.long t3), .second, .val (.long c1), .second, .val (.long c2), .second, .val (.long c3), .second, .val (.long yd), .second, .val (.ref b0), .val (.int z1), .val (.int z2), .val (.int z3), .unset, .unset, .unset] [(.int (z4 + z5))])
                    refine Dn.st (fun t q => XS.iconst X6.here hx rfl (hb hby at_288) q) ?_
                    show Dn p e below s _ _ _ T6 (mkF m 289 #[.val (.long y0), .second, .val (.int x0), .val (.long y2), .second, .val (.long y3), .second, .val (.long y4), .second, .val (.long y5), .second, .val (.long yw), .second, .val (.long ga), .second, .val (.long gb), .second, .val (.long t1), .second, .val (.long t2), .second, .val (.long t3), .second, .val (.long c1), .second, .val (.long c2), .second, .val (.long c3), .second, .val (.long yd), .second, .val (.ref b0), .val (.int z1), .val (.int z2), .val (.int z3), .unset, .unset, .unset] [(.int (0 : Int32)), (.int (z4 + z5))])
                    exact jk3 (0 : Int32) (own_ze hg)
                  · refine Dn.st (fun t q => XS.ifNo X6.here hx rfl (hb hby at_281) rfl ((if0 _ _).trans (feq (mt (lw_eq _ _).mp hg)).1) q) ?_
                    show Dn p e below s _ _ _ T6 (mkF m 284 #[.val (.long y0), .second, .val (.int x0), .val (.long y2), .second, .val (.long y3), .second, .val (.long y4), .second, .val (.long y5), .second, .val (.long yw), .second, .val (.long ga), .second, .val (.long gb), .second, .val (.long t1), .second, .val (.long t2), .second, .val (.long t3), .second, .val (.long c1), .second, .val (.long c2), .second, .val (.long c3), .second, .val (.long yd), .second, .val (.ref b0), .val (.int z1), .val (.int z2), .val (.int z3), .unset, .unset, .unset] [(.int (z4 + z5))])
                    refine Dn.st (fun t q => XS.iconst X6.here hx rfl (hb hby at_284) q) ?_
                    show Dn p e below s _ _ _ T6 (mkF m 285 #[.val (.long y0), .second, .val (.int x0), .val (.long y2), .second, .val (.long y3), .second, .val (.long y4), .second, .val (.long y5), .second, .val (.long yw), .second, .val (.long ga), .second, .val (.long gb), .second, .val (.long t1), .second, .val (.long t2), .second, .val (.long t3), .second, .val (.long c1), .second, .val (.long c2), .second, .val (.long c3), .second, .val (.long yd), .second, .val (.ref b0), .val (.int z1), .val (.int z2), .val (.int z3), .unset, .unset, .unset] [(.int (1 : Int32)), (.int (z4 + z5))])
                    refine Dn.st (fun t q => XS.goto X6.here hx rfl (pc0 := 285) (pc' := 289) rfl (hb hby at_285) (by decide) (by decide) q) ?_
                    show Dn p e below s _ _ _ T6 (mkF m 289 #[.val (.long y0), .second, .val (.int x0), .val (.long y2), .second, .val (.long y3), .second, .val (.long y4), .second, .val (.long y5), .second, .val (.long yw), .second, .val (.long ga), .second, .val (.long gb), .second, .val (.long t1), .second, .val (.long t2), .second, .val (.long t3), .second, .val (.long c1), .second, .val (.long c2), .second, .val (.long c3), .second, .val (.long yd), .second, .val (.ref b0), .val (.int z1), .val (.int z2), .val (.int z3), .unset, .unset, .unset] [(.int (1 : Int32)), (.int (z4 + z5))])
                    exact jk3 (1 : Int32) (own_zy hz3 hf hg)
              by_cases hf : z2 = (0 : Int32)
              · refine Dn.st (fun t q => XS.ifYes X6.here hx rfl (pc0 := 254) (pc' := 269) rfl (hb hby at_254) rfl ((if0 _ _).trans (teq hf).1) (by decide) (by decide) q) ?_
                show Dn p e below s _ _ _ T6 (mkF m 269 #[.val (.long y0), .second, .val (.int x0), .val (.long y2), .second, .val (.long y3), .second, .val (.long y4), .second, .val (.long y5), .second, .val (.long yw), .second, .val (.long ga), .second, .val (.long gb), .second, .val (.long t1), .second, .val (.long t2), .second, .val (.long t3), .second, .val (.long c1), .second, .val (.long c2), .second, .val (.long c3), .second, .val (.long yd), .second, .val (.ref b0), .val (.int z1), .val (.int z2), .val (.int z3), .unset, .unset, .unset] [(.int z4)])
                refine Dn.st (fun t q => XS.iconst X6.here hx rfl (hb hby at_269) q) ?_
                show Dn p e below s _ _ _ T6 (mkF m 270 #[.val (.long y0), .second, .val (.int x0), .val (.long y2), .second, .val (.long y3), .second, .val (.long y4), .second, .val (.long y5), .second, .val (.long yw), .second, .val (.long ga), .second, .val (.long gb), .second, .val (.long t1), .second, .val (.long t2), .second, .val (.long t3), .second, .val (.long c1), .second, .val (.long c2), .second, .val (.long c3), .second, .val (.long yd), .second, .val (.ref b0), .val (.int z1), .val (.int z2), .val (.int z3), .unset, .unset, .unset] [(.int (0 : Int32)), (.int z4)])
                exact jk2 (0 : Int32) (own_zn hz2 hf)
              · refine Dn.st (fun t q => XS.ifNo X6.here hx rfl (hb hby at_254) rfl ((if0 _ _).trans (feq hf).1) q) ?_
                show Dn p e below s _ _ _ T6 (mkF m 257 #[.val (.long y0), .second, .val (.int x0), .val (.long y2), .second, .val (.long y3), .second, .val (.long y4), .second, .val (.long y5), .second, .val (.long yw), .second, .val (.long ga), .second, .val (.long gb), .second, .val (.long t1), .second, .val (.long t2), .second, .val (.long t3), .second, .val (.long c1), .second, .val (.long c2), .second, .val (.long c3), .second, .val (.long yd), .second, .val (.ref b0), .val (.int z1), .val (.int z2), .val (.int z3), .unset, .unset, .unset] [(.int z4)])
                refine Dn.st (fun t q => XS.lload X6.here hx rfl (hb hby at_257) rfl  q) ?_
                show Dn p e below s _ _ _ T6 (mkF m 259 #[.val (.long y0), .second, .val (.int x0), .val (.long y2), .second, .val (.long y3), .second, .val (.long y4), .second, .val (.long y5), .second, .val (.long yw), .second, .val (.long ga), .second, .val (.long gb), .second, .val (.long t1), .second, .val (.long t2), .second, .val (.long t3), .second, .val (.long c1), .second, .val (.long c2), .second, .val (.long c3), .second, .val (.long yd), .second, .val (.ref b0), .val (.int z1), .val (.int z2), .val (.int z3), .unset, .unset, .unset] [(.long t2), (.int z4)])
                refine Dn.st (fun t q => XS.lload X6.here hx rfl (hb hby at_259) rfl  q) ?_
                show Dn p e below s _ _ _ T6 (mkF m 261 #[.val (.long y0), .second, .val (.int x0), .val (.long y2), .second, .val (.long y3), .second, .val (.long y4), .second, .val (.long y5), .second, .val (.long yw), .second, .val (.long ga), .second, .val (.long gb), .second, .val (.long t1), .second, .val (.long t2), .second, .val (.long t3), .second, .val (.long c1), .second, .val (.long c2), .second, .val (.long c3), .second, .val (.long yd), .second, .val (.ref b0), .val (.int z1), .val (.int z2), .val (.int z3), .unset, .unset, .unset] [(.long t1), (.long t2), (.int z4)])
                refine Dn.st (fun t q => XS.lcmp X6.here hx rfl (hb hby at_261) rfl q) ?_
                show Dn p e below s _ _ _ T6 (mkF m 262 #[.val (.long y0), .second, .val (.int x0), .val (.long y2), .second, .val (.long y3), .second, .val (.long y4), .second, .val (.long y5), .second, .val (.long yw), .second, .val (.long ga), .second, .val (.long gb), .second, .val (.long t1), .second, .val (.long t2), .second, .val (.long t3), .second, .val (.long c1), .second, .val (.long c2), .second, .val (.long c3), .second, .val (.long yd), .second, .val (.ref b0), .val (.int z1), .val (.int z2), .val (.int z3), .unset, .unset, .unset] [(.int (lcmpW t2 t1)), (.int z4)])
                by_cases hg : t2 = t1
                · refine Dn.st (fun t q => XS.ifYes X6.here hx rfl (pc0 := 262) (pc' := 269) rfl (hb hby at_262) rfl ((if0 _ _).trans (teq ((lw_eq _ _).mpr hg)).1) (by decide) (by decide) q) ?_
                  show Dn p e below s _ _ _ T6 (mkF m 269 #[.val (.long y0), .second, .val (.int x0), .val (.long y2), .second, .val (.long y3), .second, .val (.long y4), .second, .val (.long y5), .second, .val (.long yw), .second, .val (.long ga), .second, .val (.long gb), .second, .val (.long t1), .second, .val (.long t2), .second, .val (.long t3), .second, .val (.long c1), .second, .val (.long c2), .second, .val (.long c3), .second, .val (.long yd), .second, .val (.ref b0), .val (.int z1), .val (.int z2), .val (.int z3), .unset, .unset, .unset] [(.int z4)])
                  refine Dn.st (fun t q => XS.iconst X6.here hx rfl (hb hby at_269) q) ?_
                  show Dn p e below s _ _ _ T6 (mkF m 270 #[.val (.long y0), .second, .val (.int x0), .val (.long y2), .second, .val (.long y3), .second, .val (.long y4), .second, .val (.long y5), .second, .val (.long yw), .second, .val (.long ga), .second, .val (.long gb), .second, .val (.long t1), .second, .val (.long t2), .second, .val (.long t3), .second, .val (.long c1), .second, .val (.long c2), .second, .val (.long c3), .second, .val (.long yd), .second, .val (.ref b0), .val (.int z1), .val (.int z2), .val (.int z3), .unset, .unset, .unset] [(.int (0 : Int32)), (.int z4)])
                  exact jk2 (0 : Int32) (own_ze hg)
                · refine Dn.st (fun t q => XS.ifNo X6.here hx rfl (hb hby at_262) rfl ((if0 _ _).trans (feq (mt (lw_eq _ _).mp hg)).1) q) ?_
                  show Dn p e below s _ _ _ T6 (mkF m 265 #[.val (.long y0), .second, .val (.int x0), .val (.long y2), .second, .val (.long y3), .second, .val (.long y4), .second, .val (.long y5), .second, .val (.long yw), .second, .val (.long ga), .second, .val (.long gb), .second, .val (.long t1), .second, .val (.long t2), .second, .val (.long t3), .second, .val (.long c1), .second, .val (.long c2), .second, .val (.long c3), .second, .val (.long yd), .second, .val (.ref b0), .val (.int z1), .val (.int z2), .val (.int z3), .unset, .unset, .unset] [(.int z4)])
                  refine Dn.st (fun t q => XS.iconst X6.here hx rfl (hb hby at_265) q) ?_
                  show Dn p e below s _ _ _ T6 (mkF m 266 #[.val (.long y0), .second, .val (.int x0), .val (.long y2), .second, .val (.long y3), .second, .val (.long y4), .second, .val (.long y5), .second, .val (.long yw), .second, .val (.long ga), .second, .val (.long gb), .second, .val (.long t1), .second, .val (.long t2), .second, .val (.long t3), .second, .val (.long c1), .second, .val (.long c2), .second, .val (.long c3), .second, .val (.long yd), .second, .val (.ref b0), .val (.int z1), .val (.int z2), .val (.int z3), .unset, .unset, .unset] [(.int (1 : Int32)), (.int z4)])
                  refine Dn.st (fun t q => XS.goto X6.here hx rfl (pc0 := 266) (pc' := 270) rfl (hb hby at_266) (by decide) (by decide) q) ?_
                  show Dn p e below s _ _ _ T6 (mkF m 270 #[.val (.long y0), .second, .val (.int x0), .val (.long y2), .second, .val (.long y3), .second, .val (.long y4), .second, .val (.long y5), .second, .val (.long yw), .second, .val (.long ga), .second, .val (.long gb), .second, .val (.long t1), .second, .val (.long t2), .second, .val (.long t3), .second, .val (.long c1), .second, .val (.long c2), .second, .val (.long c3), .second, .val (.long yd), .second, .val (.ref b0), .val (.int z1), .val (.int z2), .val (.int z3), .unset, .unset, .unset] [(.int (1 : Int32)), (.int z4)])
                  exact jk2 (1 : Int32) (own_zy hz2 hf hg)
            by_cases hf : z1 = (0 : Int32)
            · refine Dn.st (fun t q => XS.ifYes X6.here hx rfl (pc0 := 244) (pc' := 251) rfl (hb hby at_244) rfl ((if0 _ _).trans (teq hf).1) (by decide) (by decide) q) ?_
              show Dn p e below s _ _ _ T6 (mkF m 251 #[.val (.long y0), .second, .val (.int x0), .val (.long y2), .second, .val (.long y3), .second, .val (.long y4), .second, .val (.long y5), .second, .val (.long yw), .second, .val (.long ga), .second, .val (.long gb), .second, .val (.long t1), .second, .val (.long t2), .second, .val (.long t3), .second, .val (.long c1), .second, .val (.long c2), .second, .val (.long c3), .second, .val (.long yd), .second, .val (.ref b0), .val (.int z1), .val (.int z2), .val (.int z3), .unset, .unset, .unset] [])
              refine Dn.st (fun t q => XS.iconst X6.here hx rfl (hb hby at_251) q) ?_
              show Dn p e below s _ _ _ T6 (mkF m 252 #[.val (.long y0), .second, .val (.int x0), .val (.long y2), .second, .val (.long y3), .second, .val (.long y4), .second, .val (.long y5), .second, .val (.long yw), .second, .val (.long ga), .second, .val (.long gb), .second, .val (.long t1), .second, .val (.long t2), .second, .val (.long t3), .second, .val (.long c1), .second, .val (.long c2), .second, .val (.long c3), .second, .val (.long yd), .second, .val (.ref b0), .val (.int z1), .val (.int z2), .val (.int z3), .unset, .unset, .unset] [(.int (0 : Int32))])
              exact jk1 (0 : Int32) (own_z0 hz1 hf)
            · refine Dn.st (fun t q => XS.ifNo X6.here hx rfl (hb hby at_244) rfl ((if0 _ _).trans (feq hf).1) q) ?_
              show Dn p e below s _ _ _ T6 (mkF m 247 #[.val (.long y0), .second, .val (.int x0), .val (.long y2), .second, .val (.long y3), .second, .val (.long y4), .second, .val (.long y5), .second, .val (.long yw), .second, .val (.long ga), .second, .val (.long gb), .second, .val (.long t1), .second, .val (.long t2), .second, .val (.long t3), .second, .val (.long c1), .second, .val (.long c2), .second, .val (.long c3), .second, .val (.long yd), .second, .val (.ref b0), .val (.int z1), .val (.int z2), .val (.int z3), .unset, .unset, .unset] [])
              refine Dn.st (fun t q => XS.iconst X6.here hx rfl (hb hby at_247) q) ?_
              show Dn p e below s _ _ _ T6 (mkF m 248 #[.val (.long y0), .second, .val (.int x0), .val (.long y2), .second, .val (.long y3), .second, .val (.long y4), .second, .val (.long y5), .second, .val (.long yw), .second, .val (.long ga), .second, .val (.long gb), .second, .val (.long t1), .second, .val (.long t2), .second, .val (.long t3), .second, .val (.long c1), .second, .val (.long c2), .second, .val (.long c3), .second, .val (.long yd), .second, .val (.ref b0), .val (.int z1), .val (.int z2), .val (.int z3), .unset, .unset, .unset] [(.int (1 : Int32))])
              refine Dn.st (fun t q => XS.goto X6.here hx rfl (pc0 := 248) (pc' := 252) rfl (hb hby at_248) (by decide) (by decide) q) ?_
              show Dn p e below s _ _ _ T6 (mkF m 252 #[.val (.long y0), .second, .val (.int x0), .val (.long y2), .second, .val (.long y3), .second, .val (.long y4), .second, .val (.long y5), .second, .val (.long yw), .second, .val (.long ga), .second, .val (.long gb), .second, .val (.long t1), .second, .val (.long t2), .second, .val (.long t3), .second, .val (.long c1), .second, .val (.long c2), .second, .val (.long c3), .second, .val (.long yd), .second, .val (.ref b0), .val (.int z1), .val (.int z2), .val (.int z3), .unset, .unset, .unset] [(.int (1 : Int32))])
              exact jk1 (1 : Int32) (own_z1 hz1 hf)
          by_cases hf : (yd - t3) < yw
          · refine Dn.st (fun t q => XS.ifNo X6.here hx rfl (hb hby at_232) rfl ((if0 _ _).trans (tlt ((lw_lt _ _).mpr hf)).2.1) q) ?_
            show Dn p e below s _ _ _ T6 (mkF m 235 #[.val (.long y0), .second, .val (.int x0), .val (.long y2), .second, .val (.long y3), .second, .val (.long y4), .second, .val (.long y5), .second, .val (.long yw), .second, .val (.long ga), .second, .val (.long gb), .second, .val (.long t1), .second, .val (.long t2), .second, .val (.long t3), .second, .val (.long c1), .second, .val (.long c2), .second, .val (.long c3), .second, .val (.long yd), .second, .val (.ref b0), .val (.int z1), .val (.int z2), .unset, .unset, .unset, .unset] [])
            refine Dn.st (fun t q => XS.iconst X6.here hx rfl (hb hby at_235) q) ?_
            show Dn p e below s _ _ _ T6 (mkF m 236 #[.val (.long y0), .second, .val (.int x0), .val (.long y2), .second, .val (.long y3), .second, .val (.long y4), .second, .val (.long y5), .second, .val (.long yw), .second, .val (.long ga), .second, .val (.long gb), .second, .val (.long t1), .second, .val (.long t2), .second, .val (.long t3), .second, .val (.long c1), .second, .val (.long c2), .second, .val (.long c3), .second, .val (.long yd), .second, .val (.ref b0), .val (.int z1), .val (.int z2), .unset, .unset, .unset, .unset] [(.int (1 : Int32))])
            refine Dn.st (fun t q => XS.goto X6.here hx rfl (pc0 := 236) (pc' := 240) rfl (hb hby at_236) (by decide) (by decide) q) ?_
            show Dn p e below s _ _ _ T6 (mkF m 240 #[.val (.long y0), .second, .val (.int x0), .val (.long y2), .second, .val (.long y3), .second, .val (.long y4), .second, .val (.long y5), .second, .val (.long yw), .second, .val (.long ga), .second, .val (.long gb), .second, .val (.long t1), .second, .val (.long t2), .second, .val (.long t3), .second, .val (.long c1), .second, .val (.long c2), .second, .val (.long c3), .second, .val (.long yd), .second, .val (.ref b0), .val (.int z1), .val (.int z2), .unset, .unset, .unset, .unset] [(.int (1 : Int32))])
            exact js3 (1 : Int32) (if_pos hf).symm
          · refine Dn.st (fun t q => XS.ifYes X6.here hx rfl (pc0 := 232) (pc' := 239) rfl (hb hby at_232) rfl ((if0 _ _).trans (flt (mt (lw_lt _ _).mp hf)).2.1) (by decide) (by decide) q) ?_
            show Dn p e below s _ _ _ T6 (mkF m 239 #[.val (.long y0), .second, .val (.int x0), .val (.long y2), .second, .val (.long y3), .second, .val (.long y4), .second, .val (.long y5), .second, .val (.long yw), .second, .val (.long ga), .second, .val (.long gb), .second, .val (.long t1), .second, .val (.long t2), .second, .val (.long t3), .second, .val (.long c1), .second, .val (.long c2), .second, .val (.long c3), .second, .val (.long yd), .second, .val (.ref b0), .val (.int z1), .val (.int z2), .unset, .unset, .unset, .unset] [])
            refine Dn.st (fun t q => XS.iconst X6.here hx rfl (hb hby at_239) q) ?_
            show Dn p e below s _ _ _ T6 (mkF m 240 #[.val (.long y0), .second, .val (.int x0), .val (.long y2), .second, .val (.long y3), .second, .val (.long y4), .second, .val (.long y5), .second, .val (.long yw), .second, .val (.long ga), .second, .val (.long gb), .second, .val (.long t1), .second, .val (.long t2), .second, .val (.long t3), .second, .val (.long c1), .second, .val (.long c2), .second, .val (.long c3), .second, .val (.long yd), .second, .val (.ref b0), .val (.int z1), .val (.int z2), .unset, .unset, .unset, .unset] [(.int (0 : Int32))])
            exact js3 (0 : Int32) (if_neg hf).symm
        by_cases hf : (yd - t2) < yw
        · refine Dn.st (fun t q => XS.ifNo X6.here hx rfl (hb hby at_214) rfl ((if0 _ _).trans (tlt ((lw_lt _ _).mpr hf)).2.1) q) ?_
          show Dn p e below s _ _ _ T6 (mkF m 217 #[.val (.long y0), .second, .val (.int x0), .val (.long y2), .second, .val (.long y3), .second, .val (.long y4), .second, .val (.long y5), .second, .val (.long yw), .second, .val (.long ga), .second, .val (.long gb), .second, .val (.long t1), .second, .val (.long t2), .second, .val (.long t3), .second, .val (.long c1), .second, .val (.long c2), .second, .val (.long c3), .second, .val (.long yd), .second, .val (.ref b0), .val (.int z1), .unset, .unset, .unset, .unset, .unset] [])
          refine Dn.st (fun t q => XS.iconst X6.here hx rfl (hb hby at_217) q) ?_
          show Dn p e below s _ _ _ T6 (mkF m 218 #[.val (.long y0), .second, .val (.int x0), .val (.long y2), .second, .val (.long y3), .second, .val (.long y4), .second, .val (.long y5), .second, .val (.long yw), .second, .val (.long ga), .second, .val (.long gb), .second, .val (.long t1), .second, .val (.long t2), .second, .val (.long t3), .second, .val (.long c1), .second, .val (.long c2), .second, .val (.long c3), .second, .val (.long yd), .second, .val (.ref b0), .val (.int z1), .unset, .unset, .unset, .unset, .unset] [(.int (1 : Int32))])
          refine Dn.st (fun t q => XS.goto X6.here hx rfl (pc0 := 218) (pc' := 222) rfl (hb hby at_218) (by decide) (by decide) q) ?_
          show Dn p e below s _ _ _ T6 (mkF m 222 #[.val (.long y0), .second, .val (.int x0), .val (.long y2), .second, .val (.long y3), .second, .val (.long y4), .second, .val (.long y5), .second, .val (.long yw), .second, .val (.long ga), .second, .val (.long gb), .second, .val (.long t1), .second, .val (.long t2), .second, .val (.long t3), .second, .val (.long c1), .second, .val (.long c2), .second, .val (.long c3), .second, .val (.long yd), .second, .val (.ref b0), .val (.int z1), .unset, .unset, .unset, .unset, .unset] [(.int (1 : Int32))])
          exact js2 (1 : Int32) (if_pos hf).symm
        · refine Dn.st (fun t q => XS.ifYes X6.here hx rfl (pc0 := 214) (pc' := 221) rfl (hb hby at_214) rfl ((if0 _ _).trans (flt (mt (lw_lt _ _).mp hf)).2.1) (by decide) (by decide) q) ?_
          show Dn p e below s _ _ _ T6 (mkF m 221 #[.val (.long y0), .second, .val (.int x0), .val (.long y2), .second, .val (.long y3), .second, .val (.long y4), .second, .val (.long y5), .second, .val (.long yw), .second, .val (.long ga), .second, .val (.long gb), .second, .val (.long t1), .second, .val (.long t2), .second, .val (.long t3), .second, .val (.long c1), .second, .val (.long c2), .second, .val (.long c3), .second, .val (.long yd), .second, .val (.ref b0), .val (.int z1), .unset, .unset, .unset, .unset, .unset] [])
          refine Dn.st (fun t q => XS.iconst X6.here hx rfl (hb hby at_221) q) ?_
          show Dn p e below s _ _ _ T6 (mkF m 222 #[.val (.long y0), .second, .val (.int x0), .val (.long y2), .second, .val (.long y3), .second, .val (.long y4), .second, .val (.long y5), .second, .val (.long yw), .second, .val (.long ga), .second, .val (.long gb), .second, .val (.long t1), .second, .val (.long t2), .second, .val (.long t3), .second, .val (.long c1), .second, .val (.long c2), .second, .val (.long c3), .second, .val (.long yd), .second, .val (.ref b0), .val (.int z1), .unset, .unset, .unset, .unset, .unset] [(.int (0 : Int32))])
          exact js2 (0 : Int32) (if_neg hf).symm
      by_cases hf : (yd - t1) < yw
      · refine Dn.st (fun t q => XS.ifNo X6.here hx rfl (hb hby at_196) rfl ((if0 _ _).trans (tlt ((lw_lt _ _).mpr hf)).2.1) q) ?_
        show Dn p e below s _ _ _ T6 (mkF m 199 #[.val (.long y0), .second, .val (.int x0), .val (.long y2), .second, .val (.long y3), .second, .val (.long y4), .second, .val (.long y5), .second, .val (.long yw), .second, .val (.long ga), .second, .val (.long gb), .second, .val (.long t1), .second, .val (.long t2), .second, .val (.long t3), .second, .val (.long c1), .second, .val (.long c2), .second, .val (.long c3), .second, .val (.long yd), .second, .val (.ref b0), .unset, .unset, .unset, .unset, .unset, .unset] [])
        refine Dn.st (fun t q => XS.iconst X6.here hx rfl (hb hby at_199) q) ?_
        show Dn p e below s _ _ _ T6 (mkF m 200 #[.val (.long y0), .second, .val (.int x0), .val (.long y2), .second, .val (.long y3), .second, .val (.long y4), .second, .val (.long y5), .second, .val (.long yw), .second, .val (.long ga), .second, .val (.long gb), .second, .val (.long t1), .second, .val (.long t2), .second, .val (.long t3), .second, .val (.long c1), .second, .val (.long c2), .second, .val (.long c3), .second, .val (.long yd), .second, .val (.ref b0), .unset, .unset, .unset, .unset, .unset, .unset] [(.int (1 : Int32))])
        refine Dn.st (fun t q => XS.goto X6.here hx rfl (pc0 := 200) (pc' := 204) rfl (hb hby at_200) (by decide) (by decide) q) ?_
        show Dn p e below s _ _ _ T6 (mkF m 204 #[.val (.long y0), .second, .val (.int x0), .val (.long y2), .second, .val (.long y3), .second, .val (.long y4), .second, .val (.long y5), .second, .val (.long yw), .second, .val (.long ga), .second, .val (.long gb), .second, .val (.long t1), .second, .val (.long t2), .second, .val (.long t3), .second, .val (.long c1), .second, .val (.long c2), .second, .val (.long c3), .second, .val (.long yd), .second, .val (.ref b0), .unset, .unset, .unset, .unset, .unset, .unset] [(.int (1 : Int32))])
        exact js1 (1 : Int32) (if_pos hf).symm
      · refine Dn.st (fun t q => XS.ifYes X6.here hx rfl (pc0 := 196) (pc' := 203) rfl (hb hby at_196) rfl ((if0 _ _).trans (flt (mt (lw_lt _ _).mp hf)).2.1) (by decide) (by decide) q) ?_
        show Dn p e below s _ _ _ T6 (mkF m 203 #[.val (.long y0), .second, .val (.int x0), .val (.long y2), .second, .val (.long y3), .second, .val (.long y4), .second, .val (.long y5), .second, .val (.long yw), .second, .val (.long ga), .second, .val (.long gb), .second, .val (.long t1), .second, .val (.long t2), .second, .val (.long t3), .second, .val (.long c1), .second, .val (.long c2), .second, .val (.long c3), .second, .val (.long yd), .second, .val (.ref b0), .unset, .unset, .unset, .unset, .unset, .unset] [])
        refine Dn.st (fun t q => XS.iconst X6.here hx rfl (hb hby at_203) q) ?_
        show Dn p e below s _ _ _ T6 (mkF m 204 #[.val (.long y0), .second, .val (.int x0), .val (.long y2), .second, .val (.long y3), .second, .val (.long y4), .second, .val (.long y5), .second, .val (.long yw), .second, .val (.long ga), .second, .val (.long gb), .second, .val (.long t1), .second, .val (.long t2), .second, .val (.long t3), .second, .val (.long c1), .second, .val (.long c2), .second, .val (.long c3), .second, .val (.long yd), .second, .val (.ref b0), .unset, .unset, .unset, .unset, .unset, .unset] [(.int (0 : Int32))])
        exact js1 (0 : Int32) (if_neg hf).symm
    by_cases hcd : (y2 &&& (32 : Int64)) = (0 : Int64)
    · refine Dn.st (fun t q => XS.ifYes X0.here hx rfl (pc0 := 116) (pc' := 129) rfl (hb hby at_116) rfl ((if0 _ _).trans (teq ((lw_eq _ _).mpr hcd)).1) (by decide) (by decide) q) ?_
      show Dn p e below s _ _ _ s₁ (mkF m 129 #[.val (.long y0), .second, .val (.int x0), .val (.long y2), .second, .val (.long y3), .second, .val (.long y4), .second, .val (.long y5), .second, .val (.long yw), .second, .val (.long ga), .second, .val (.long gb), .second, .val (.long t1), .second, .val (.long t2), .second, .val (.long t3), .second, .val (.long c1), .second, .val (.long c2), .second, .val (.long c3), .second, .unset, .unset, .unset, .unset, .unset, .unset, .unset, .unset, .unset] [])
      refine Dn.st (fun t q => XS.lload X0.here hx rfl (hb hby at_129) rfl  q) ?_
      show Dn p e below s _ _ _ s₁ (mkF m 131 #[.val (.long y0), .second, .val (.int x0), .val (.long y2), .second, .val (.long y3), .second, .val (.long y4), .second, .val (.long y5), .second, .val (.long yw), .second, .val (.long ga), .second, .val (.long gb), .second, .val (.long t1), .second, .val (.long t2), .second, .val (.long t3), .second, .val (.long c1), .second, .val (.long c2), .second, .val (.long c3), .second, .unset, .unset, .unset, .unset, .unset, .unset, .unset, .unset, .unset] [(.long t3)])
      refine Dn.st (fun t q => XS.lloadN X0.here hx rfl (hb hby at_131) rfl  q) ?_
      show Dn p e below s _ _ _ s₁ (mkF m 132 #[.val (.long y0), .second, .val (.int x0), .val (.long y2), .second, .val (.long y3), .second, .val (.long y4), .second, .val (.long y5), .second, .val (.long yw), .second, .val (.long ga), .second, .val (.long gb), .second, .val (.long t1), .second, .val (.long t2), .second, .val (.long t3), .second, .val (.long c1), .second, .val (.long c2), .second, .val (.long c3), .second, .unset, .unset, .unset, .unset, .unset, .unset, .unset, .unset, .unset] [(.long y2), (.long t3)])
      refine Dn.st (X0.ldc2Long hx hown (mvT hZ (hw _ (List.mem_of_getElem? (i := 3) rfl))) (g := (mkF m 132 #[.val (.long y0), .second, .val (.int x0), .val (.long y2), .second, .val (.long y3), .second, .val (.long y4), .second, .val (.long y5), .second, .val (.long yw), .second, .val (.long ga), .second, .val (.long gb), .second, .val (.long t1), .second, .val (.long t2), .second, .val (.long t3), .second, .val (.long c1), .second, .val (.long c2), .second, .val (.long c3), .second, .unset, .unset, .unset, .unset, .unset, .unset, .unset, .unset, .unset] [(.long y2), (.long t3)])) rfl (hb hby at_132)) ?_
      show Dn p e below s _ _ _ s₁ (mkF m 135 #[.val (.long y0), .second, .val (.int x0), .val (.long y2), .second, .val (.long y3), .second, .val (.long y4), .second, .val (.long y5), .second, .val (.long yw), .second, .val (.long ga), .second, .val (.long gb), .second, .val (.long t1), .second, .val (.long t2), .second, .val (.long t3), .second, .val (.long c1), .second, .val (.long c2), .second, .val (.long c3), .second, .unset, .unset, .unset, .unset, .unset, .unset, .unset, .unset, .unset] [(.long (31 : Int64)), (.long y2), (.long t3)])
      refine Dn.st (fun t q => XS.land X0.here hx rfl (hb hby at_135) rfl q) ?_
      show Dn p e below s _ _ _ s₁ (mkF m 136 #[.val (.long y0), .second, .val (.int x0), .val (.long y2), .second, .val (.long y3), .second, .val (.long y4), .second, .val (.long y5), .second, .val (.long yw), .second, .val (.long ga), .second, .val (.long gb), .second, .val (.long t1), .second, .val (.long t2), .second, .val (.long t3), .second, .val (.long c1), .second, .val (.long c2), .second, .val (.long c3), .second, .unset, .unset, .unset, .unset, .unset, .unset, .unset, .unset, .unset] [(.long (y2 &&& (31 : Int64))), (.long t3)])
      refine Dn.st (fun t q => XS.ladd X0.here hx rfl (hb hby at_136) rfl q) ?_
      show Dn p e below s _ _ _ s₁ (mkF m 137 #[.val (.long y0), .second, .val (.int x0), .val (.long y2), .second, .val (.long y3), .second, .val (.long y4), .second, .val (.long y5), .second, .val (.long yw), .second, .val (.long ga), .second, .val (.long gb), .second, .val (.long t1), .second, .val (.long t2), .second, .val (.long t3), .second, .val (.long c1), .second, .val (.long c2), .second, .val (.long c3), .second, .unset, .unset, .unset, .unset, .unset, .unset, .unset, .unset, .unset] [(.long (t3 + (y2 &&& (31 : Int64))))])
      exact jd (t3 + (y2 &&& (31 : Int64))) (own_d1 _ ⟨by omega, by omega⟩ rfl)
    · refine Dn.st (fun t q => XS.ifNo X0.here hx rfl (hb hby at_116) rfl ((if0 _ _).trans (feq (mt (lw_eq _ _).mp hcd)).1) q) ?_
      show Dn p e below s _ _ _ s₁ (mkF m 119 #[.val (.long y0), .second, .val (.int x0), .val (.long y2), .second, .val (.long y3), .second, .val (.long y4), .second, .val (.long y5), .second, .val (.long yw), .second, .val (.long ga), .second, .val (.long gb), .second, .val (.long t1), .second, .val (.long t2), .second, .val (.long t3), .second, .val (.long c1), .second, .val (.long c2), .second, .val (.long c3), .second, .unset, .unset, .unset, .unset, .unset, .unset, .unset, .unset, .unset] [])
      refine Dn.st (fun t q => XS.lload X0.here hx rfl (hb hby at_119) rfl  q) ?_
      show Dn p e below s _ _ _ s₁ (mkF m 121 #[.val (.long y0), .second, .val (.int x0), .val (.long y2), .second, .val (.long y3), .second, .val (.long y4), .second, .val (.long y5), .second, .val (.long yw), .second, .val (.long ga), .second, .val (.long gb), .second, .val (.long t1), .second, .val (.long t2), .second, .val (.long t3), .second, .val (.long c1), .second, .val (.long c2), .second, .val (.long c3), .second, .unset, .unset, .unset, .unset, .unset, .unset, .unset, .unset, .unset] [(.long t3)])
      refine Dn.st (fun t q => XS.lloadN X0.here hx rfl (hb hby at_121) rfl  q) ?_
      show Dn p e below s _ _ _ s₁ (mkF m 122 #[.val (.long y0), .second, .val (.int x0), .val (.long y2), .second, .val (.long y3), .second, .val (.long y4), .second, .val (.long y5), .second, .val (.long yw), .second, .val (.long ga), .second, .val (.long gb), .second, .val (.long t1), .second, .val (.long t2), .second, .val (.long t3), .second, .val (.long c1), .second, .val (.long c2), .second, .val (.long c3), .second, .unset, .unset, .unset, .unset, .unset, .unset, .unset, .unset, .unset] [(.long y2), (.long t3)])
      refine Dn.st (fun t q => XS.bipush X0.here hx rfl (hb hby at_122) q) ?_
      show Dn p e below s _ _ _ s₁ (mkF m 124 #[.val (.long y0), .second, .val (.int x0), .val (.long y2), .second, .val (.long y3), .second, .val (.long y4), .second, .val (.long y5), .second, .val (.long yw), .second, .val (.long ga), .second, .val (.long gb), .second, .val (.long t1), .second, .val (.long t2), .second, .val (.long t3), .second, .val (.long c1), .second, .val (.long c2), .second, .val (.long c3), .second, .unset, .unset, .unset, .unset, .unset, .unset, .unset, .unset, .unset] [(.int (6 : Int32)), (.long y2), (.long t3)])
      refine Dn.st (fun t q => XS.lushr X0.here hx rfl (hb hby at_124) rfl q) ?_
      show Dn p e below s _ _ _ s₁ (mkF m 125 #[.val (.long y0), .second, .val (.int x0), .val (.long y2), .second, .val (.long y3), .second, .val (.long y4), .second, .val (.long y5), .second, .val (.long yw), .second, .val (.long ga), .second, .val (.long gb), .second, .val (.long t1), .second, .val (.long t2), .second, .val (.long t3), .second, .val (.long c1), .second, .val (.long c2), .second, .val (.long c3), .second, .unset, .unset, .unset, .unset, .unset, .unset, .unset, .unset, .unset] [(.long ((y2.toUInt64 >>> ((6 : Int32) &&& 0x3f).toInt64.toUInt64).toInt64)), (.long t3)])
      refine Dn.st (fun t q => XS.ladd X0.here hx rfl (hb hby at_125) rfl q) ?_
      show Dn p e below s _ _ _ s₁ (mkF m 126 #[.val (.long y0), .second, .val (.int x0), .val (.long y2), .second, .val (.long y3), .second, .val (.long y4), .second, .val (.long y5), .second, .val (.long yw), .second, .val (.long ga), .second, .val (.long gb), .second, .val (.long t1), .second, .val (.long t2), .second, .val (.long t3), .second, .val (.long c1), .second, .val (.long c2), .second, .val (.long c3), .second, .unset, .unset, .unset, .unset, .unset, .unset, .unset, .unset, .unset] [(.long (t3 + ((y2.toUInt64 >>> ((6 : Int32) &&& 0x3f).toInt64.toUInt64).toInt64)))])
      refine Dn.st (fun t q => XS.goto X0.here hx rfl (pc0 := 126) (pc' := 137) rfl (hb hby at_126) (by decide) (by decide) q) ?_
      show Dn p e below s _ _ _ s₁ (mkF m 137 #[.val (.long y0), .second, .val (.int x0), .val (.long y2), .second, .val (.long y3), .second, .val (.long y4), .second, .val (.long y5), .second, .val (.long yw), .second, .val (.long ga), .second, .val (.long gb), .second, .val (.long t1), .second, .val (.long t2), .second, .val (.long t3), .second, .val (.long c1), .second, .val (.long c2), .second, .val (.long c3), .second, .unset, .unset, .unset, .unset, .unset, .unset, .unset, .unset, .unset] [(.long (t3 + ((y2.toUInt64 >>> ((6 : Int32) &&& 0x3f).toInt64.toUInt64).toInt64)))])
      exact jd (t3 + ((y2.toUInt64 >>> ((6 : Int32) &&& 0x3f).toInt64.toUInt64).toInt64)) (own_d2 _ (by decide) ⟨by omega, by omega⟩ rfl)
  by_cases hcw : (x0 &&& (8 : Int32)) = (0 : Int32)
  · refine Dn.st (fun t q => XS.ifNo X0.here hx rfl (hb hby at_4) rfl ((if0 _ _).trans (teq hcw).2) q) ?_
    show Dn p e below s _ _ _ s₁ (mkF m 7 #[.val (.long y0), .second, .val (.int x0), .val (.long y2), .second, .val (.long y3), .second, .val (.long y4), .second, .val (.long y5), .second, .unset, .unset, .unset, .unset, .unset, .unset, .unset, .unset, .unset, .unset, .unset, .unset, .unset, .unset, .unset, .unset, .unset, .unset, .unset, .unset, .unset, .unset, .unset, .unset, .unset, .unset, .unset] [])
    refine Dn.st (fun t q => XS.lconst X0.here hx rfl (hb hby at_7) q) ?_
    show Dn p e below s _ _ _ s₁ (mkF m 8 #[.val (.long y0), .second, .val (.int x0), .val (.long y2), .second, .val (.long y3), .second, .val (.long y4), .second, .val (.long y5), .second, .unset, .unset, .unset, .unset, .unset, .unset, .unset, .unset, .unset, .unset, .unset, .unset, .unset, .unset, .unset, .unset, .unset, .unset, .unset, .unset, .unset, .unset, .unset, .unset, .unset, .unset, .unset] [(.long (1 : Int64))])
    refine Dn.st (fun t q => XS.iloadN X0.here hx rfl (hb hby at_8) rfl  q) ?_
    show Dn p e below s _ _ _ s₁ (mkF m 9 #[.val (.long y0), .second, .val (.int x0), .val (.long y2), .second, .val (.long y3), .second, .val (.long y4), .second, .val (.long y5), .second, .unset, .unset, .unset, .unset, .unset, .unset, .unset, .unset, .unset, .unset, .unset, .unset, .unset, .unset, .unset, .unset, .unset, .unset, .unset, .unset, .unset, .unset, .unset, .unset, .unset, .unset, .unset] [(.int x0), (.long (1 : Int64))])
    refine Dn.st (fun t q => XS.bipush X0.here hx rfl (hb hby at_9) q) ?_
    show Dn p e below s _ _ _ s₁ (mkF m 11 #[.val (.long y0), .second, .val (.int x0), .val (.long y2), .second, .val (.long y3), .second, .val (.long y4), .second, .val (.long y5), .second, .unset, .unset, .unset, .unset, .unset, .unset, .unset, .unset, .unset, .unset, .unset, .unset, .unset, .unset, .unset, .unset, .unset, .unset, .unset, .unset, .unset, .unset, .unset, .unset, .unset, .unset, .unset] [(.int (7 : Int32)), (.int x0), (.long (1 : Int64))])
    refine Dn.st (fun t q => XS.iand X0.here hx rfl (hb hby at_11) rfl q) ?_
    show Dn p e below s _ _ _ s₁ (mkF m 12 #[.val (.long y0), .second, .val (.int x0), .val (.long y2), .second, .val (.long y3), .second, .val (.long y4), .second, .val (.long y5), .second, .unset, .unset, .unset, .unset, .unset, .unset, .unset, .unset, .unset, .unset, .unset, .unset, .unset, .unset, .unset, .unset, .unset, .unset, .unset, .unset, .unset, .unset, .unset, .unset, .unset, .unset, .unset] [(.int (x0 &&& (7 : Int32))), (.long (1 : Int64))])
    refine Dn.st (fun t q => XS.i2l X0.here hx rfl (hb hby at_12) rfl q) ?_
    show Dn p e below s _ _ _ s₁ (mkF m 13 #[.val (.long y0), .second, .val (.int x0), .val (.long y2), .second, .val (.long y3), .second, .val (.long y4), .second, .val (.long y5), .second, .unset, .unset, .unset, .unset, .unset, .unset, .unset, .unset, .unset, .unset, .unset, .unset, .unset, .unset, .unset, .unset, .unset, .unset, .unset, .unset, .unset, .unset, .unset, .unset, .unset, .unset, .unset] [(.long ((x0 &&& (7 : Int32)).toInt64)), (.long (1 : Int64))])
    refine Dn.st (fun t q => XS.ladd X0.here hx rfl (hb hby at_13) rfl q) ?_
    show Dn p e below s _ _ _ s₁ (mkF m 14 #[.val (.long y0), .second, .val (.int x0), .val (.long y2), .second, .val (.long y3), .second, .val (.long y4), .second, .val (.long y5), .second, .unset, .unset, .unset, .unset, .unset, .unset, .unset, .unset, .unset, .unset, .unset, .unset, .unset, .unset, .unset, .unset, .unset, .unset, .unset, .unset, .unset, .unset, .unset, .unset, .unset, .unset, .unset] [(.long ((1 : Int64) + ((x0 &&& (7 : Int32)).toInt64)))])
    refine Dn.st (fun t q => XS.goto X0.here hx rfl (pc0 := 14) (pc' := 28) rfl (hb hby at_14) (by decide) (by decide) q) ?_
    show Dn p e below s _ _ _ s₁ (mkF m 28 #[.val (.long y0), .second, .val (.int x0), .val (.long y2), .second, .val (.long y3), .second, .val (.long y4), .second, .val (.long y5), .second, .unset, .unset, .unset, .unset, .unset, .unset, .unset, .unset, .unset, .unset, .unset, .unset, .unset, .unset, .unset, .unset, .unset, .unset, .unset, .unset, .unset, .unset, .unset, .unset, .unset, .unset, .unset] [(.long ((1 : Int64) + ((x0 &&& (7 : Int32)).toInt64)))])
    exact jw ((1 : Int64) + ((x0 &&& (7 : Int32)).toInt64)) (own_w1 x0)
  · refine Dn.st (fun t q => XS.ifYes X0.here hx rfl (pc0 := 4) (pc' := 17) rfl (hb hby at_4) rfl ((if0 _ _).trans (feq hcw).2) (by decide) (by decide) q) ?_
    show Dn p e below s _ _ _ s₁ (mkF m 17 #[.val (.long y0), .second, .val (.int x0), .val (.long y2), .second, .val (.long y3), .second, .val (.long y4), .second, .val (.long y5), .second, .unset, .unset, .unset, .unset, .unset, .unset, .unset, .unset, .unset, .unset, .unset, .unset, .unset, .unset, .unset, .unset, .unset, .unset, .unset, .unset, .unset, .unset, .unset, .unset, .unset, .unset, .unset] [])
    refine Dn.st (fun t q => XS.lconst X0.here hx rfl (hb hby at_17) q) ?_
    show Dn p e below s _ _ _ s₁ (mkF m 18 #[.val (.long y0), .second, .val (.int x0), .val (.long y2), .second, .val (.long y3), .second, .val (.long y4), .second, .val (.long y5), .second, .unset, .unset, .unset, .unset, .unset, .unset, .unset, .unset, .unset, .unset, .unset, .unset, .unset, .unset, .unset, .unset, .unset, .unset, .unset, .unset, .unset, .unset, .unset, .unset, .unset, .unset, .unset] [(.long (1 : Int64))])
    refine Dn.st (fun t q => XS.iloadN X0.here hx rfl (hb hby at_18) rfl  q) ?_
    show Dn p e below s _ _ _ s₁ (mkF m 19 #[.val (.long y0), .second, .val (.int x0), .val (.long y2), .second, .val (.long y3), .second, .val (.long y4), .second, .val (.long y5), .second, .unset, .unset, .unset, .unset, .unset, .unset, .unset, .unset, .unset, .unset, .unset, .unset, .unset, .unset, .unset, .unset, .unset, .unset, .unset, .unset, .unset, .unset, .unset, .unset, .unset, .unset, .unset] [(.int x0), (.long (1 : Int64))])
    refine Dn.st (fun t q => XS.bipush X0.here hx rfl (hb hby at_19) q) ?_
    show Dn p e below s _ _ _ s₁ (mkF m 21 #[.val (.long y0), .second, .val (.int x0), .val (.long y2), .second, .val (.long y3), .second, .val (.long y4), .second, .val (.long y5), .second, .unset, .unset, .unset, .unset, .unset, .unset, .unset, .unset, .unset, .unset, .unset, .unset, .unset, .unset, .unset, .unset, .unset, .unset, .unset, .unset, .unset, .unset, .unset, .unset, .unset, .unset, .unset] [(.int (12 : Int32)), (.int x0), (.long (1 : Int64))])
    refine Dn.st (fun t q => XS.iushr X0.here hx rfl (hb hby at_21) rfl q) ?_
    show Dn p e below s _ _ _ s₁ (mkF m 22 #[.val (.long y0), .second, .val (.int x0), .val (.long y2), .second, .val (.long y3), .second, .val (.long y4), .second, .val (.long y5), .second, .unset, .unset, .unset, .unset, .unset, .unset, .unset, .unset, .unset, .unset, .unset, .unset, .unset, .unset, .unset, .unset, .unset, .unset, .unset, .unset, .unset, .unset, .unset, .unset, .unset, .unset, .unset] [(.int ((x0.toUInt32 >>> ((12 : Int32) &&& 31).toUInt32).toInt32)), (.long (1 : Int64))])
    refine Dn.st (fun t q => XS.i2l X0.here hx rfl (hb hby at_22) rfl q) ?_
    show Dn p e below s _ _ _ s₁ (mkF m 23 #[.val (.long y0), .second, .val (.int x0), .val (.long y2), .second, .val (.long y3), .second, .val (.long y4), .second, .val (.long y5), .second, .unset, .unset, .unset, .unset, .unset, .unset, .unset, .unset, .unset, .unset, .unset, .unset, .unset, .unset, .unset, .unset, .unset, .unset, .unset, .unset, .unset, .unset, .unset, .unset, .unset, .unset, .unset] [(.long (((x0.toUInt32 >>> ((12 : Int32) &&& 31).toUInt32).toInt32).toInt64)), (.long (1 : Int64))])
    refine Dn.st (X0.ldc2Long hx hown (mvT hZ (hw _ (List.mem_of_getElem? (i := 177) rfl))) (g := (mkF m 23 #[.val (.long y0), .second, .val (.int x0), .val (.long y2), .second, .val (.long y3), .second, .val (.long y4), .second, .val (.long y5), .second, .unset, .unset, .unset, .unset, .unset, .unset, .unset, .unset, .unset, .unset, .unset, .unset, .unset, .unset, .unset, .unset, .unset, .unset, .unset, .unset, .unset, .unset, .unset, .unset, .unset, .unset, .unset] [(.long (((x0.toUInt32 >>> ((12 : Int32) &&& 31).toUInt32).toInt32).toInt64)), (.long (1 : Int64))])) rfl (hb hby at_23)) ?_
    show Dn p e below s _ _ _ s₁ (mkF m 26 #[.val (.long y0), .second, .val (.int x0), .val (.long y2), .second, .val (.long y3), .second, .val (.long y4), .second, .val (.long y5), .second, .unset, .unset, .unset, .unset, .unset, .unset, .unset, .unset, .unset, .unset, .unset, .unset, .unset, .unset, .unset, .unset, .unset, .unset, .unset, .unset, .unset, .unset, .unset, .unset, .unset, .unset, .unset] [(.long (1048575 : Int64)), (.long (((x0.toUInt32 >>> ((12 : Int32) &&& 31).toUInt32).toInt32).toInt64)), (.long (1 : Int64))])
    refine Dn.st (fun t q => XS.land X0.here hx rfl (hb hby at_26) rfl q) ?_
    show Dn p e below s _ _ _ s₁ (mkF m 27 #[.val (.long y0), .second, .val (.int x0), .val (.long y2), .second, .val (.long y3), .second, .val (.long y4), .second, .val (.long y5), .second, .unset, .unset, .unset, .unset, .unset, .unset, .unset, .unset, .unset, .unset, .unset, .unset, .unset, .unset, .unset, .unset, .unset, .unset, .unset, .unset, .unset, .unset, .unset, .unset, .unset, .unset, .unset] [(.long ((((x0.toUInt32 >>> ((12 : Int32) &&& 31).toUInt32).toInt32).toInt64) &&& (1048575 : Int64))), (.long (1 : Int64))])
    refine Dn.st (fun t q => XS.ladd X0.here hx rfl (hb hby at_27) rfl q) ?_
    show Dn p e below s _ _ _ s₁ (mkF m 28 #[.val (.long y0), .second, .val (.int x0), .val (.long y2), .second, .val (.long y3), .second, .val (.long y4), .second, .val (.long y5), .second, .unset, .unset, .unset, .unset, .unset, .unset, .unset, .unset, .unset, .unset, .unset, .unset, .unset, .unset, .unset, .unset, .unset, .unset, .unset, .unset, .unset, .unset, .unset, .unset, .unset, .unset, .unset] [(.long ((1 : Int64) + ((((x0.toUInt32 >>> ((12 : Int32) &&& 31).toUInt32).toInt32).toInt64) &&& (1048575 : Int64))))])
    exact jw ((1 : Int64) + ((((x0.toUInt32 >>> ((12 : Int32) &&& 31).toUInt32).toInt32).toInt64) &&& (1048575 : Int64))) (own_w2 _)
set_option maxRecDepth 65536 in
set_option maxHeartbeats 40000000 in
theorem comes_1 {Post : Tables → Env → Array Value → State → Outcome → State → Prop} (hpost : ∀ tb e args s v u, (limb_1_1.after args s (.returned v) u = true ∧ limb_1_2.after args s (.returned v) u = true ∧ True) → FrameEnd s (.returned v) u (Jvm.fieldLocs frame_1_writes args s ++ Jvm.arrayLocs frame_1_arrays args s ++ Jvm.staticLocs frame_1_statics s) 24 192 → Post tb e args s (.returned v) u) :
    ArmFor flags0 classFile x code maxLocals ret World_1 tables_1 room_1 Calls_1 rest_1 Pre_1 Post := by
  intro l hfl _ _ p e ha hc hk s m args below hf hA hF happ hP
  obtain ⟨hcalls, hrest, hpre⟩ := hP
  obtain ⟨-, -, -, hnamed, -, -, -, hat⟩ := (Spec.applies_iff hf).mp happ
  obtain ⟨hg, hn⟩ := and_e (Cond.before_iff.mp (show (Jvm.Cond.and given_1 narrow_1).before args s = true from hpre))
  obtain ⟨g1, g2⟩ := and_e hg
  obtain ⟨g3, g4⟩ := and_e g2
  obtain ⟨g5, g6⟩ := and_e g4
  obtain ⟨g7, g8⟩ := and_e g6
  obtain ⟨g9, g10⟩ := and_e g8
  obtain ⟨g11, g12⟩ := and_e g10
  obtain ⟨w0, w1, w2, w3, w4, w5, rfl⟩ : ∃ w0 w1 w2 w3 w4 w5 : Value, args = #[w0, w1, w2, w3, w4, w5] := by
    have hs : args.size = 6 := by simpa [Cond.value, given_1] using g1
    obtain ⟨L⟩ := args
    match L, hs with
    | [w0, w1, w2, w3, w4, w5], _ => exact ⟨w0, w1, w2, w3, w4, w5, rfl⟩
  have hw := fun d (hd : d ∈ tables_1) => atoms_spec (ws := Jvm.Cond.code x code maxLocals ret :: tables_1) hat d (List.mem_cons_of_mem _ hd)
  obtain ⟨i0, ei0⟩ := isL_v g3
  obtain rfl : w0 = (.long i0) := Option.some.inj ei0
  obtain ⟨i1, ei1⟩ := is_v g5
  obtain rfl : w1 = (.int i1) := Option.some.inj ei1
  obtain ⟨i2, ei2⟩ := isL_v g7
  obtain rfl : w2 = (.long i2) := Option.some.inj ei2
  obtain ⟨i3, ei3⟩ := isL_v g9
  obtain rfl : w3 = (.long i3) := Option.some.inj ei3
  obtain ⟨i4, ei4⟩ := isL_v g11
  obtain rfl : w4 = (.long i4) := Option.some.inj ei4
  obtain ⟨i5, ei5⟩ := isL_v g12
  obtain rfl : w5 = (.long i5) := Option.some.inj ei5
  obtain ⟨n, o, h1, h2, h3, _, L, rfl, ⟨rfl, N⟩, hq⟩ := rm0 l s _ hw tables_1 i0 i1 i2 i3 i4 i5 s.heap s.heap.size (Nat.le_refl _)  p e ha hc hk s m _ below hf ((Spec.applies_iff_loose hf).mp happ).1 ⟨rfl, State.Warmed39.refl s, rfl⟩ trivial
  refine ⟨n, _, h1, h2, h3, hpost _ _ _ _ _ _ ⟨Cond.after_iff.mpr rfl, Cond.after_iff.mpr (eq_i res_at (Term.int_eval (1)) rfl), trivial⟩ ⟨hq.1, hq.2.1, (hq.2.2.sift fun y hy => Or.inr (N y hy)).mono (by decide) (by decide)⟩⟩
theorem main_1_1 : Claimed_1_1 := comes_1 fun _ _ _ _ _ _ h hF => ⟨h.1, hF⟩
theorem main_1_2 : Claimed_1_2 := comes_1 fun _ _ _ _ _ _ h hF => ⟨h.2.1, hF⟩
end Jvm.Pilot.@@N@@
namespace Jvm.Pilot.@@N@@
open Jvm Jvm.ClassFile Sem Op Lib Jvm.Free Jvm.Stand Jvm.Pilot.@@N@@.Jvm.D
/-! MADE BY PROGRAM (witnessworld.py) out of the Statement's table words and the real class files: 21 classes; the members and pool entries that the words name. The judged class is class 1, her method 1. -/
namespace start1
open Jvm.ClassFile
def u (s : String) : CpInfo := .utf8 (stringToUtf16 s)
/-- a pool by its gaps: so many unusable entries, then the entry; so many at the end -/
def gap : Nat → List CpInfo → List CpInfo
  | 0, r => r
  | n + 1, r => .unusable :: gap n r
def poolList (es : List (Nat × CpInfo)) (last : Nat) : List CpInfo := es.foldr (fun e r => gap e.1 (e.2 :: r)) (gap last [])
def pool (es : List (Nat × CpInfo)) (last : Nat) : Array CpInfo := ⟨poolList es last⟩
def fileOf (pool : Array CpInfo) (this : Nat) (attrs : Array Attribute := #[]) (ms : Array MethodInfo := #[]) (fl : Nat := 33) (sup : Nat := 0) (ifs : Array Nat := #[]) (fds : Array FieldInfo := #[]) : ClassFile where
  minorVersion := 0
  majorVersion := 65
  constantPool := pool
  accessFlags := fl
  thisClass := this
  superClass := sup
  interfaces := ifs
  fields := fds
  methods := ms
  attributes := attrs
def plain (name : String) (sup : Option ClassId) : Class where
  name := name
  kind := .ordinary
  loader := none
  accessFlags := 33
  super := sup
  interfaces := #[]
  cf := none
  fields := #[]
  methods := #[]
  instanceTypes := #[]
  staticTypes := #[]
  resolved := #[]
  callSites := []
  init := .initialized
  statics := none
  mirror := none

def pool0 : Array CpInfo := pool [(5, u "<init>"), (0, u "()V"), (1, .class_ 10), (1, u "java/lang/Object")] 113

def k0c0 : Code := { maxStack := 0, maxLocals := 1, code := object_method_1_code, exceptionTable := #[], attributes := #[] }
def k0m0 : Method := { name := "<init>", desc := "()V", sig := { parameters := [], returnType := none }, accessFlags := 1, code := some k0c0 }
/-- java/lang/Object -/
def k0 : Class := { plain "java/lang/Object" none with
  accessFlags := 33
  interfaces := #[]
  cf := some (fileOf pool0 8 #[] #[{ accessFlags := 1, nameIndex := 5, descriptorIndex := 6, attributes := #[] }] 33 0 #[] #[])
  fields := #[]
  methods := #[k0m0]
  instanceTypes := #[]
  staticTypes := #[]
  resolved := Array.replicate 124 none
  statics := none }

def pool1 : Array CpInfo := pool [(2, .class_ 4), (1, u "java/lang/Object"), (0, u "<init>"), (0, u "()V"), (0, .long 1048575), (1, .long 4611686018427387903), (1, .long 281474976710655), (1, .long 32), (1, .long 31), (1, .class_ 18), (0, u "com/example/scripted_rate_limiter/scriptedratelimiter/PermitLog"), (2, .long 9223372036854775807), (1, .methodref 17 24), (0, .nameAndType 5 25), (0, u "(JJJ)V"), (0, .methodref 17 27), (0, .nameAndType 28 29), (0, u "add"), (0, u "(JJ)V"), (0, .methodref 17 31), (0, .nameAndType 32 33), (0, u "dropLeft"), (0, u "(J)V"), (0, .methodref 17 35), (0, .nameAndType 36 37), (0, u "size"), (0, u "()I"), (0, .methodref 17 39), (0, .nameAndType 40 41), (0, u "permitsAt"), (0, u "(J)J"), (0, .class_ 43), (0, u "com/example/scripted_rate_limiter/scriptedratelimiter/PermitLogDropLeftPinLaw"), (2, u "law"), (0, u "(JIJJJJ)Z")] 3

def k1m0 : Method := { name := "<init>", desc := "()V", sig := { parameters := [], returnType := none }, accessFlags := 1, code := none }
def k1c1 : Code := { maxStack := 8, maxLocals := 38, code := code, exceptionTable := #[], attributes := #[] }
def k1m1 : Method := { name := "law", desc := "(JIJJJJ)Z", sig := { parameters := [.long, .int, .long, .long, .long, .long], returnType := some .boolean }, accessFlags := 9, code := some k1c1 }
/-- com/example/scripted_rate_limiter/scriptedratelimiter/PermitLogDropLeftPinLaw -/
def k1 : Class := { plain "com/example/scripted_rate_limiter/scriptedratelimiter/PermitLogDropLeftPinLaw" (some 0) with
  accessFlags := 49
  interfaces := #[]
  cf := some (fileOf pool1 42 #[] #[{ accessFlags := 1, nameIndex := 5, descriptorIndex := 6, attributes := #[] }, { accessFlags := 9, nameIndex := 46, descriptorIndex := 47, attributes := #[] }] 49 2 #[] #[])
  fields := #[]
  methods := #[k1m0, k1m1]
  instanceTypes := #[]
  staticTypes := #[]
  resolved := Array.replicate 51 none
  statics := none }

def pool2 : Array CpInfo := pool [(1, .class_ 2), (0, u "com/example/scripted_rate_limiter/scriptedratelimiter/KeyState"), (0, .class_ 4), (0, u "java/lang/Object")] 4

/-- com/example/scripted_rate_limiter/scriptedratelimiter/KeyState -/
def k2 : Class := { plain "com/example/scripted_rate_limiter/scriptedratelimiter/KeyState" (some 0) with
  accessFlags := 1536
  interfaces := #[]
  cf := some (fileOf pool2 1 #[] #[] 1536 3 #[] #[])
  fields := #[]
  methods := #[]
  instanceTypes := #[]
  staticTypes := #[]
  resolved := Array.replicate 9 none
  statics := none }

def pool3 : Array CpInfo := pool [(1, .methodref 2 3), (0, .class_ 4), (0, .nameAndType 5 6), (0, u "java/lang/Object"), (0, u "<init>"), (0, u "()V"), (0, .class_ 8), (0, u "java/util/ArrayDeque"), (0, .methodref 7 3), (0, .fieldref 11 12), (0, .class_ 13), (0, .nameAndType 14 15), (0, u "com/example/scripted_rate_limiter/scriptedratelimiter/PermitLog"), (0, u "entries"), (0, u "Ljava/util/ArrayDeque;"), (0, .fieldref 11 17), (0, .nameAndType 18 19), (0, u "limit"), (0, u "J"), (0, .fieldref 11 21), (0, .nameAndType 22 19), (0, u "tickMillis"), (0, .fieldref 11 24), (0, .nameAndType 25 19), (0, u "windowTicks"), (3, u "(J)J"), (2, u "permitsAt"), (2, u "add"), (0, u "(JJ)V"), (15, .methodref 7 53), (0, .nameAndType 54 55), (0, u "peekLast"), (0, u "()Ljava/lang/Object;"), (0, .class_ 57), (0, u "com/example/scripted_rate_limiter/scriptedratelimiter/PermitLog$Entry"), (0, .fieldref 56 59), (0, .nameAndType 60 19), (0, u "tick"), (3, .fieldref 11 65), (0, .nameAndType 66 19), (0, u "permits"), (0, .methodref 7 68), (0, .nameAndType 69 70), (0, u "iterator"), (0, u "()Ljava/util/Iterator;"), (0, .interfaceMethodref 72 73), (0, .class_ 74), (0, .nameAndType 75 76), (0, u "java/util/Iterator"), (0, u "hasNext"), (0, u "()Z"), (0, .interfaceMethodref 72 78), (0, .nameAndType 79 55), (0, u "next"), (0, .methodref 11 81), (0, .nameAndType 82 83), (0, u "hasLeft"), (0, u "(Lcom/example/scripted_rate_limiter/scriptedratelimiter/PermitLog$Entry;J)Z"), (0, .fieldref 56 65), (0, .methodref 7 86), (0, .nameAndType 87 76), (0, u "isEmpty"), (0, .methodref 7 89), (0, .nameAndType 90 55), (0, u "peekFirst"), (0, .methodref 7 92), (0, .nameAndType 93 55), (0, u "removeFirst"), (0, .methodref 11 95), (0, .nameAndType 96 97), (0, u "dropLeft"), (0, u "(J)V"), (0, .methodref 56 99), (0, .nameAndType 5 36), (0, .methodref 7 101), (0, .nameAndType 102 103), (0, u "addLast"), (0, u "(Ljava/lang/Object;)V"), (3, .methodref 7 108), (0, .nameAndType 109 110), (0, u "size"), (0, u "()I"), (0, .class_ 112), (0, u "com/example/scripted_rate_limiter/scriptedratelimiter/KeyState"), (2, u "(JJJ)V")] 10

def k3c0 : Code := { maxStack := 3, maxLocals := 7, code := prog_17_method_1_code, exceptionTable := #[], attributes := #[] }
def k3m0 : Method := { name := "<init>", desc := "(JJJ)V", sig := { parameters := [.long, .long, .long], returnType := none }, accessFlags := 0, code := some k3c0 }
def k3c1 : Code := { maxStack := 4, maxLocals := 7, code := prog_17_method_4_code, exceptionTable := #[], attributes := #[] }
def k3m1 : Method := { name := "permitsAt", desc := "(J)J", sig := { parameters := [.long], returnType := some .long }, accessFlags := 0, code := some k3c1 }
def k3c2 : Code := { maxStack := 5, maxLocals := 3, code := prog_17_method_5_code, exceptionTable := #[], attributes := #[] }
def k3m2 : Method := { name := "dropLeft", desc := "(J)V", sig := { parameters := [.long], returnType := none }, accessFlags := 0, code := some k3c2 }
def k3c3 : Code := { maxStack := 7, maxLocals := 6, code := prog_17_method_6_code, exceptionTable := #[], attributes := #[] }
def k3m3 : Method := { name := "add", desc := "(JJ)V", sig := { parameters := [.long, .long], returnType := none }, accessFlags := 0, code := some k3c3 }
def k3c4 : Code := { maxStack := 1, maxLocals := 1, code := prog_17_method_8_code, exceptionTable := #[], attributes := #[] }
def k3m4 : Method := { name := "size", desc := "()I", sig := { parameters := [], returnType := some .int }, accessFlags := 0, code := some k3c4 }
def k3c5 : Code := { maxStack := 4, maxLocals := 4, code := prog_17_method_9_code, exceptionTable := #[], attributes := #[] }
def k3m5 : Method := { name := "hasLeft", desc := "(Lcom/example/scripted_rate_limiter/scriptedratelimiter/PermitLog$Entry;J)Z", sig := { parameters := [(.object "com/example/scripted_rate_limiter/scriptedratelimiter/PermitLog$Entry"), .long], returnType := some .boolean }, accessFlags := 2, code := some k3c5 }
/-- com/example/scripted_rate_limiter/scriptedratelimiter/PermitLog -/
def k3 : Class := { plain "com/example/scripted_rate_limiter/scriptedratelimiter/PermitLog" (some 0) with
  accessFlags := 48
  interfaces := #[2]
  cf := some (fileOf pool3 11 #[.nestMembers #[56]] #[{ accessFlags := 0, nameIndex := 5, descriptorIndex := 115, attributes := #[] }, { accessFlags := 0, nameIndex := 32, descriptorIndex := 29, attributes := #[] }, { accessFlags := 0, nameIndex := 96, descriptorIndex := 97, attributes := #[] }, { accessFlags := 0, nameIndex := 35, descriptorIndex := 36, attributes := #[] }, { accessFlags := 0, nameIndex := 109, descriptorIndex := 110, attributes := #[] }, { accessFlags := 2, nameIndex := 82, descriptorIndex := 83, attributes := #[] }] 48 2 #[111] #[{ accessFlags := 18, nameIndex := 18, descriptorIndex := 19, attributes := #[] }, { accessFlags := 18, nameIndex := 22, descriptorIndex := 19, attributes := #[] }, { accessFlags := 18, nameIndex := 25, descriptorIndex := 19, attributes := #[] }, { accessFlags := 18, nameIndex := 14, descriptorIndex := 15, attributes := #[] }, { accessFlags := 2, nameIndex := 66, descriptorIndex := 19, attributes := #[] }])
  fields := #[{ name := "limit", type := .long, accessFlags := 18, slot := 0, constantValue := 0 }, { name := "tickMillis", type := .long, accessFlags := 18, slot := 1, constantValue := 0 }, { name := "windowTicks", type := .long, accessFlags := 18, slot := 2, constantValue := 0 }, { name := "entries", type := (.object "java/util/ArrayDeque"), accessFlags := 18, slot := 3, constantValue := 0 }, { name := "permits", type := .long, accessFlags := 2, slot := 4, constantValue := 0 }]
  methods := #[k3m0, k3m1, k3m2, k3m3, k3m4, k3m5]
  instanceTypes := #[.long, .long, .long, (.object "java/util/ArrayDeque"), .long]
  staticTypes := #[]
  resolved := ((Array.replicate 126 none).setIfInBounds 58 (some (.field 13 0))).setIfInBounds 84 (some (.field 13 1))
  statics := none }

def pool4 : Array CpInfo := pool [(8, .class_ 10), (1, u "java/lang/Iterable"), (24, .class_ 36), (0, u "java/lang/Object")] 25

/-- java/lang/Iterable -/
def k4 : Class := { plain "java/lang/Iterable" (some 0) with
  accessFlags := 1537
  interfaces := #[]
  cf := some (fileOf pool4 8 #[] #[] 1537 35 #[] #[])
  fields := #[]
  methods := #[]
  instanceTypes := #[]
  staticTypes := #[]
  resolved := Array.replicate 62 none
  statics := none }

def pool5 : Array CpInfo := pool [(10, .class_ 12), (1, u "java/util/Collection"), (47, .class_ 61), (0, u "java/lang/Object"), (0, .class_ 63), (0, u "java/lang/Iterable")] 51

/-- java/util/Collection -/
def k5 : Class := { plain "java/util/Collection" (some 0) with
  accessFlags := 1537
  interfaces := #[4]
  cf := some (fileOf pool5 10 #[] #[] 1537 60 #[62] #[])
  fields := #[]
  methods := #[]
  instanceTypes := #[]
  staticTypes := #[]
  resolved := Array.replicate 115 none
  statics := none }

def pool6 : Array CpInfo := pool [(1, .methodref 2 3), (0, .class_ 4), (0, .nameAndType 5 6), (0, u "java/lang/Object"), (0, u "<init>"), (0, u "()V"), (1, .class_ 10), (1, u "java/util/AbstractCollection"), (66, .class_ 78), (0, u "java/util/Collection")] 81

def k6c0 : Code := { maxStack := 1, maxLocals := 1, code := jdk_22_method_1_code, exceptionTable := #[], attributes := #[] }
def k6m0 : Method := { name := "<init>", desc := "()V", sig := { parameters := [], returnType := none }, accessFlags := 4, code := some k6c0 }
/-- java/util/AbstractCollection -/
def k6 : Class := { plain "java/util/AbstractCollection" (some 0) with
  accessFlags := 1057
  interfaces := #[5]
  cf := some (fileOf pool6 8 #[] #[{ accessFlags := 4, nameIndex := 5, descriptorIndex := 6, attributes := #[] }] 1057 2 #[77] #[])
  fields := #[]
  methods := #[k6m0]
  instanceTypes := #[]
  staticTypes := #[]
  resolved := Array.replicate 160 none
  statics := none }

def pool7 : Array CpInfo := pool [(1, .class_ 2), (0, u "java/util/Queue"), (0, .class_ 4), (0, u "java/lang/Object"), (0, .class_ 6), (0, u "java/util/Collection")] 14

/-- java/util/Queue -/
def k7 : Class := { plain "java/util/Queue" (some 0) with
  accessFlags := 1537
  interfaces := #[5]
  cf := some (fileOf pool7 1 #[] #[] 1537 3 #[5] #[])
  fields := #[]
  methods := #[]
  instanceTypes := #[]
  staticTypes := #[]
  resolved := Array.replicate 21 none
  statics := none }

def pool8 : Array CpInfo := pool [(8, .class_ 10), (1, u "java/util/SequencedCollection"), (15, .class_ 27), (0, u "java/lang/Object"), (0, .class_ 29), (0, u "java/util/Collection")] 27

/-- java/util/SequencedCollection -/
def k8 : Class := { plain "java/util/SequencedCollection" (some 0) with
  accessFlags := 1537
  interfaces := #[5]
  cf := some (fileOf pool8 8 #[] #[] 1537 26 #[28] #[])
  fields := #[]
  methods := #[]
  instanceTypes := #[]
  staticTypes := #[]
  resolved := Array.replicate 57 none
  statics := none }

def pool9 : Array CpInfo := pool [(8, .class_ 10), (1, u "java/util/Deque"), (2, .class_ 14), (0, u "java/lang/Object"), (0, .class_ 16), (0, u "java/util/Queue"), (0, .class_ 18), (0, u "java/util/SequencedCollection")] 51

/-- java/util/Deque -/
def k9 : Class := { plain "java/util/Deque" (some 0) with
  accessFlags := 1537
  interfaces := #[7, 8]
  cf := some (fileOf pool9 8 #[] #[] 1537 13 #[15, 17] #[])
  fields := #[]
  methods := #[]
  instanceTypes := #[]
  staticTypes := #[]
  resolved := Array.replicate 70 none
  statics := none }

def pool10 : Array CpInfo := pool [(1, .class_ 2), (0, u "java/lang/Cloneable"), (0, .class_ 4), (0, u "java/lang/Object")] 2

/-- java/lang/Cloneable -/
def k10 : Class := { plain "java/lang/Cloneable" (some 0) with
  accessFlags := 1537
  interfaces := #[]
  cf := some (fileOf pool10 1 #[] #[] 1537 3 #[] #[])
  fields := #[]
  methods := #[]
  instanceTypes := #[]
  staticTypes := #[]
  resolved := Array.replicate 7 none
  statics := none }

def pool11 : Array CpInfo := pool [(1, .class_ 2), (0, u "java/io/Serializable"), (0, .class_ 4), (0, u "java/lang/Object")] 2

/-- java/io/Serializable -/
def k11 : Class := { plain "java/io/Serializable" (some 0) with
  accessFlags := 1537
  interfaces := #[]
  cf := some (fileOf pool11 1 #[] #[] 1537 3 #[] #[])
  fields := #[]
  methods := #[]
  instanceTypes := #[]
  staticTypes := #[]
  resolved := Array.replicate 7 none
  statics := none }

def pool12 : Array CpInfo := pool [(3, .fieldref 4 5), (0, .class_ 6), (0, .nameAndType 7 8), (0, u "java/util/ArrayDeque"), (0, u "elements"), (0, u "[Ljava/lang/Object;"), (4, u "(II)I"), (6, .fieldref 4 21), (0, .nameAndType 22 23), (0, u "tail"), (0, u "I"), (0, .fieldref 4 25), (0, .nameAndType 26 23), (0, u "head"), (12, u "<init>"), (2, .methodref 43 44), (0, .class_ 45), (0, .nameAndType 39 46), (0, u "java/util/AbstractCollection"), (0, u "()V"), (0, .class_ 48), (0, u "java/lang/Object"), (4, u "size"), (0, u "()I"), (13, .methodref 4 69), (0, .nameAndType 70 13), (0, u "dec"), (3, .methodref 4 75), (0, .nameAndType 76 13), (0, u "inc"), (12, u "(Ljava/lang/Object;)V"), (2, u "addLast"), (0, .methodref 4 94), (0, .nameAndType 95 96), (0, u "pollFirst"), (0, u "()Ljava/lang/Object;"), (6, .methodref 4 104), (0, .nameAndType 105 106), (0, u "elementAt"), (0, u "([Ljava/lang/Object;I)Ljava/lang/Object;"), (13, u "removeFirst"), (5, u "peekFirst"), (0, .methodref 4 128), (0, .nameAndType 129 130), (0, u "sub"), (0, u "(III)I"), (0, .class_ 132), (0, u "java/util/ArrayDeque$DeqIterator"), (0, .methodref 131 134), (0, .nameAndType 39 135), (0, u "(Ljava/util/ArrayDeque;)V"), (0, .class_ 137), (0, u "java/util/ArrayDeque$DescendingIterator"), (1, .class_ 140), (0, u "java/util/ArrayDeque$DeqSpliterator"), (137, .class_ 279), (0, u "java/util/Deque"), (0, .class_ 281), (0, u "java/lang/Cloneable"), (0, .class_ 283), (0, u "java/io/Serializable"), (0, u "MAX_ARRAY_SIZE"), (1, u "serialVersionUID"), (0, u "J"), (28, u "nonNullElementAt"), (15, u "peekLast"), (14, u "isEmpty"), (0, u "()Z"), (0, u "iterator"), (0, u "()Ljava/util/Iterator;")] 87

def k12c0 : Code := { maxStack := 2, maxLocals := 1, code := jdk_21_method_3_code, exceptionTable := #[], attributes := #[] }
def k12m0 : Method := { name := "<init>", desc := "()V", sig := { parameters := [], returnType := none }, accessFlags := 1, code := some k12c0 }
def k12c1 : Code := { maxStack := 2, maxLocals := 2, code := jdk_21_method_6_code, exceptionTable := #[], attributes := #[] }
def k12m1 : Method := { name := "inc", desc := "(II)I", sig := { parameters := [.int, .int], returnType := some .int }, accessFlags := 24, code := some k12c1 }
def k12c2 : Code := { maxStack := 2, maxLocals := 2, code := jdk_21_method_7_code, exceptionTable := #[], attributes := #[] }
def k12m2 : Method := { name := "dec", desc := "(II)I", sig := { parameters := [.int, .int], returnType := some .int }, accessFlags := 24, code := some k12c2 }
def k12c3 : Code := { maxStack := 2, maxLocals := 3, code := jdk_21_method_9_code, exceptionTable := #[], attributes := #[] }
def k12m3 : Method := { name := "sub", desc := "(III)I", sig := { parameters := [.int, .int, .int], returnType := some .int }, accessFlags := 24, code := some k12c3 }
def k12c4 : Code := { maxStack := 2, maxLocals := 2, code := jdk_21_method_10_code, exceptionTable := #[], attributes := #[] }
def k12m4 : Method := { name := "elementAt", desc := "([Ljava/lang/Object;I)Ljava/lang/Object;", sig := { parameters := [(.array (.object "java/lang/Object")), .int], returnType := some (.object "java/lang/Object") }, accessFlags := 24, code := some k12c4 }
def k12c5 : Code := { maxStack := 2, maxLocals := 3, code := jdk_21_method_11_code, exceptionTable := #[], attributes := #[] }
def k12m5 : Method := { name := "nonNullElementAt", desc := "([Ljava/lang/Object;I)Ljava/lang/Object;", sig := { parameters := [(.array (.object "java/lang/Object")), .int], returnType := some (.object "java/lang/Object") }, accessFlags := 24, code := some k12c5 }
def k12c6 : Code := { maxStack := 4, maxLocals := 3, code := jdk_21_method_13_code, exceptionTable := #[], attributes := #[] }
def k12m6 : Method := { name := "addLast", desc := "(Ljava/lang/Object;)V", sig := { parameters := [(.object "java/lang/Object")], returnType := none }, accessFlags := 1, code := some k12c6 }
def k12c7 : Code := { maxStack := 2, maxLocals := 2, code := jdk_21_method_18_code, exceptionTable := #[], attributes := #[] }
def k12m7 : Method := { name := "removeFirst", desc := "()Ljava/lang/Object;", sig := { parameters := [], returnType := some (.object "java/lang/Object") }, accessFlags := 1, code := some k12c7 }
def k12c8 : Code := { maxStack := 3, maxLocals := 4, code := jdk_21_method_20_code, exceptionTable := #[], attributes := #[] }
def k12m8 : Method := { name := "pollFirst", desc := "()Ljava/lang/Object;", sig := { parameters := [], returnType := some (.object "java/lang/Object") }, accessFlags := 1, code := some k12c8 }
def k12c9 : Code := { maxStack := 2, maxLocals := 1, code := jdk_21_method_24_code, exceptionTable := #[], attributes := #[] }
def k12m9 : Method := { name := "peekFirst", desc := "()Ljava/lang/Object;", sig := { parameters := [], returnType := some (.object "java/lang/Object") }, accessFlags := 1, code := some k12c9 }
def k12c10 : Code := { maxStack := 3, maxLocals := 2, code := jdk_21_method_25_code, exceptionTable := #[], attributes := #[] }
def k12m10 : Method := { name := "peekLast", desc := "()Ljava/lang/Object;", sig := { parameters := [], returnType := some (.object "java/lang/Object") }, accessFlags := 1, code := some k12c10 }
def k12c11 : Code := { maxStack := 3, maxLocals := 1, code := jdk_21_method_37_code, exceptionTable := #[], attributes := #[] }
def k12m11 : Method := { name := "size", desc := "()I", sig := { parameters := [], returnType := some .int }, accessFlags := 1, code := some k12c11 }
def k12c12 : Code := { maxStack := 2, maxLocals := 1, code := jdk_21_method_38_code, exceptionTable := #[], attributes := #[] }
def k12m12 : Method := { name := "isEmpty", desc := "()Z", sig := { parameters := [], returnType := some .boolean }, accessFlags := 1, code := some k12c12 }
def k12c13 : Code := { maxStack := 3, maxLocals := 1, code := jdk_21_method_39_code, exceptionTable := #[], attributes := #[] }
def k12m13 : Method := { name := "iterator", desc := "()Ljava/util/Iterator;", sig := { parameters := [], returnType := some (.object "java/util/Iterator") }, accessFlags := 1, code := some k12c13 }
/-- java/util/ArrayDeque -/
def k12 : Class := { plain "java/util/ArrayDeque" (some 6) with
  accessFlags := 33
  interfaces := #[9, 10, 11]
  cf := some (fileOf pool12 4 #[.nestMembers #[139, 136, 131]] #[{ accessFlags := 1, nameIndex := 39, descriptorIndex := 46, attributes := #[] }, { accessFlags := 24, nameIndex := 76, descriptorIndex := 13, attributes := #[] }, { accessFlags := 24, nameIndex := 70, descriptorIndex := 13, attributes := #[] }, { accessFlags := 24, nameIndex := 129, descriptorIndex := 130, attributes := #[] }, { accessFlags := 24, nameIndex := 105, descriptorIndex := 106, attributes := #[] }, { accessFlags := 24, nameIndex := 316, descriptorIndex := 106, attributes := #[] }, { accessFlags := 1, nameIndex := 92, descriptorIndex := 89, attributes := #[] }, { accessFlags := 1, nameIndex := 120, descriptorIndex := 96, attributes := #[] }, { accessFlags := 1, nameIndex := 95, descriptorIndex := 96, attributes := #[] }, { accessFlags := 1, nameIndex := 126, descriptorIndex := 96, attributes := #[] }, { accessFlags := 1, nameIndex := 332, descriptorIndex := 96, attributes := #[] }, { accessFlags := 1, nameIndex := 53, descriptorIndex := 54, attributes := #[] }, { accessFlags := 1, nameIndex := 347, descriptorIndex := 348, attributes := #[] }, { accessFlags := 1, nameIndex := 349, descriptorIndex := 350, attributes := #[] }] 33 43 #[278, 280, 282] #[{ accessFlags := 128, nameIndex := 7, descriptorIndex := 8, attributes := #[] }, { accessFlags := 128, nameIndex := 26, descriptorIndex := 23, attributes := #[] }, { accessFlags := 128, nameIndex := 22, descriptorIndex := 23, attributes := #[] }, { accessFlags := 26, nameIndex := 284, descriptorIndex := 23, attributes := #[] }, { accessFlags := 26, nameIndex := 286, descriptorIndex := 287, attributes := #[] }])
  fields := #[{ name := "elements", type := (.array (.object "java/lang/Object")), accessFlags := 128, slot := 0, constantValue := 0 }, { name := "head", type := .int, accessFlags := 128, slot := 1, constantValue := 0 }, { name := "tail", type := .int, accessFlags := 128, slot := 2, constantValue := 0 }, { name := "MAX_ARRAY_SIZE", type := .int, accessFlags := 26, slot := 0, constantValue := 0 }, { name := "serialVersionUID", type := .long, accessFlags := 26, slot := 1, constantValue := 0 }]
  methods := #[k12m0, k12m1, k12m2, k12m3, k12m4, k12m5, k12m6, k12m7, k12m8, k12m9, k12m10, k12m11, k12m12, k12m13]
  instanceTypes := #[(.array (.object "java/lang/Object")), .int, .int]
  staticTypes := #[.int, .long]
  resolved := Array.replicate 438 none
  statics := none }

def pool13 : Array CpInfo := pool [(1, .methodref 2 3), (0, .class_ 4), (0, .nameAndType 5 6), (0, u "java/lang/Object"), (0, u "<init>"), (0, u "()V"), (0, .fieldref 8 9), (0, .class_ 10), (0, .nameAndType 11 12), (0, u "com/example/scripted_rate_limiter/scriptedratelimiter/PermitLog$Entry"), (0, u "tick"), (0, u "J"), (0, .fieldref 8 14), (0, .nameAndType 15 12), (0, u "permits"), (0, u "(JJ)V"), (5, .class_ 23), (0, u "com/example/scripted_rate_limiter/scriptedratelimiter/PermitLog")] 2

def k13c0 : Code := { maxStack := 3, maxLocals := 5, code := prog_18_method_1_code, exceptionTable := #[], attributes := #[] }
def k13m0 : Method := { name := "<init>", desc := "(JJ)V", sig := { parameters := [.long, .long], returnType := none }, accessFlags := 0, code := some k13c0 }
/-- com/example/scripted_rate_limiter/scriptedratelimiter/PermitLog$Entry -/
def k13 : Class := { plain "com/example/scripted_rate_limiter/scriptedratelimiter/PermitLog$Entry" (some 0) with
  accessFlags := 48
  interfaces := #[]
  cf := some (fileOf pool13 8 #[.nestHost 22] #[{ accessFlags := 0, nameIndex := 5, descriptorIndex := 16, attributes := #[] }] 48 2 #[] #[{ accessFlags := 18, nameIndex := 11, descriptorIndex := 12, attributes := #[] }, { accessFlags := 2, nameIndex := 15, descriptorIndex := 12, attributes := #[] }])
  fields := #[{ name := "tick", type := .long, accessFlags := 18, slot := 0, constantValue := 0 }, { name := "permits", type := .long, accessFlags := 2, slot := 1, constantValue := 0 }]
  methods := #[k13m0]
  instanceTypes := #[.long, .long]
  staticTypes := #[]
  resolved := Array.replicate 26 none
  statics := none }

def pool14 : Array CpInfo := pool [(16, .class_ 18), (1, u "java/util/Iterator"), (0, u "hasNext"), (0, u "()Z"), (2, u "next"), (0, u "()Ljava/lang/Object;"), (6, .class_ 32), (0, u "java/lang/Object")] 20

def k14m0 : Method := { name := "hasNext", desc := "()Z", sig := { parameters := [], returnType := some .boolean }, accessFlags := 1025, code := none }
def k14m1 : Method := { name := "next", desc := "()Ljava/lang/Object;", sig := { parameters := [], returnType := some (.object "java/lang/Object") }, accessFlags := 1025, code := none }
/-- java/util/Iterator -/
def k14 : Class := { plain "java/util/Iterator" (some 0) with
  accessFlags := 1537
  interfaces := #[]
  cf := some (fileOf pool14 16 #[] #[{ accessFlags := 1025, nameIndex := 19, descriptorIndex := 20, attributes := #[] }, { accessFlags := 1025, nameIndex := 23, descriptorIndex := 24, attributes := #[] }] 1537 31 #[] #[])
  fields := #[]
  methods := #[k14m0, k14m1]
  instanceTypes := #[]
  staticTypes := #[]
  resolved := Array.replicate 53 none
  statics := none }

def pool15 : Array CpInfo := pool [(1, .fieldref 2 3), (0, .class_ 4), (0, .nameAndType 5 6), (0, u "java/util/ArrayDeque$DeqIterator"), (0, u "this$0"), (0, u "Ljava/util/ArrayDeque;"), (0, .methodref 8 9), (0, .class_ 10), (0, .nameAndType 11 12), (0, u "java/lang/Object"), (0, u "<init>"), (0, u "()V"), (0, .methodref 14 15), (0, .class_ 16), (0, .nameAndType 17 18), (0, u "java/util/ArrayDeque"), (0, u "size"), (0, u "()I"), (0, .fieldref 2 20), (0, .nameAndType 21 22), (0, u "remaining"), (0, u "I"), (0, .fieldref 2 24), (0, .nameAndType 25 22), (0, u "lastRet"), (0, .fieldref 14 27), (0, .nameAndType 28 22), (0, u "head"), (0, .fieldref 2 30), (0, .nameAndType 31 22), (0, u "cursor"), (3, .fieldref 14 36), (0, .nameAndType 37 38), (0, u "elements"), (0, u "[Ljava/lang/Object;"), (0, .methodref 14 40), (0, .nameAndType 41 42), (0, u "nonNullElementAt"), (0, u "([Ljava/lang/Object;I)Ljava/lang/Object;"), (0, .methodref 14 44), (0, .nameAndType 45 46), (0, u "inc"), (0, u "(II)I"), (39, .class_ 87), (0, u "java/util/Iterator"), (0, u "(Ljava/util/ArrayDeque;)V"), (8, u "hasNext"), (0, u "()Z"), (1, u "next"), (0, u "()Ljava/lang/Object;")] 26

def k15c0 : Code := { maxStack := 2, maxLocals := 2, code := jdk_54_method_1_code, exceptionTable := #[], attributes := #[] }
def k15m0 : Method := { name := "<init>", desc := "(Ljava/util/ArrayDeque;)V", sig := { parameters := [(.object "java/util/ArrayDeque")], returnType := none }, accessFlags := 0, code := some k15c0 }
def k15c1 : Code := { maxStack := 1, maxLocals := 1, code := jdk_54_method_2_code, exceptionTable := #[], attributes := #[] }
def k15m1 : Method := { name := "hasNext", desc := "()Z", sig := { parameters := [], returnType := some .boolean }, accessFlags := 17, code := some k15c1 }
def k15c2 : Code := { maxStack := 4, maxLocals := 3, code := jdk_54_method_3_code, exceptionTable := #[], attributes := #[] }
def k15m2 : Method := { name := "next", desc := "()Ljava/lang/Object;", sig := { parameters := [], returnType := some (.object "java/lang/Object") }, accessFlags := 1, code := some k15c2 }
/-- java/util/ArrayDeque$DeqIterator -/
def k15 : Class := { plain "java/util/ArrayDeque$DeqIterator" (some 0) with
  accessFlags := 32
  interfaces := #[14]
  cf := some (fileOf pool15 2 #[.nestHost 14] #[{ accessFlags := 0, nameIndex := 11, descriptorIndex := 88, attributes := #[] }, { accessFlags := 17, nameIndex := 97, descriptorIndex := 98, attributes := #[] }, { accessFlags := 1, nameIndex := 100, descriptorIndex := 101, attributes := #[] }] 32 8 #[86] #[{ accessFlags := 0, nameIndex := 31, descriptorIndex := 22, attributes := #[] }, { accessFlags := 0, nameIndex := 21, descriptorIndex := 22, attributes := #[] }, { accessFlags := 0, nameIndex := 25, descriptorIndex := 22, attributes := #[] }, { accessFlags := 4112, nameIndex := 5, descriptorIndex := 6, attributes := #[] }])
  fields := #[{ name := "cursor", type := .int, accessFlags := 0, slot := 0, constantValue := 0 }, { name := "remaining", type := .int, accessFlags := 0, slot := 1, constantValue := 0 }, { name := "lastRet", type := .int, accessFlags := 0, slot := 2, constantValue := 0 }, { name := "this$0", type := (.object "java/util/ArrayDeque"), accessFlags := 4112, slot := 3, constantValue := 0 }]
  methods := #[k15m0, k15m1, k15m2]
  instanceTypes := #[.int, .int, .int, (.object "java/util/ArrayDeque")]
  staticTypes := #[]
  resolved := Array.replicate 128 none
  statics := none }

/-- the primitive byte -/
def k16 : Class := { plain "byte" none with kind := .primitive 'B', accessFlags := 0x411 }
/-- [B -/
def k17 : Class := { plain "[B" (some 0) with kind := .array 16 .byte, interfaces := #[10, 11], accessFlags := 1041 }

/-- the primitive int -/
def k18 : Class := { plain "int" none with kind := .primitive 'I', accessFlags := 0x411 }
/-- [I -/
def k19 : Class := { plain "[I" (some 0) with kind := .array 18 .int, interfaces := #[10, 11], accessFlags := 1041 }

/-- [Ljava/lang/Object; -/
def k20 : Class := { plain "[Ljava/lang/Object;" (some 0) with kind := .array 0 (.object "java/lang/Object"), interfaces := #[10, 11], accessFlags := 1041 }

def heap : Heap := #[]
def classes : Array Class := #[k0, k1, k2, k3, k4, k5, k6, k7, k8, k9, k10, k11, k12, k13, k14, k15, k16, k17, k18, k19, k20]
def interned : List (Array UInt16 × Addr) := []
def slotsUsed : Nat := 0
def theMethod : MethodId := ⟨1, 1⟩
def args0 : Array Value := #[.long 5, .int 5, .long 5, .long 5, .long 5, .long 5]
def aboutOver (below : List Frame) : State where
  vm := { classes := classes, interned := interned.toArray }
  heap := heap
  slotsUsed := slotsUsed
  threads := #[{ frames := .invoking theMethod args0 :: below }]
def below0 : List Frame := [.native { method := ⟨0, 0⟩, args := #[] }]
def about1 : State := aboutOver below0
def p0 : Program := .bare "" "" ""
def e0 : Env := launch0.env 0 0 0
theorem w_frames : about1.frames = Frame.invoking theMethod args0 :: below0 := rfl
set_option maxRecDepth 65536 in
theorem w_args : argsFit about1.vm theMethod args0 = true := by decide +kernel
set_option maxRecDepth 65536 in
theorem w_heap : heapFits about1 = true := by decide +kernel
set_option maxRecDepth 65536 in
theorem w_runnable : about1.curStatus? = some .runnable := by decide +kernel
set_option maxRecDepth 65536 in
theorem w_alone : about1.alone = true := by decide +kernel
set_option maxRecDepth 65536 in
theorem w_named : about1.methodNamed? x = some theMethod := by decide +kernel
set_option maxRecDepth 65536 in
theorem w_hears : about1.hears theMethod below0 = true := by decide +kernel
set_option maxRecDepth 65536 in
theorem w_ripe : about1.ripe theMethod args0 below0 = true := by decide +kernel
theorem w_running : about1.status = .running := rfl
set_option maxRecDepth 65536 in
theorem w_room : about1.hasRoom e0.platform room_1 = true :=
  launch0.hasRoom_least _ room_1 (by decide +kernel) (by decide +kernel) (by decide +kernel) (by decide +kernel) (by decide +kernel) (by decide +kernel)
theorem allAtoms_all (ts : List Jvm.Cond) (a : Array Jvm.Value) (st : Jvm.State) : (allAtoms ts).before a st = ts.all (fun c => c.before a st) := by
  induction ts with
  | nil => rfl
  | cons c t ih =>
    show (Jvm.Cond.and c (allAtoms t)).before a st = _
    rw [Jvm.Cond.before_and, ih, List.all_cons]
def words1 : List Jvm.Cond := Jvm.Cond.code x code maxLocals ret :: tables_1
/-- a 'code' word, met by the world's own term for the bytes: nothing is compared byte by byte -/
theorem code_word {y : MethodName} {bytes : ByteArray} {mx : Nat} {rt : Option FieldType} {a : Array Value} {s : State} {m : MethodId} {meth : Method} {c : Code} (h1 : s.methodNamed? y = some m) (h2 : s.vm.method? m = some meth) (h3 : meth.code = some c) (h4 : c.code = bytes)
    (h5 : (c.maxLocals == mx && c.exceptionTable.isEmpty && decide (c.maxStack ≤ mostOperands) && decide (meth.sig.returnType = rt) && !meth.locks && decide (parseMethodDescriptor y.desc = some meth.sig)) = true) : (Jvm.Cond.code y bytes mx rt).before a s = true := by
  simp only [Bool.and_eq_true, beq_iff_eq, Bool.not_eq_true', decide_eq_true_eq] at h5
  obtain ⟨⟨⟨⟨⟨g1, g2⟩, g3⟩, g4⟩, g5⟩, g6⟩ := h5
  simp [Cond.before, Cond.holds, Cond.value, h1, h2, h3, h4, g1, g2, g3, g4, g5, g6]
def isCode : Jvm.Cond → Bool
  | .code _ _ _ _ => true
  | _ => false
theorem all_split {L : List Jvm.Cond} {P : Jvm.Cond → Bool} (h1 : L.all (fun c => isCode c || P c) = true) (h2 : ∀ c ∈ L.filter isCode, P c = true) : L.all P = true := by
  refine List.all_eq_true.mpr fun c hc => ?_
  have h := List.all_eq_true.mp h1 c hc
  rcases Bool.eq_false_or_eq_true (isCode c) with hi | hi
  · exact h2 c (List.mem_filter.mpr ⟨hc, hi⟩)
  · simpa [hi] using h
set_option maxRecDepth 65536 in
theorem w_c0 : (Jvm.Cond.code x code maxLocals ret).before args0 about1 = true := code_word (m := ⟨1, 1⟩) (meth := k1m1) (c := k1c1) (by decide +kernel) rfl rfl rfl (by decide +kernel)
set_option maxRecDepth 65536 in
theorem w_c1 : (Jvm.Cond.code ({ cls := "com/example/scripted_rate_limiter/scriptedratelimiter/PermitLog", name := "<init>", desc := "(JJJ)V" } : Jvm.MethodName) prog_17_method_1_code (7 : Nat) (Option.none : Option Jvm.ClassFile.FieldType)).before args0 about1 = true := code_word (m := ⟨3, 0⟩) (meth := k3m0) (c := k3c0) (by decide +kernel) rfl rfl rfl (by decide +kernel)
set_option maxRecDepth 65536 in
theorem w_c2 : (Jvm.Cond.code ({ cls := "java/lang/Object", name := "<init>", desc := "()V" } : Jvm.MethodName) object_method_1_code (1 : Nat) (Option.none : Option Jvm.ClassFile.FieldType)).before args0 about1 = true := code_word (m := ⟨0, 0⟩) (meth := k0m0) (c := k0c0) (by decide +kernel) rfl rfl rfl (by decide +kernel)
set_option maxRecDepth 65536 in
theorem w_c3 : (Jvm.Cond.code ({ cls := "java/util/ArrayDeque", name := "<init>", desc := "()V" } : Jvm.MethodName) jdk_21_method_3_code (1 : Nat) (Option.none : Option Jvm.ClassFile.FieldType)).before args0 about1 = true := code_word (m := ⟨12, 0⟩) (meth := k12m0) (c := k12c0) (by decide +kernel) rfl rfl rfl (by decide +kernel)
set_option maxRecDepth 65536 in
theorem w_c4 : (Jvm.Cond.code ({ cls := "java/util/AbstractCollection", name := "<init>", desc := "()V" } : Jvm.MethodName) jdk_22_method_1_code (1 : Nat) (Option.none : Option Jvm.ClassFile.FieldType)).before args0 about1 = true := code_word (m := ⟨6, 0⟩) (meth := k6m0) (c := k6c0) (by decide +kernel) rfl rfl rfl (by decide +kernel)
set_option maxRecDepth 65536 in
theorem w_c5 : (Jvm.Cond.code ({ cls := "com/example/scripted_rate_limiter/scriptedratelimiter/PermitLog", name := "add", desc := "(JJ)V" } : Jvm.MethodName) prog_17_method_6_code (6 : Nat) (Option.none : Option Jvm.ClassFile.FieldType)).before args0 about1 = true := code_word (m := ⟨3, 3⟩) (meth := k3m3) (c := k3c3) (by decide +kernel) rfl rfl rfl (by decide +kernel)
set_option maxRecDepth 65536 in
theorem w_c6 : (Jvm.Cond.code ({ cls := "com/example/scripted_rate_limiter/scriptedratelimiter/PermitLog", name := "dropLeft", desc := "(J)V" } : Jvm.MethodName) prog_17_method_5_code (3 : Nat) (Option.none : Option Jvm.ClassFile.FieldType)).before args0 about1 = true := code_word (m := ⟨3, 2⟩) (meth := k3m2) (c := k3c2) (by decide +kernel) rfl rfl rfl (by decide +kernel)
set_option maxRecDepth 65536 in
theorem w_c7 : (Jvm.Cond.code ({ cls := "java/util/ArrayDeque", name := "isEmpty", desc := "()Z" } : Jvm.MethodName) jdk_21_method_38_code (1 : Nat) (Option.some Jvm.ClassFile.FieldType.boolean)).before args0 about1 = true := code_word (m := ⟨12, 12⟩) (meth := k12m12) (c := k12c12) (by decide +kernel) rfl rfl rfl (by decide +kernel)
set_option maxRecDepth 65536 in
theorem w_c8 : (Jvm.Cond.code ({ cls := "java/util/ArrayDeque", name := "peekLast", desc := "()Ljava/lang/Object;" } : Jvm.MethodName) jdk_21_method_25_code (2 : Nat) (Option.some (Jvm.ClassFile.FieldType.object "java/lang/Object"))).before args0 about1 = true := code_word (m := ⟨12, 10⟩) (meth := k12m10) (c := k12c10) (by decide +kernel) rfl rfl rfl (by decide +kernel)
set_option maxRecDepth 65536 in
theorem w_c9 : (Jvm.Cond.code ({ cls := "java/util/ArrayDeque", name := "dec", desc := "(II)I" } : Jvm.MethodName) jdk_21_method_7_code (2 : Nat) (Option.some Jvm.ClassFile.FieldType.int)).before args0 about1 = true := code_word (m := ⟨12, 2⟩) (meth := k12m2) (c := k12c2) (by decide +kernel) rfl rfl rfl (by decide +kernel)
set_option maxRecDepth 65536 in
theorem w_c10 : (Jvm.Cond.code ({ cls := "java/util/ArrayDeque", name := "elementAt", desc := "([Ljava/lang/Object;I)Ljava/lang/Object;" } : Jvm.MethodName) jdk_21_method_10_code (2 : Nat) (Option.some (Jvm.ClassFile.FieldType.object "java/lang/Object"))).before args0 about1 = true := code_word (m := ⟨12, 4⟩) (meth := k12m4) (c := k12c4) (by decide +kernel) rfl rfl rfl (by decide +kernel)
set_option maxRecDepth 65536 in
theorem w_c11 : (Jvm.Cond.code ({ cls := "com/example/scripted_rate_limiter/scriptedratelimiter/PermitLog$Entry", name := "<init>", desc := "(JJ)V" } : Jvm.MethodName) prog_18_method_1_code (5 : Nat) (Option.none : Option Jvm.ClassFile.FieldType)).before args0 about1 = true := code_word (m := ⟨13, 0⟩) (meth := k13m0) (c := k13c0) (by decide +kernel) rfl rfl rfl (by decide +kernel)
set_option maxRecDepth 65536 in
theorem w_c12 : (Jvm.Cond.code ({ cls := "java/util/ArrayDeque", name := "addLast", desc := "(Ljava/lang/Object;)V" } : Jvm.MethodName) jdk_21_method_13_code (3 : Nat) (Option.none : Option Jvm.ClassFile.FieldType)).before args0 about1 = true := code_word (m := ⟨12, 6⟩) (meth := k12m6) (c := k12c6) (by decide +kernel) rfl rfl rfl (by decide +kernel)
set_option maxRecDepth 65536 in
theorem w_c13 : (Jvm.Cond.code ({ cls := "java/util/ArrayDeque", name := "inc", desc := "(II)I" } : Jvm.MethodName) jdk_21_method_6_code (2 : Nat) (Option.some Jvm.ClassFile.FieldType.int)).before args0 about1 = true := code_word (m := ⟨12, 1⟩) (meth := k12m1) (c := k12c1) (by decide +kernel) rfl rfl rfl (by decide +kernel)
set_option maxRecDepth 65536 in
theorem w_c14 : (Jvm.Cond.code ({ cls := "java/util/ArrayDeque", name := "peekFirst", desc := "()Ljava/lang/Object;" } : Jvm.MethodName) jdk_21_method_24_code (1 : Nat) (Option.some (Jvm.ClassFile.FieldType.object "java/lang/Object"))).before args0 about1 = true := code_word (m := ⟨12, 9⟩) (meth := k12m9) (c := k12c9) (by decide +kernel) rfl rfl rfl (by decide +kernel)
set_option maxRecDepth 65536 in
theorem w_c15 : (Jvm.Cond.code ({ cls := "com/example/scripted_rate_limiter/scriptedratelimiter/PermitLog", name := "hasLeft", desc := "(Lcom/example/scripted_rate_limiter/scriptedratelimiter/PermitLog$Entry;J)Z" } : Jvm.MethodName) prog_17_method_9_code (4 : Nat) (Option.some Jvm.ClassFile.FieldType.boolean)).before args0 about1 = true := code_word (m := ⟨3, 5⟩) (meth := k3m5) (c := k3c5) (by decide +kernel) rfl rfl rfl (by decide +kernel)
set_option maxRecDepth 65536 in
theorem w_c16 : (Jvm.Cond.code ({ cls := "java/util/ArrayDeque", name := "removeFirst", desc := "()Ljava/lang/Object;" } : Jvm.MethodName) jdk_21_method_18_code (2 : Nat) (Option.some (Jvm.ClassFile.FieldType.object "java/lang/Object"))).before args0 about1 = true := code_word (m := ⟨12, 7⟩) (meth := k12m7) (c := k12c7) (by decide +kernel) rfl rfl rfl (by decide +kernel)
set_option maxRecDepth 65536 in
theorem w_c17 : (Jvm.Cond.code ({ cls := "java/util/ArrayDeque", name := "pollFirst", desc := "()Ljava/lang/Object;" } : Jvm.MethodName) jdk_21_method_20_code (4 : Nat) (Option.some (Jvm.ClassFile.FieldType.object "java/lang/Object"))).before args0 about1 = true := code_word (m := ⟨12, 8⟩) (meth := k12m8) (c := k12c8) (by decide +kernel) rfl rfl rfl (by decide +kernel)
set_option maxRecDepth 65536 in
theorem w_c18 : (Jvm.Cond.code ({ cls := "com/example/scripted_rate_limiter/scriptedratelimiter/PermitLog", name := "size", desc := "()I" } : Jvm.MethodName) prog_17_method_8_code (1 : Nat) (Option.some Jvm.ClassFile.FieldType.int)).before args0 about1 = true := code_word (m := ⟨3, 4⟩) (meth := k3m4) (c := k3c4) (by decide +kernel) rfl rfl rfl (by decide +kernel)
set_option maxRecDepth 65536 in
theorem w_c19 : (Jvm.Cond.code ({ cls := "java/util/ArrayDeque", name := "size", desc := "()I" } : Jvm.MethodName) jdk_21_method_37_code (1 : Nat) (Option.some Jvm.ClassFile.FieldType.int)).before args0 about1 = true := code_word (m := ⟨12, 11⟩) (meth := k12m11) (c := k12c11) (by decide +kernel) rfl rfl rfl (by decide +kernel)
set_option maxRecDepth 65536 in
theorem w_c20 : (Jvm.Cond.code ({ cls := "java/util/ArrayDeque", name := "sub", desc := "(III)I" } : Jvm.MethodName) jdk_21_method_9_code (3 : Nat) (Option.some Jvm.ClassFile.FieldType.int)).before args0 about1 = true := code_word (m := ⟨12, 3⟩) (meth := k12m3) (c := k12c3) (by decide +kernel) rfl rfl rfl (by decide +kernel)
set_option maxRecDepth 65536 in
theorem w_c21 : (Jvm.Cond.code ({ cls := "com/example/scripted_rate_limiter/scriptedratelimiter/PermitLog", name := "permitsAt", desc := "(J)J" } : Jvm.MethodName) prog_17_method_4_code (7 : Nat) (Option.some Jvm.ClassFile.FieldType.long)).before args0 about1 = true := code_word (m := ⟨3, 1⟩) (meth := k3m1) (c := k3c1) (by decide +kernel) rfl rfl rfl (by decide +kernel)
set_option maxRecDepth 65536 in
theorem w_c22 : (Jvm.Cond.code ({ cls := "java/util/ArrayDeque", name := "iterator", desc := "()Ljava/util/Iterator;" } : Jvm.MethodName) jdk_21_method_39_code (1 : Nat) (Option.some (Jvm.ClassFile.FieldType.object "java/util/Iterator"))).before args0 about1 = true := code_word (m := ⟨12, 13⟩) (meth := k12m13) (c := k12c13) (by decide +kernel) rfl rfl rfl (by decide +kernel)
set_option maxRecDepth 65536 in
theorem w_c23 : (Jvm.Cond.code ({ cls := "java/util/ArrayDeque$DeqIterator", name := "<init>", desc := "(Ljava/util/ArrayDeque;)V" } : Jvm.MethodName) jdk_54_method_1_code (2 : Nat) (Option.none : Option Jvm.ClassFile.FieldType)).before args0 about1 = true := code_word (m := ⟨15, 0⟩) (meth := k15m0) (c := k15c0) (by decide +kernel) rfl rfl rfl (by decide +kernel)
set_option maxRecDepth 65536 in
theorem w_c24 : (Jvm.Cond.code ({ cls := "java/util/ArrayDeque$DeqIterator", name := "hasNext", desc := "()Z" } : Jvm.MethodName) jdk_54_method_2_code (1 : Nat) (Option.some Jvm.ClassFile.FieldType.boolean)).before args0 about1 = true := code_word (m := ⟨15, 1⟩) (meth := k15m1) (c := k15c1) (by decide +kernel) rfl rfl rfl (by decide +kernel)
set_option maxRecDepth 65536 in
theorem w_c25 : (Jvm.Cond.code ({ cls := "java/util/ArrayDeque$DeqIterator", name := "next", desc := "()Ljava/lang/Object;" } : Jvm.MethodName) jdk_54_method_3_code (3 : Nat) (Option.some (Jvm.ClassFile.FieldType.object "java/lang/Object"))).before args0 about1 = true := code_word (m := ⟨15, 2⟩) (meth := k15m2) (c := k15c2) (by decide +kernel) rfl rfl rfl (by decide +kernel)
set_option maxRecDepth 65536 in
theorem w_c26 : (Jvm.Cond.code ({ cls := "java/util/ArrayDeque", name := "nonNullElementAt", desc := "([Ljava/lang/Object;I)Ljava/lang/Object;" } : Jvm.MethodName) jdk_21_method_11_code (3 : Nat) (Option.some (Jvm.ClassFile.FieldType.object "java/lang/Object"))).before args0 about1 = true := code_word (m := ⟨12, 5⟩) (meth := k12m5) (c := k12c5) (by decide +kernel) rfl rfl rfl (by decide +kernel)
def codes1 : List Jvm.Cond := [Jvm.Cond.code x code maxLocals ret, Jvm.Cond.code ({ cls := "com/example/scripted_rate_limiter/scriptedratelimiter/PermitLog", name := "<init>", desc := "(JJJ)V" } : Jvm.MethodName) prog_17_method_1_code (7 : Nat) (Option.none : Option Jvm.ClassFile.FieldType), Jvm.Cond.code ({ cls := "java/lang/Object", name := "<init>", desc := "()V" } : Jvm.MethodName) object_method_1_code (1 : Nat) (Option.none : Option Jvm.ClassFile.FieldType), Jvm.Cond.code ({ cls := "java/util/ArrayDeque", name := "<init>", desc := "()V" } : Jvm.MethodName) jdk_21_method_3_code (1 : Nat) (Option.none : Option Jvm.ClassFile.FieldType), Jvm.Cond.code ({ cls := "java/util/AbstractCollection", name := "<init>", desc := "()V" } : Jvm.MethodName) jdk_22_method_1_code (1 : Nat) (Option.none : Option Jvm.ClassFile.FieldType), Jvm.Cond.code ({ cls := "com/example/scripted_rate_limiter/scriptedratelimiter/PermitLog", name := "add", desc := "(JJ)V" } : Jvm.MethodName) prog_17_method_6_code (6 : Nat) (Option.none : Option Jvm.ClassFile.FieldType), Jvm.Cond.code ({ cls := "com/example/scripted_rate_limiter/scriptedratelimiter/PermitLog", name := "dropLeft", desc := "(J)V" } : Jvm.MethodName) prog_17_method_5_code (3 : Nat) (Option.none : Option Jvm.ClassFile.FieldType), Jvm.Cond.code ({ cls := "java/util/ArrayDeque", name := "isEmpty", desc := "()Z" } : Jvm.MethodName) jdk_21_method_38_code (1 : Nat) (Option.some Jvm.ClassFile.FieldType.boolean), Jvm.Cond.code ({ cls := "java/util/ArrayDeque", name := "peekLast", desc := "()Ljava/lang/Object;" } : Jvm.MethodName) jdk_21_method_25_code (2 : Nat) (Option.some (Jvm.ClassFile.FieldType.object "java/lang/Object")), Jvm.Cond.code ({ cls := "java/util/ArrayDeque", name := "dec", desc := "(II)I" } : Jvm.MethodName) jdk_21_method_7_code (2 : Nat) (Option.some Jvm.ClassFile.FieldType.int), Jvm.Cond.code ({ cls := "java/util/ArrayDeque", name := "elementAt", desc := "([Ljava/lang/Object;I)Ljava/lang/Object;" } : Jvm.MethodName) jdk_21_method_10_code (2 : Nat) (Option.some (Jvm.ClassFile.FieldType.object "java/lang/Object")), Jvm.Cond.code ({ cls := "com/example/scripted_rate_limiter/scriptedratelimiter/PermitLog$Entry", name := "<init>", desc := "(JJ)V" } : Jvm.MethodName) prog_18_method_1_code (5 : Nat) (Option.none : Option Jvm.ClassFile.FieldType), Jvm.Cond.code ({ cls := "java/util/ArrayDeque", name := "addLast", desc := "(Ljava/lang/Object;)V" } : Jvm.MethodName) jdk_21_method_13_code (3 : Nat) (Option.none : Option Jvm.ClassFile.FieldType), Jvm.Cond.code ({ cls := "java/util/ArrayDeque", name := "inc", desc := "(II)I" } : Jvm.MethodName) jdk_21_method_6_code (2 : Nat) (Option.some Jvm.ClassFile.FieldType.int), Jvm.Cond.code ({ cls := "java/util/ArrayDeque", name := "peekFirst", desc := "()Ljava/lang/Object;" } : Jvm.MethodName) jdk_21_method_24_code (1 : Nat) (Option.some (Jvm.ClassFile.FieldType.object "java/lang/Object")), Jvm.Cond.code ({ cls := "com/example/scripted_rate_limiter/scriptedratelimiter/PermitLog", name := "hasLeft", desc := "(Lcom/example/scripted_rate_limiter/scriptedratelimiter/PermitLog$Entry;J)Z" } : Jvm.MethodName) prog_17_method_9_code (4 : Nat) (Option.some Jvm.ClassFile.FieldType.boolean), Jvm.Cond.code ({ cls := "java/util/ArrayDeque", name := "removeFirst", desc := "()Ljava/lang/Object;" } : Jvm.MethodName) jdk_21_method_18_code (2 : Nat) (Option.some (Jvm.ClassFile.FieldType.object "java/lang/Object")), Jvm.Cond.code ({ cls := "java/util/ArrayDeque", name := "pollFirst", desc := "()Ljava/lang/Object;" } : Jvm.MethodName) jdk_21_method_20_code (4 : Nat) (Option.some (Jvm.ClassFile.FieldType.object "java/lang/Object")), Jvm.Cond.code ({ cls := "com/example/scripted_rate_limiter/scriptedratelimiter/PermitLog", name := "size", desc := "()I" } : Jvm.MethodName) prog_17_method_8_code (1 : Nat) (Option.some Jvm.ClassFile.FieldType.int), Jvm.Cond.code ({ cls := "java/util/ArrayDeque", name := "size", desc := "()I" } : Jvm.MethodName) jdk_21_method_37_code (1 : Nat) (Option.some Jvm.ClassFile.FieldType.int), Jvm.Cond.code ({ cls := "java/util/ArrayDeque", name := "sub", desc := "(III)I" } : Jvm.MethodName) jdk_21_method_9_code (3 : Nat) (Option.some Jvm.ClassFile.FieldType.int), Jvm.Cond.code ({ cls := "com/example/scripted_rate_limiter/scriptedratelimiter/PermitLog", name := "permitsAt", desc := "(J)J" } : Jvm.MethodName) prog_17_method_4_code (7 : Nat) (Option.some Jvm.ClassFile.FieldType.long), Jvm.Cond.code ({ cls := "java/util/ArrayDeque", name := "iterator", desc := "()Ljava/util/Iterator;" } : Jvm.MethodName) jdk_21_method_39_code (1 : Nat) (Option.some (Jvm.ClassFile.FieldType.object "java/util/Iterator")), Jvm.Cond.code ({ cls := "java/util/ArrayDeque$DeqIterator", name := "<init>", desc := "(Ljava/util/ArrayDeque;)V" } : Jvm.MethodName) jdk_54_method_1_code (2 : Nat) (Option.none : Option Jvm.ClassFile.FieldType), Jvm.Cond.code ({ cls := "java/util/ArrayDeque$DeqIterator", name := "hasNext", desc := "()Z" } : Jvm.MethodName) jdk_54_method_2_code (1 : Nat) (Option.some Jvm.ClassFile.FieldType.boolean), Jvm.Cond.code ({ cls := "java/util/ArrayDeque$DeqIterator", name := "next", desc := "()Ljava/lang/Object;" } : Jvm.MethodName) jdk_54_method_3_code (3 : Nat) (Option.some (Jvm.ClassFile.FieldType.object "java/lang/Object")), Jvm.Cond.code ({ cls := "java/util/ArrayDeque", name := "nonNullElementAt", desc := "([Ljava/lang/Object;I)Ljava/lang/Object;" } : Jvm.MethodName) jdk_21_method_11_code (3 : Nat) (Option.some (Jvm.ClassFile.FieldType.object "java/lang/Object"))]
set_option maxRecDepth 65536 in
theorem codes_eq : words1.filter isCode = codes1 := rfl
theorem w_codes : ∀ c ∈ words1.filter isCode, c.before args0 about1 = true := by
  rw [codes_eq]
  intro c hc
  simp only [codes1, List.mem_cons, List.not_mem_nil, or_false] at hc
  rcases hc with rfl | rfl | rfl | rfl | rfl | rfl | rfl | rfl | rfl | rfl | rfl | rfl | rfl | rfl | rfl | rfl | rfl | rfl | rfl | rfl | rfl | rfl | rfl | rfl | rfl | rfl | rfl
  · exact w_c0
  · exact w_c1
  · exact w_c2
  · exact w_c3
  · exact w_c4
  · exact w_c5
  · exact w_c6
  · exact w_c7
  · exact w_c8
  · exact w_c9
  · exact w_c10
  · exact w_c11
  · exact w_c12
  · exact w_c13
  · exact w_c14
  · exact w_c15
  · exact w_c16
  · exact w_c17
  · exact w_c18
  · exact w_c19
  · exact w_c20
  · exact w_c21
  · exact w_c22
  · exact w_c23
  · exact w_c24
  · exact w_c25
  · exact w_c26
set_option maxRecDepth 65536 in
theorem w_t1 : (words1.take 24).all (fun c => isCode c || c.before args0 about1) = true := by decide +kernel
set_option maxRecDepth 65536 in
theorem w_t2 : ((words1.drop 24).take 24).all (fun c => isCode c || c.before args0 about1) = true := by decide +kernel
set_option maxRecDepth 65536 in
theorem w_t3 : (((words1.drop 24).drop 24).take 24).all (fun c => isCode c || c.before args0 about1) = true := by decide +kernel
set_option maxRecDepth 65536 in
theorem w_t4 : ((((words1.drop 24).drop 24).drop 24).take 24).all (fun c => isCode c || c.before args0 about1) = true := by decide +kernel
set_option maxRecDepth 65536 in
theorem w_t5 : (((((words1.drop 24).drop 24).drop 24).drop 24).take 24).all (fun c => isCode c || c.before args0 about1) = true := by decide +kernel
set_option maxRecDepth 65536 in
theorem w_t6 : ((((((words1.drop 24).drop 24).drop 24).drop 24).drop 24).take 24).all (fun c => isCode c || c.before args0 about1) = true := by decide +kernel
set_option maxRecDepth 65536 in
theorem w_t7 : (((((((words1.drop 24).drop 24).drop 24).drop 24).drop 24).drop 24).take 24).all (fun c => isCode c || c.before args0 about1) = true := by decide +kernel
set_option maxRecDepth 65536 in
theorem w_t8 : (((((((words1.drop 24).drop 24).drop 24).drop 24).drop 24).drop 24).drop 24).all (fun c => isCode c || c.before args0 about1) = true := by decide +kernel
theorem w_tables : (allAtoms (Jvm.Cond.code x code maxLocals ret :: tables_1)).before args0 about1 = true := by
  rw [allAtoms_all]
  show words1.all (fun c => c.before args0 about1) = true
  refine all_split ?_ w_codes
  rw [← List.take_append_drop 24 words1, List.all_append, w_t1, ← List.take_append_drop 24 (words1.drop 24), List.all_append, w_t2, ← List.take_append_drop 24 ((words1.drop 24).drop 24), List.all_append, w_t3, ← List.take_append_drop 24 (((words1.drop 24).drop 24).drop 24), List.all_append, w_t4, ← List.take_append_drop 24 ((((words1.drop 24).drop 24).drop 24).drop 24), List.all_append, w_t5, ← List.take_append_drop 24 (((((words1.drop 24).drop 24).drop 24).drop 24).drop 24), List.all_append, w_t6, ← List.take_append_drop 24 ((((((words1.drop 24).drop 24).drop 24).drop 24).drop 24).drop 24), List.all_append, w_t7, w_t8]
  rfl
set_option maxRecDepth 65536 in
theorem w_case : (Jvm.Cond.and given_1 narrow_1).before args0 about1 = true := by decide +kernel
theorem w_applies : (headSpec (Jvm.Cond.code x code maxLocals ret :: tables_1) room_1).applies x e0.platform about1 = true :=
  (Spec.applies_iff w_frames).mpr ⟨w_running, w_runnable, w_alone, w_named, w_hears, w_ripe, w_room, w_tables⟩
theorem atStart : AtStart classFile x code maxLocals ret World_1 tables_1 room_1 Calls_1 rest_1 Pre_1 launch0 p0 e0 about1 theMethod args0 below0 :=
  ⟨lists_1, trivial, launch0.admits_env _ _ _, launch0.least_env, fairChoices_fair.cas, fairChoices_fair.clock, w_frames, w_args, w_heap, w_applies, trivial, trivial, w_case⟩
end start1
theorem witness_1 : WitnessClaimed_1 := ⟨start1.p0, start1.e0, start1.about1, start1.theMethod, start1.args0, start1.below0, start1.atStart⟩
end Jvm.Pilot.@@N@@
