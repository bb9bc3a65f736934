import JvmDerived
import JvmDerived.Pilot.@@N@@Statement
import JvmDerived.Pilot.@@N@@Code
set_option linter.unusedVariables false
set_option linter.unusedSimpArgs false
@@BLOCK:NumsL.lean.txt@@
namespace Jvm.Pilot.@@N@@
open Jvm Jvm.ClassFile Sem Op Lib Jvm.Free Jvm.Stand Jvm.LawKit Jvm.RoadKit Bundle Jvm.Pilot.@@N@@.Jvm.D
/-! THE OWN KIT: a walk in small steps to the body's end -/
/-- from T with the frame g on top the body comes to its end, and what it leaves fulfils Q -/
def Dn (p : Program) (e : Env) (below : List Frame) (s : State) (Q : Option Value → Heap → List Loc → Prop) (k n : Nat) (T : State) (g : JFrame) : Prop :=
  ∃ s₂ o, Steps p.tables e below (T.setTop g) s₂ ∧ s₂.status = .running ∧ Ended s₂ below o ∧ ∃ v L, o = .returned v ∧ Q v s₂.heap L ∧ FrameEnd s o s₂ L k n
section OwnKit
variable {p : Program} {l : Launch} {e : Env} {R : Room} {s : State} {m : MethodId} {args : Array Value} {below : List Frame} {meth : Method} {c : Code} {T T' : State} {locs : List Loc} {cells slots : Nat} {Z : State} {h h' : Heap} {g g' : JFrame} {k n : Nat} {Q : Option Value → Heap → List Loc → Prop}
theorem Dn.st (f : ∀ t, Steps p.tables e below (T'.setTop g') t → Steps p.tables e below (T.setTop g) t) (d : Dn p e below s Q k n T' g') : Dn p e below s Q k n T g := by
  obtain ⟨s₂, o, h1, h2⟩ := d
  exact ⟨s₂, o, f _ h1, h2⟩
theorem Dn.tr (f : Steps p.tables e below (T.setTop g) (T'.setTop g')) (d : Dn p e below s Q k n T' g') : Dn p e below s Q k n T g := by
  obtain ⟨s₂, o, h1, h2⟩ := d
  exact ⟨s₂, o, f.trans h1, h2⟩
theorem Dn.cast (q : g = g') (d : Dn p e below s Q k n T g') : Dn p e below s Q k n T g := q ▸ d
theorem Dn.retI (X : Stand p l e R s m args below meth c T locs cells slots) (hx : p.tables.exec = Jvm.exec) (hk : meth.locks = false) {pc : Nat} {Ls : Array Slot} {z : Int32} {rest : List Value} (hret : meth.sig.returnType = some .int) (hd : decode c.code pc = .ok (.ireturn, 1)) (hQ : Q (some (.int z)) T.heap locs) (hc : cells ≤ k) (hs : slots ≤ n) :
    Dn p e below s Q k n T (mkF m pc Ls (.int z :: rest)) := by
  obtain ⟨fs, hr, hrun, hended, hW, hsame⟩ := X.leave (v := some (.int z)) (fun q => by rw [hret] at q; cases q) hk
  exact ⟨_, _, retOut X hx hret rfl (Or.inl ⟨rfl, Or.inl rfl, z, rfl⟩) hd hr, hrun, hended, _, _, rfl, hQ, ⟨_, rfl⟩, hW, hsame.mono hc hs⟩
theorem Dn.retZ (X : Stand p l e R s m args below meth c T locs cells slots) (hx : p.tables.exec = Jvm.exec) (hk : meth.locks = false) {pc : Nat} {Ls : Array Slot} {z : Int32} {t : FieldType} {rest : List Value} (hret : meth.sig.returnType = some t) (ht : t = .boolean ∨ t = .byte ∨ t = .char ∨ t = .short) (hd : decode c.code pc = .ok (.ireturn, 1)) (hQ : Q (some (.int (nar t z))) T.heap locs) (hc : cells ≤ k) (hs : slots ≤ n) :
    Dn p e below s Q k n T (mkF m pc Ls (.int z :: rest)) := by
  obtain ⟨fs, hr, hrun, hended, hW, hsame⟩ := X.leave (v := some (.int (nar t z))) (fun q => by rw [hret] at q; cases q) hk
  exact ⟨_, _, retN X hx hret ht hd hr, hrun, hended, _, _, rfl, hQ, ⟨_, rfl⟩, hW, hsame.mono hc hs⟩
theorem Dn.retJ (X : Stand p l e R s m args below meth c T locs cells slots) (hx : p.tables.exec = Jvm.exec) (hk : meth.locks = false) {pc : Nat} {Ls : Array Slot} {z : Int64} {rest : List Value} (hret : meth.sig.returnType = some .long) (hd : decode c.code pc = .ok (.lreturn, 1)) (hQ : Q (some (.long z)) T.heap locs) (hc : cells ≤ k) (hs : slots ≤ n) :
    Dn p e below s Q k n T (mkF m pc Ls (.long z :: rest)) := by
  obtain ⟨fs, hr, hrun, hended, hW, hsame⟩ := X.leave (v := some (.long z)) (fun q => by rw [hret] at q; cases q) hk
  exact ⟨_, _, retOut X hx hret rfl (Or.inr (Or.inl ⟨rfl, rfl, z, rfl⟩)) hd hr, hrun, hended, _, _, rfl, hQ, ⟨_, rfl⟩, hW, hsame.mono hc hs⟩
theorem Dn.retA (X : Stand p l e R s m args below meth c T locs cells slots) (hx : p.tables.exec = Jvm.exec) (hk : meth.locks = false) {pc : Nat} {Ls : Array Slot} {a : Addr} {t : FieldType} {rest : List Value} (hret : meth.sig.returnType = some t) (ht : t.isReference = true) (hn : narrow t (.ref a) = .ref a) (hd : decode c.code pc = .ok (.areturn, 1)) (hQ : Q (some (.ref a)) T.heap locs) (hc : cells ≤ k) (hs : slots ≤ n) :
    Dn p e below s Q k n T (mkF m pc Ls (.ref a :: rest)) := by
  obtain ⟨fs, hr, hrun, hended, hW, hsame⟩ := X.leave (v := some (.ref a)) (fun q => by rw [hret] at q; cases q) hk
  exact ⟨_, _, retOut X hx hret hn (Or.inr (Or.inr (Or.inr (Or.inr ⟨rfl, ht, rfl⟩)))) hd hr, hrun, hended, _, _, rfl, hQ, ⟨_, rfl⟩, hW, hsame.mono hc hs⟩
theorem Dn.retV (X : Stand p l e R s m args below meth c T locs cells slots) (hx : p.tables.exec = Jvm.exec) (hk : meth.locks = false) {pc : Nat} {Ls : Array Slot} (hret : meth.sig.returnType = none) (hd : decode c.code pc = .ok (.return_, 1)) (hQ : Q none T.heap locs) (hc : cells ≤ k) (hs : slots ≤ n) :
    Dn p e below s Q k n T (mkF m pc Ls []) := by
  obtain ⟨fs, hr, hrun, hended, hW, hsame⟩ := X.leave (v := none) (fun _ => rfl) hk
  exact ⟨_, _, X.returnOut hx hret hd hr, hrun, hended, _, _, rfl, hQ, ⟨_, rfl⟩, hW, hsame.mono hc hs⟩
theorem own_ne {a b : Addr} {j : Nat} (q : a < j) (r : b = j) : a ≠ b := fun e => absurd (e.trans r) (Nat.ne_of_lt q)
theorem own_ne' {a b : Addr} {j : Nat} (q : a < j) (r : j ≤ b) : a ≠ b := Nat.ne_of_lt (Nat.lt_of_lt_of_le q r)
theorem own_self {s : State} {args : Array Value} {y : MethodName} {n : Nat} (wi : (Jvm.Cond.instantiable y.cls n).before args s = true) (wp : (Jvm.Cond.privateMethod y).before args s = true) (hinst : (Jvm.Cond.instanceMethod y).before args s = true) (hy : y.cls ≠ "java/lang/invoke/MethodHandle" ∧ y.cls ≠ "java/lang/invoke/VarHandle") : (Jvm.Cond.selects y.cls y y).before args s = true := by
  obtain ⟨c, k, h1, h2, -, h4, -⟩ := Jvm.Cond.instantiable_spec wi
  exact selects_self_of_private h1 h2 (Bool.or_eq_false_iff.mp h4).1 (Jvm.Cond.privateMethod_at wp) hinst hy
end OwnKit
/-! ARRAYS BY A FUNCTION: the array at a has n places, place j holds f j -/
def Ary (Z : State) (h : Heap) (a : Addr) (ty : FieldType) (n : Nat) (f : Nat → Value) : Prop := ∃ c : Cell, Arr Z h a c ty ∧ c.slots.size = n ∧ ∀ j, j < n → c.slots[j]? = some (f j)
section OwnAry
variable {p : Program} {l : Launch} {e : Env} {R : Room} {s : State} {m : MethodId} {args : Array Value} {below : List Frame} {meth : Method} {c : Code} {T T' : State} {locs : List Loc} {cells slots : Nat} {Z : State} {h h' : Heap} {a b : Addr} {ty : FieldType} {n i sl : Nat} {f f' : Nat → Value} {v : Value} {ws : List Addr} {j : Int32}
theorem Ary.lt (F : Ary Z h a ty n f) : a < h.size := by obtain ⟨c, A, -⟩ := F; exact A.lt
theorem Ary.ext (F : Ary Z h a ty n f) (E : Ext h h') : Ary Z h' a ty n f := by obtain ⟨c, A, r⟩ := F; exact ⟨c, A.ext E, r⟩
theorem Ary.other (F : Ary Z h b ty n f) (W : Wr h h' a sl v) (q : b ≠ a) : Ary Z h' b ty n f := by obtain ⟨c, A, r⟩ := F; exact ⟨c, A.other W q, r⟩
theorem Ary.keep (F : Ary Z h a ty n f) (K : Keep h h' ws) (q : a ∉ ws) : Ary Z h' a ty n f := by obtain ⟨c, A, r⟩ := F; exact ⟨c, ⟨K.2.1 a c A.1 q, A.2⟩, r⟩
theorem Ary.congr (F : Ary Z h a ty n f) (q : ∀ j, j < n → f' j = f j) : Ary Z h a ty n f' := by obtain ⟨c, A, S, H⟩ := F; exact ⟨c, A, S, fun j hj => by rw [q j hj]; exact H j hj⟩
theorem Ary.new {k : ClassId} {z : Int32} (A : Arr Z h a (newA k ty z) ty) (q : z.toInt = n) : Ary Z h a ty n (fun _ => defaultValue ty) := by
  have e1 : z.toNatClampNeg = n := by simp only [Int32.toNatClampNeg, q]; rfl
  refine ⟨_, A, by rw [sz_new]; exact e1, fun i hi => ?_⟩
  simp [newA, e1, hi]
theorem own_clamp (q : j.toInt = (i : Int)) : j.toNatClampNeg = i := by simp only [Int32.toNatClampNeg, q]; rfl
theorem own_nneg (q : j.toInt = (i : Int)) : ¬ j < 0 := by rw [Int32.lt_iff_toInt_lt, q]; show ¬ (i : Int) < 0; omega
theorem Ary.set (F : Ary Z h a ty n f) (W : Wr h h' a j.toNatClampNeg v) (q : j.toInt = (i : Int)) (hi : i < n) : Ary Z h' a ty n (fun x => if x = i then v else f x) := by
  obtain ⟨c, A, S, H⟩ := F
  rw [own_clamp q] at W
  refine ⟨_, A.same W, by rw [sz_set]; exact S, fun x hx => ?_⟩
  by_cases u : x = i
  · subst u; simp [Cell.setSlot, S, hx]
  · have := H x hx; simp only [Cell.setSlot, u, if_false]
    rw [Array.getElem?_setIfInBounds_ne (Ne.symm u)]; exact this
theorem own_inb {cl : Cell} (S : cl.slots.size = n) (q : j.toInt = (i : Int)) (hi : i < n) : ¬ (j < 0 ∨ cl.slots.size ≤ j.toNatClampNeg) := by
  rw [own_clamp q, S]; exact fun r => r.elim (own_nneg q) (fun z => absurd hi (Nat.not_lt.mpr z))
theorem aLen (X : Stand p l e R s m args below meth c T locs cells slots) (hx : p.tables.exec = Jvm.exec) (hZ : Z.Warmed39 s.vm) (eT : T.heap = h) (F : Ary Z h a ty n f) {g : JFrame} (hg : g.method = m) {rest : List Value} (hs : g.stack = .ref a :: rest) (hd : decode c.code g.pc = .ok (.arraylength, 1)) :
    ∀ t, Steps p.tables e below (T.setTop { g with pc := g.pc + 1, stack := .int (n.toInt32) :: rest }) t → Steps p.tables e below (T.setTop g) t := by
  obtain ⟨cl, A, S, H⟩ := F
  intro t q
  refine X.arraylength hx (by rw [eT]; exact A.1) (State.isArrayOf_alike hZ.alike A.2.1) hg hs hd t ?_
  rw [S]; exact q
theorem aLoadI {w : Nat → Int32} (X : Stand p l e R s m args below meth c T locs cells slots) (hx : p.tables.exec = Jvm.exec) (hZ : Z.Warmed39 s.vm) (eT : T.heap = h) (F : Ary Z h a .int n (fun x => .int (w x))) (q : j.toInt = (i : Int)) (hi : i < n) {g : JFrame} (hg : g.method = m) {rest : List Value} (hs : g.stack = .int j :: .ref a :: rest) (hd : decode c.code g.pc = .ok (.iaload, 1)) :
    ∀ t, Steps p.tables e below (T.setTop { g with pc := g.pc + 1, stack := .int (w i) :: rest }) t → Steps p.tables e below (T.setTop g) t := by
  obtain ⟨cl, A, S, H⟩ := F
  exact X.iaload hx (by rw [eT]; exact A.1) (State.isArrayOf_alike hZ.alike A.2.1) A.2.2 (own_inb S q hi) (by rw [own_clamp q]; exact H i hi) hg hs hd
theorem aLoadJ {w : Nat → Int64} (X : Stand p l e R s m args below meth c T locs cells slots) (hx : p.tables.exec = Jvm.exec) (hZ : Z.Warmed39 s.vm) (eT : T.heap = h) (F : Ary Z h a .long n (fun x => .long (w x))) (q : j.toInt = (i : Int)) (hi : i < n) {g : JFrame} (hg : g.method = m) {rest : List Value} (hs : g.stack = .int j :: .ref a :: rest) (hd : decode c.code g.pc = .ok (.laload, 1)) :
    ∀ t, Steps p.tables e below (T.setTop { g with pc := g.pc + 1, stack := .long (w i) :: rest }) t → Steps p.tables e below (T.setTop g) t := by
  obtain ⟨cl, A, S, H⟩ := F
  exact X.laload hx (by rw [eT]; exact A.1) (State.isArrayOf_alike hZ.alike A.2.1) A.2.2 (own_inb S q hi) (by rw [own_clamp q]; exact H i hi) hg hs hd
theorem aLoadB {w : Nat → Int32} (X : Stand p l e R s m args below meth c T locs cells slots) (hx : p.tables.exec = Jvm.exec) (hZ : Z.Warmed39 s.vm) (eT : T.heap = h) (F : Ary Z h a .byte n (fun x => .int (w x))) (q : j.toInt = (i : Int)) (hi : i < n) {g : JFrame} (hg : g.method = m) {rest : List Value} (hs : g.stack = .int j :: .ref a :: rest) (hd : decode c.code g.pc = .ok (.baload, 1)) :
    ∀ t, Steps p.tables e below (T.setTop { g with pc := g.pc + 1, stack := .int (w i) :: rest }) t → Steps p.tables e below (T.setTop g) t := by
  obtain ⟨cl, A, S, H⟩ := F
  exact X.baloadBytes hx (by rw [eT]; exact A.1) (State.isArrayOf_alike hZ.alike A.2.1) A.2.2 (own_inb S q hi) (by rw [own_clamp q]; exact H i hi) hg hs hd
theorem aStoI (X : Stand p l e R s m args below meth c T locs cells slots) (hx : p.tables.exec = Jvm.exec) (hZ : Z.Warmed39 s.vm) (eT : T.heap = h) (F : Ary Z h a .int n f) {x : Int32} (q : j.toInt = (i : Int)) (hi : i < n) {g : JFrame} (hg : g.method = m) {rest : List Value} (hs : g.stack = .int x :: .int j :: .ref a :: rest) (hd : decode c.code g.pc = .ok (.iastore, 1)) :
    ∃ T' h', Stand p l e R s m args below meth c T' (locs ++ [⟨a, j.toNatClampNeg⟩]) cells slots ∧ T'.heap = h' ∧ Wr h h' a j.toNatClampNeg (.int x) ∧ Ary Z h' a .int n (fun y => if y = i then .int x else f y) ∧ ∀ t, Steps p.tables e below (T'.setTop { g with pc := g.pc + 1, stack := rest }) t → Steps p.tables e below (T.setTop g) t := by
  obtain ⟨cl, A, S, H⟩ := id F
  obtain ⟨T', h', X', e', W, st⟩ := stI X hx hZ eT A (own_inb S q hi) hg hs hd
  exact ⟨T', h', X', e', W, F.set W q hi, st⟩
theorem aStoJ (X : Stand p l e R s m args below meth c T locs cells slots) (hx : p.tables.exec = Jvm.exec) (hZ : Z.Warmed39 s.vm) (eT : T.heap = h) (F : Ary Z h a .long n f) {x : Int64} (q : j.toInt = (i : Int)) (hi : i < n) {g : JFrame} (hg : g.method = m) {rest : List Value} (hs : g.stack = .long x :: .int j :: .ref a :: rest) (hd : decode c.code g.pc = .ok (.lastore, 1)) :
    ∃ T' h', Stand p l e R s m args below meth c T' (locs ++ [⟨a, j.toNatClampNeg⟩]) cells slots ∧ T'.heap = h' ∧ Wr h h' a j.toNatClampNeg (.long x) ∧ Ary Z h' a .long n (fun y => if y = i then .long x else f y) ∧ ∀ t, Steps p.tables e below (T'.setTop { g with pc := g.pc + 1, stack := rest }) t → Steps p.tables e below (T.setTop g) t := by
  obtain ⟨cl, A, S, H⟩ := id F
  obtain ⟨T', h', X', e', W, st⟩ := stJ X hx hZ eT A (own_inb S q hi) hg hs hd
  exact ⟨T', h', X', e', W, F.set W q hi, st⟩
theorem aStoB (X : Stand p l e R s m args below meth c T locs cells slots) (hx : p.tables.exec = Jvm.exec) (hZ : Z.Warmed39 s.vm) (eT : T.heap = h) (F : Ary Z h a .byte n f) {x : Int32} (q : j.toInt = (i : Int)) (hi : i < n) {g : JFrame} (hg : g.method = m) {rest : List Value} (hs : g.stack = .int x :: .int j :: .ref a :: rest) (hd : decode c.code g.pc = .ok (.bastore, 1)) :
    ∃ T' h', Stand p l e R s m args below meth c T' (locs ++ [⟨a, j.toNatClampNeg⟩]) cells slots ∧ T'.heap = h' ∧ Wr h h' a j.toNatClampNeg (.int (nar .byte x)) ∧ Ary Z h' a .byte n (fun y => if y = i then .int (nar .byte x) else f y) ∧ ∀ t, Steps p.tables e below (T'.setTop { g with pc := g.pc + 1, stack := rest }) t → Steps p.tables e below (T.setTop g) t := by
  obtain ⟨cl, A, S, H⟩ := id F
  obtain ⟨T', h', X', e', W, st⟩ := stB X hx hZ eT A (own_inb S q hi) hg hs hd
  exact ⟨T', h', X', e', W, F.set W q hi, st⟩
theorem aCloneI {w : Nat → Int32} {a0 : Array Value} {own : String} {index : Nat} (X : Stand p l e R s m args below meth c T locs cells slots) (hx : p.tables.exec = Jvm.exec) (hZ : Z.Warmed39 s.vm) (hown : s.vm.findClass own = some m.cls)
    (w1 : (Jvm.Cond.methodLink own index ⟨"[I", "clone", "()Ljava/lang/Object;"⟩).before a0 Z = true) (w2 : (Jvm.Cond.sameMethod "[I" "java/lang/Object" "clone" "()Ljava/lang/Object;").before a0 Z = true) (w3 : (Jvm.Cond.native ⟨"java/lang/Object", "clone", "()Ljava/lang/Object;"⟩).before a0 Z = true)
    (w4 : (Jvm.Cond.instanceMethod ⟨"java/lang/Object", "clone", "()Ljava/lang/Object;"⟩).before a0 Z = true) (w5 : (Jvm.Cond.selects "[I" ⟨"[I", "clone", "()Ljava/lang/Object;"⟩ ⟨"java/lang/Object", "clone", "()Ljava/lang/Object;"⟩).before a0 Z = true) (w6 : (Jvm.Cond.castable "[I" "java/lang/Cloneable").before a0 Z = true)
    (eT : T.heap = h) (F : Ary Z h a .int n (fun x => .int (w x))) (E : Exa Z h a "[I") {g : JFrame} (hg : g.method = m) (hsize : g.locals.size = c.maxLocals) {rest : List Value} (hs : g.stack = .ref a :: rest) (hd : decode c.code g.pc = .ok (.invokevirtual index, 3))
    (hf : 1 ≤ R.frames) {W cap : Nat} (hW : 2 * g.monitorRoom + (rest.map fun v => v.category).sum ≤ W) (hl : W + 14 ≤ R.locals) (hcap : n ≤ cap) (hc : cells + 1 ≤ R.cells) (hsl : slots + cap ≤ R.slots) :
    ∃ T' h', Stand p l e R s m args below meth c T' locs (cells + 1) (slots + cap) ∧ T'.heap = h' ∧ Ext h h' ∧ Ary Z h' h.size .int n (fun x => .int (w x)) ∧ Exa Z h' h.size "[I" ∧
      ∀ t, Steps p.tables e below (T'.setTop { g with pc := g.pc + 3, stack := .ref h.size :: rest }) t → Steps p.tables e below (T.setTop g) t := by
  obtain ⟨cl, A, S, H⟩ := F
  have FC : FitC Z cl := fitC_of A fun i hi v hv => by rw [H i (by rw [← S]; exact hi)] at hv; cases hv; rfl
  obtain ⟨T', h', X', e', ex, A', E', st⟩ := cloneA X hx hZ hown w1 w2 w3 w4 w5 w6 eT A E FC hg hsize hs hd hf hW hl (by rw [S]; exact hcap) hc hsl
  exact ⟨T', h', X', e', ex, ⟨cloneOf cl, A', S, H⟩, E', st⟩
end OwnAry
/-! THE WIDE END: a walk that may load a String constant cold -/
def DnW (p : Program) (e : Env) (below : List Frame) (s : State) (Q : Option Value → Heap → List Loc → Prop) (k n : Nat) (T : State) (g : JFrame) : Prop :=
  ∃ s₂ o, Steps p.tables e below (T.setTop g) s₂ ∧ s₂.status = .running ∧ Ended s₂ below o ∧ ∃ v L, o = .returned v ∧ Q v s₂.heap L ∧ ReturnedEndW s o s₂ L k n
section OwnWide
variable {p : Program} {l : Launch} {e : Env} {R : Room} {s : State} {m : MethodId} {args a0 : Array Value} {below : List Frame} {meth : Method} {c : Code} {T T' : State} {locs : List Loc} {cells slots : Nat} {Z : State} {h h' : Heap} {g g' : JFrame} {k n : Nat} {vm0 : Vm} {EL : List (String × Nat)} {Q : Option Value → Heap → List Loc → Prop}
theorem DnW.st (f : ∀ t, Steps p.tables e below (T'.setTop g') t → Steps p.tables e below (T.setTop g) t) (d : DnW p e below s Q k n T' g') : DnW p e below s Q k n T g := by
  obtain ⟨s₂, o, h1, h2⟩ := d
  exact ⟨s₂, o, f _ h1, h2⟩
theorem DnW.tr (f : Steps p.tables e below (T.setTop g) (T'.setTop g')) (d : DnW p e below s Q k n T' g') : DnW p e below s Q k n T g := by
  obtain ⟨s₂, o, h1, h2⟩ := d
  exact ⟨s₂, o, f.trans h1, h2⟩
theorem DnW.of (d : Dn p e below s Q k n T g) : DnW p e below s Q k n T g := by
  obtain ⟨s₂, o, h1, h2, h3, v, L, h4, h5, h6⟩ := d
  exact ⟨s₂, o, h1, h2, h3, v, L, h4, h5, ReturnedEndW.of_narrow h6.1 h6.2.1 h6.2.2⟩
theorem DnW.reb {vm₁ : Vm} {n₁ : Nat} (hS : s.Since vm₁ n₁) (d : Dn p e below (s.setVm vm₁) (fun v h L => Q v h L ∧ n₁ ≤ h.size) k n T g) : DnW p e below s Q k n T g := by
  obtain ⟨s₂, o, h1, h2, h3, v, L, h4, h5, h6⟩ := d
  obtain ⟨a, b, c'⟩ := hS.ended (U := s₂) h6.2.1 h5.2 h6.2.2
  exact ⟨s₂, o, h1, h2, h3, v, L, h4, h5.1, ⟨v, h4⟩, a, b, c'⟩
theorem own_backS {y : MethodName} {bytes : ByteArray} {maxL : Nat} {ret : Option FieldType} {rm : Room} {len W : Nat} {as' : Array Value}
    (hM : MetFree l y (head1 [Cond.code y bytes maxL ret] rm) (fun a U => a = as' ∧ Z.Warmed39 U.vm ∧ U.heap = h ∧ CHv Z EL U.vm h) (fun _ _ _ _ _ => True) (fun _ U o U' => ∃ v L, o = .returned v ∧ Q v U'.heap L ∧ ReturnedEndW U o U' L rm.cells rm.slots))
    (hZ : Z.Warmed39 vm0) (wc : (Cond.code y bytes maxL ret).before a0 Z = true) (wz : (Cond.initialized y.cls).before a0 Z = true) (hf : rm.frames + 1 ≤ R.frames) (hl : W + (maxL + 11) + rm.locals ≤ R.locals) (hEL : EW Z a0 EL) (H : CHv Z EL vm0 h) :
    BackS l R p e below (s.setVm vm0) args y len W (fun A a => a = as' ∧ A.U.heap = h ∧ A.cells + rm.cells ≤ R.cells ∧ A.slots + rm.slots ≤ R.slots)
      (fun A _ v B => ∃ L, Q v B.U.heap L ∧ B.locs = A.locs ++ L ∧ B.cells = A.cells + rm.cells ∧ B.slots = A.slots + rm.slots) :=
  BackS.of_freeW (bytes := bytes) (maxL := maxL) (ret := ret) (E := fun _ _ o t L k n => k = rm.cells ∧ n = rm.slots ∧ ∃ v, o = .returned v ∧ Q v t.heap L) hM hf hl
    (fun m meth c A a Y hp => have hU : Z.Warmed39 A.U.vm := wtrans (s := s.setVm vm0) hZ Y.warmed
      ⟨by show (Cond.and _ .tt).before a A.U = true; rw [Cond.before_and, mv hU wc]; rfl, mv hU wc, mv hU wz, hp.2.2.1, hp.2.2.2⟩)
    (fun m meth c A a g mk Y hp => ⟨hp.1, wtrans (s := s.setVm vm0) hZ Y.warmed, hp.2.1, (CHv.at Y hZ hEL H).1⟩) (fun _ _ _ _ _ _ _ _ _ => trivial)
    (fun _ _ _ _ ⟨v, L, h1, h2, h3⟩ => ⟨L, _, _, h3, rfl, rfl, v, h1, h2⟩)
    (fun m meth c A a g mk v t L k n Y hp _ _ ⟨e1, e2, v', e3, e4⟩ => by cases e3; subst e1 e2; exact ⟨L, e4, rfl, rfl, rfl⟩)
theorem Ary.of_arv {a : Addr} {ty : FieldType} {k : ClassId} {z : Int32} {vs : List Value} {d : Value} {f : Nat → Value} (A : Arv Z h a k ty z vs d) (hz : z.toNatClampNeg = n) (hf : ∀ j, j < n → vs.getD j d = f j) : Ary Z h a ty n f := by
  obtain ⟨c, A, -, S, -, H, -⟩ := A
  refine ⟨c, A, S.trans hz, fun j hj => ?_⟩
  rw [H j (by rw [S, hz]; exact hj), hf j hj]
end OwnWide
abbrev own_EL : List (String × Nat) := [("com/example/lyrebird/lyrebird/core/header/HeaderSyntax", (27 : Nat))]
def own_txt : String := "!#$%&'*+-.^_`|~"
def own_bytes : List Int32 := [33, 35, 36, 37, 38, 39, 42, 43, 45, 46, 94, 95, 96, 124, 126]
def own_f (j : Nat) : Int32 := own_bytes.getD j 0
def own_scan (b : Int32) : Nat → Nat → Int32
  | _, 0 => -1
  | j, r + 1 => if own_f j = b then Int32.ofNat j else own_scan b (j + 1) r
theorem own_vs {vs : List Value} (h : ("!#$%&'*+-.^_`|~" : String).toList.map (fun c => Value.int (Jvm.Lit.byteI c.toNat.toUInt16)) = vs) : ∀ j, j < 15 → vs.getD j (.int 0) = .int (own_f j) := by
  subst h
  intro j hj
  have q : j = 0 ∨ j = 1 ∨ j = 2 ∨ j = 3 ∨ j = 4 ∨ j = 5 ∨ j = 6 ∨ j = 7 ∨ j = 8 ∨ j = 9 ∨ j = 10 ∨ j = 11 ∨ j = 12 ∨ j = 13 ∨ j = 14 := by omega
  rcases q with rfl | rfl | rfl | rfl | rfl | rfl | rfl | rfl | rfl | rfl | rfl | rfl | rfl | rfl | rfl <;> rfl
theorem own_ix {x k : Int32} {o i : Nat} (hx : x.toInt = (o : Int)) (hk : k.toInt = (i : Int)) (hb : o + i < 2147483648) : (x + k).toInt = ((o + i : Nat) : Int) := by
  rw [Jvm.Kit.i32_add (by omega) (by omega), hx, hk]; omega
theorem own_lt {x y : Int32} {i j : Nat} (hx : x.toInt = (i : Int)) (hy : y.toInt = (j : Int)) (h : i < j) : x < y := by rw [Int32.lt_iff_toInt_lt]; omega
theorem own_nlt {x y : Int32} {i j : Nat} (hx : x.toInt = (i : Int)) (hy : y.toInt = (j : Int)) (h : ¬ (i < j)) : ¬ (x < y) := by rw [Int32.lt_iff_toInt_lt]; omega
theorem own_ofNat {x : Int32} {n : Nat} (h : x.toInt = (n : Int)) : x = Int32.ofNat n := by
  have hn : n < 2 ^ 31 := by have := x.toInt_lt; omega
  exact Int32.toInt_inj.mp (h.trans (Int32.toInt_ofNat_of_lt hn).symm)
theorem d8_0 : decode jdk_43_method_4_code 0 = .ok (.iload_n 0, 1) := by decide +kernel
theorem d8_1 : decode jdk_43_method_4_code 1 = .ok (.ifCond .lt 14, 3) := by decide +kernel
theorem d8_15 : decode jdk_43_method_4_code 15 = .ok (.iconst 0, 1) := by decide +kernel
theorem d8_4 : decode jdk_43_method_4_code 4 = .ok (.iload_n 0, 1) := by decide +kernel
theorem d8_5 : decode jdk_43_method_4_code 5 = .ok (.sipush 255, 3) := by decide +kernel
theorem d8_8 : decode jdk_43_method_4_code 8 = .ok (.if_icmp .gt 7, 3) := by decide +kernel
theorem d8_11 : decode jdk_43_method_4_code 11 = .ok (.iconst 1, 1) := by decide +kernel
theorem d8_12 : decode jdk_43_method_4_code 12 = .ok (.goto 4, 3) := by decide +kernel
def own_can (x1 : Int32) : Int32 := (if x1 < (0 : Int32) then (0 : Int32) else (if (255 : Int32) < x1 then (0 : Int32) else (1 : Int32)))
theorem d8_16 : decode jdk_43_method_4_code 16 = .ok (.ireturn, 1) := by decide +kernel
theorem pn_0 : plainName "java/lang/StringLatin1" = true := by first | (simp [plainName, overriddenIn]; done) | decide +kernel
theorem ef_rm8 (m : MethodId) (x0 : Int32) : entryFrame m #[(.int x0)] 1 = mkF m 0 #[.val (.int x0)] [] := by first | (simp [entryFrame, mkF, argsToLocals, Value.category]; done) | rfl
def Q8 (Z : State) (x1 : Int32) (h0 : Heap) (n0 : Nat) (v : Option Value) (h : Heap) (L : List Loc) : Prop := v = some (.int (own_can x1)) ∧ Fr n0 L ∧ h = h0
set_option maxRecDepth 65536 in
set_option maxHeartbeats 40000000 in
theorem rm8 (l : Launch) (Z : State) (a0 : Array Value) (hw : ∀ d ∈ tables_1, d.before a0 Z = true) (ws : List Jvm.Cond) (x1 : Int32) (h0 : Heap) (n0 : Nat) (Z0 : n0 ≤ h0.size) :
    MetFree l (⟨"java/lang/StringLatin1", "canEncode", "(I)Z"⟩ : MethodName) (head1 (Jvm.Cond.code (⟨"java/lang/StringLatin1", "canEncode", "(I)Z"⟩ : MethodName) jdk_43_method_4_code 1 (some .boolean) :: ws) ({ frames := 0, cells := 0, slots := 0, locals := 0 } : Room)) (fun a U => a = #[(.int x1)] ∧ Z.Warmed39 U.vm ∧ U.heap = h0) (fun _ _ _ _ _ => True) (fun _ U o U' => ∃ v L, o = .returned v ∧ Q8 Z x1 h0 n0 v U'.heap L ∧ FrameEnd U o U' L ({ frames := 0, cells := 0, slots := 0, locals := 0 } : Room).cells ({ frames := 0, cells := 0, slots := 0, locals := 0 } : Room).slots) := by
  refine MetFree.of_bodySF (plainFor_of_name pn_0) hisR ?_
  intro p e s m args below meth c s₁ Bd hml0 hP hK
  obtain ⟨rfl, hZ, hh⟩ := hP
  have hx := Bd.exec
  have hby := Bd.bytes
  have hml : c.maxLocals = 1 := hml0
  have hown : s.vm.findClass "java/lang/StringLatin1" = some m.cls := findClass_of_methodNamed Bd.named
  have hnm := (name_of_methodNamed Bd.named Bd.method).1
  have X0 : Stand p l e ({ frames := 0, cells := 0, slots := 0, locals := 0 } : Room) s m #[(.int x1)] below meth c s₁ [] 0 0 := Stand.of_body Bd
  have e0 : s₁.heap = h0 := by rw [← hh, Bd.state]; rfl
  have N0 := Fr.nil n0
  have K0 := Keep.refl h0 []
  suffices hD : Dn p e below s (Q8 Z x1 h0 n0) ({ frames := 0, cells := 0, slots := 0, locals := 0 } : Room).cells ({ frames := 0, cells := 0, slots := 0, locals := 0 } : Room).slots s₁ (mkF m 0 #[.val (.int x1)] []) from by
    obtain ⟨s₂, o, q1, q2⟩ := hD
    exact ⟨s₂, o, castTop (ef_rm8 m x1) q1, q2⟩
  refine Dn.st (fun t q => XS.iloadN X0.here hx rfl (hb hby d8_0) rfl  q) ?_
  show Dn p e below s _ _ _ s₁ (mkF m 1 #[.val (.int x1)] [(.int x1)])
  by_cases c1 : x1 < (0 : Int32)
  · refine Dn.st (fun t q => XS.ifYes X0.here hx rfl (pc0 := 1) (pc' := 15) rfl (hb hby d8_1) rfl ((if0 _ _).trans (tlt c1).1) (by decide) (by decide) q) ?_
    show Dn p e below s _ _ _ s₁ (mkF m 15 #[.val (.int x1)] [])
    refine Dn.st (fun t q => XS.iconst X0.here hx rfl (hb hby d8_15) q) ?_
    show Dn p e below s _ _ _ s₁ (mkF m 16 #[.val (.int x1)] [(.int (0 : Int32))])
    exact Dn.retZ X0 hx Bd.notSynchronized (t := .boolean) Bd.returns (by simp) (hb hby d8_16) (by rw [e0]; exact ⟨by show some (Value.int (0 : Int32)) = some (Value.int (own_can x1)); rw [own_can, if_pos c1], N0, rfl⟩) (by decide) (by decide)
  · refine Dn.st (fun t q => XS.ifNo X0.here hx rfl (hb hby d8_1) rfl ((if0 _ _).trans (flt c1).1) q) ?_
    show Dn p e below s _ _ _ s₁ (mkF m 4 #[.val (.int x1)] [])
    refine Dn.st (fun t q => XS.iloadN X0.here hx rfl (hb hby d8_4) rfl  q) ?_
    show Dn p e below s _ _ _ s₁ (mkF m 5 #[.val (.int x1)] [(.int x1)])
    refine Dn.st (fun t q => XS.sipush X0.here hx rfl (hb hby d8_5) q) ?_
    show Dn p e below s _ _ _ s₁ (mkF m 8 #[.val (.int x1)] [(.int (255 : Int32)), (.int x1)])
    by_cases c2 : (255 : Int32) < x1
    · refine Dn.st (fun t q => XS.icmpYes X0.here hx rfl (pc0 := 8) (pc' := 15) rfl (hb hby d8_8) rfl (tlt c2).2.2.1 (by decide) (by decide) q) ?_
      show Dn p e below s _ _ _ s₁ (mkF m 15 #[.val (.int x1)] [])
      refine Dn.st (fun t q => XS.iconst X0.here hx rfl (hb hby d8_15) q) ?_
      show Dn p e below s _ _ _ s₁ (mkF m 16 #[.val (.int x1)] [(.int (0 : Int32))])
      exact Dn.retZ X0 hx Bd.notSynchronized (t := .boolean) Bd.returns (by simp) (hb hby d8_16) (by rw [e0]; exact ⟨by show some (Value.int (0 : Int32)) = some (Value.int (own_can x1)); rw [own_can, if_neg c1, if_pos c2], N0, rfl⟩) (by decide) (by decide)
    · refine Dn.st (fun t q => XS.icmpNo X0.here hx rfl (hb hby d8_8) rfl (flt c2).2.2.1 q) ?_
      show Dn p e below s _ _ _ s₁ (mkF m 11 #[.val (.int x1)] [])
      refine Dn.st (fun t q => XS.iconst X0.here hx rfl (hb hby d8_11) q) ?_
      show Dn p e below s _ _ _ s₁ (mkF m 12 #[.val (.int x1)] [(.int (1 : Int32))])
      refine Dn.st (fun t q => XS.goto X0.here hx rfl (pc0 := 12) (pc' := 16) rfl (hb hby d8_12) (by decide) (by decide) q) ?_
      show Dn p e below s _ _ _ s₁ (mkF m 16 #[.val (.int x1)] [(.int (1 : Int32))])
      exact Dn.retZ X0 hx Bd.notSynchronized (t := .boolean) Bd.returns (by simp) (hb hby d8_16) (by rw [e0]; exact ⟨by show some (Value.int (1 : Int32)) = some (Value.int (own_can x1)); rw [own_can, if_neg c1, if_neg c2], N0, rfl⟩) (by decide) (by decide)
theorem d9_0 : decode jdk_29_method_65_code 0 = .ok (.iload_n 0, 1) := by decide +kernel
theorem d9_1 : decode jdk_29_method_65_code 1 = .ok (.iload_n 1, 1) := by decide +kernel
theorem d9_2 : decode jdk_29_method_65_code 2 = .ok (.if_icmp .lt 7, 3) := by decide +kernel
theorem d9_9 : decode jdk_29_method_65_code 9 = .ok (.iload_n 1, 1) := by decide +kernel
theorem d9_5 : decode jdk_29_method_65_code 5 = .ok (.iload_n 0, 1) := by decide +kernel
theorem d9_6 : decode jdk_29_method_65_code 6 = .ok (.goto 4, 3) := by decide +kernel
def own_max (x1 : Int32) (x2 : Int32) : Int32 := (if x1 < x2 then x2 else x1)
theorem d9_10 : decode jdk_29_method_65_code 10 = .ok (.ireturn, 1) := by decide +kernel
theorem ef_rm9 (m : MethodId) (x0 : Int32) (x1 : Int32) : entryFrame m #[(.int x0), (.int x1)] 2 = mkF m 0 #[.val (.int x0), .val (.int x1)] [] := by first | (simp [entryFrame, mkF, argsToLocals, Value.category]; done) | rfl
def Q9 (Z : State) (x1 : Int32) (x2 : Int32) (h0 : Heap) (n0 : Nat) (v : Option Value) (h : Heap) (L : List Loc) : Prop := v = some (.int (own_max x1 x2)) ∧ Fr n0 L ∧ h = h0
set_option maxRecDepth 65536 in
set_option maxHeartbeats 40000000 in
theorem rm9 (l : Launch) (Z : State) (a0 : Array Value) (hw : ∀ d ∈ tables_1, d.before a0 Z = true) (ws : List Jvm.Cond) (x1 : Int32) (x2 : Int32) (h0 : Heap) (n0 : Nat) (Z0 : n0 ≤ h0.size) :
    MetFree l (⟨"java/lang/Math", "max", "(II)I"⟩ : MethodName) (head1 (Jvm.Cond.code (⟨"java/lang/Math", "max", "(II)I"⟩ : MethodName) jdk_29_method_65_code 2 (some .int) :: ws) ({ frames := 0, cells := 0, slots := 0, locals := 0 } : Room)) (fun a U => a = #[(.int x1), (.int x2)] ∧ Z.Warmed39 U.vm ∧ U.heap = h0) (fun _ _ _ _ _ => True) (fun _ U o U' => ∃ v L, o = .returned v ∧ Q9 Z x1 x2 h0 n0 v U'.heap L ∧ FrameEnd U o U' L ({ frames := 0, cells := 0, slots := 0, locals := 0 } : Room).cells ({ frames := 0, cells := 0, slots := 0, locals := 0 } : Room).slots) := by
  refine MetFree.of_bodySF (Jvm.Free.JP.mathPlain rfl (by decide +kernel)) hisR ?_
  intro p e s m args below meth c s₁ Bd hml0 hP hK
  obtain ⟨rfl, hZ, hh⟩ := hP
  have hx := Bd.exec
  have hby := Bd.bytes
  have hml : c.maxLocals = 2 := hml0
  have hown : s.vm.findClass "java/lang/Math" = some m.cls := findClass_of_methodNamed Bd.named
  have hnm := (name_of_methodNamed Bd.named Bd.method).1
  have X0 : Stand p l e ({ frames := 0, cells := 0, slots := 0, locals := 0 } : Room) s m #[(.int x1), (.int x2)] below meth c s₁ [] 0 0 := Stand.of_body Bd
  have e0 : s₁.heap = h0 := by rw [← hh, Bd.state]; rfl
  have N0 := Fr.nil n0
  have K0 := Keep.refl h0 []
  suffices hD : Dn p e below s (Q9 Z x1 x2 h0 n0) ({ frames := 0, cells := 0, slots := 0, locals := 0 } : Room).cells ({ frames := 0, cells := 0, slots := 0, locals := 0 } : Room).slots s₁ (mkF m 0 #[.val (.int x1), .val (.int x2)] []) from by
    obtain ⟨s₂, o, q1, q2⟩ := hD
    exact ⟨s₂, o, castTop (ef_rm9 m x1 x2) q1, q2⟩
  refine Dn.st (fun t q => XS.iloadN X0.here hx rfl (hb hby d9_0) rfl  q) ?_
  show Dn p e below s _ _ _ s₁ (mkF m 1 #[.val (.int x1), .val (.int x2)] [(.int x1)])
  refine Dn.st (fun t q => XS.iloadN X0.here hx rfl (hb hby d9_1) rfl  q) ?_
  show Dn p e below s _ _ _ s₁ (mkF m 2 #[.val (.int x1), .val (.int x2)] [(.int x2), (.int x1)])
  by_cases c1 : x1 < x2
  · refine Dn.st (fun t q => XS.icmpYes X0.here hx rfl (pc0 := 2) (pc' := 9) rfl (hb hby d9_2) rfl (tlt c1).1 (by decide) (by decide) q) ?_
    show Dn p e below s _ _ _ s₁ (mkF m 9 #[.val (.int x1), .val (.int x2)] [])
    refine Dn.st (fun t q => XS.iloadN X0.here hx rfl (hb hby d9_9) rfl  q) ?_
    show Dn p e below s _ _ _ s₁ (mkF m 10 #[.val (.int x1), .val (.int x2)] [(.int x2)])
    exact Dn.retI X0 hx Bd.notSynchronized Bd.returns (hb hby d9_10) (by rw [e0]; exact ⟨by show some (Value.int x2) = some (Value.int (own_max x1 x2)); rw [own_max, if_pos c1], N0, rfl⟩) (by decide) (by decide)
  · refine Dn.st (fun t q => XS.icmpNo X0.here hx rfl (hb hby d9_2) rfl (flt c1).1 q) ?_
    show Dn p e below s _ _ _ s₁ (mkF m 5 #[.val (.int x1), .val (.int x2)] [])
    refine Dn.st (fun t q => XS.iloadN X0.here hx rfl (hb hby d9_5) rfl  q) ?_
    show Dn p e below s _ _ _ s₁ (mkF m 6 #[.val (.int x1), .val (.int x2)] [(.int x1)])
    refine Dn.st (fun t q => XS.goto X0.here hx rfl (pc0 := 6) (pc' := 10) rfl (hb hby d9_6) (by decide) (by decide) q) ?_
    show Dn p e below s _ _ _ s₁ (mkF m 10 #[.val (.int x1), .val (.int x2)] [(.int x1)])
    exact Dn.retI X0 hx Bd.notSynchronized Bd.returns (hb hby d9_10) (by rw [e0]; exact ⟨by show some (Value.int x1) = some (Value.int (own_max x1 x2)); rw [own_max, if_neg c1], N0, rfl⟩) (by decide) (by decide)
theorem d10_0 : decode jdk_29_method_69_code 0 = .ok (.iload_n 0, 1) := by decide +kernel
theorem d10_1 : decode jdk_29_method_69_code 1 = .ok (.iload_n 1, 1) := by decide +kernel
theorem d10_2 : decode jdk_29_method_69_code 2 = .ok (.if_icmp .gt 7, 3) := by decide +kernel
theorem d10_9 : decode jdk_29_method_69_code 9 = .ok (.iload_n 1, 1) := by decide +kernel
theorem d10_5 : decode jdk_29_method_69_code 5 = .ok (.iload_n 0, 1) := by decide +kernel
theorem d10_6 : decode jdk_29_method_69_code 6 = .ok (.goto 4, 3) := by decide +kernel
def own_min (x1 : Int32) (x2 : Int32) : Int32 := (if x2 < x1 then x2 else x1)
theorem d10_10 : decode jdk_29_method_69_code 10 = .ok (.ireturn, 1) := by decide +kernel
theorem ef_rm10 (m : MethodId) (x0 : Int32) (x1 : Int32) : entryFrame m #[(.int x0), (.int x1)] 2 = mkF m 0 #[.val (.int x0), .val (.int x1)] [] := by first | (simp [entryFrame, mkF, argsToLocals, Value.category]; done) | rfl
def Q10 (Z : State) (x1 : Int32) (x2 : Int32) (h0 : Heap) (n0 : Nat) (v : Option Value) (h : Heap) (L : List Loc) : Prop := v = some (.int (own_min x1 x2)) ∧ Fr n0 L ∧ h = h0
set_option maxRecDepth 65536 in
set_option maxHeartbeats 40000000 in
theorem rm10 (l : Launch) (Z : State) (a0 : Array Value) (hw : ∀ d ∈ tables_1, d.before a0 Z = true) (ws : List Jvm.Cond) (x1 : Int32) (x2 : Int32) (h0 : Heap) (n0 : Nat) (Z0 : n0 ≤ h0.size) :
    MetFree l (⟨"java/lang/Math", "min", "(II)I"⟩ : MethodName) (head1 (Jvm.Cond.code (⟨"java/lang/Math", "min", "(II)I"⟩ : MethodName) jdk_29_method_69_code 2 (some .int) :: ws) ({ frames := 0, cells := 0, slots := 0, locals := 0 } : Room)) (fun a U => a = #[(.int x1), (.int x2)] ∧ Z.Warmed39 U.vm ∧ U.heap = h0) (fun _ _ _ _ _ => True) (fun _ U o U' => ∃ v L, o = .returned v ∧ Q10 Z x1 x2 h0 n0 v U'.heap L ∧ FrameEnd U o U' L ({ frames := 0, cells := 0, slots := 0, locals := 0 } : Room).cells ({ frames := 0, cells := 0, slots := 0, locals := 0 } : Room).slots) := by
  refine MetFree.of_bodySF (Jvm.Free.JP.mathPlain rfl (by decide +kernel)) hisR ?_
  intro p e s m args below meth c s₁ Bd hml0 hP hK
  obtain ⟨rfl, hZ, hh⟩ := hP
  have hx := Bd.exec
  have hby := Bd.bytes
  have hml : c.maxLocals = 2 := hml0
  have hown : s.vm.findClass "java/lang/Math" = some m.cls := findClass_of_methodNamed Bd.named
  have hnm := (name_of_methodNamed Bd.named Bd.method).1
  have X0 : Stand p l e ({ frames := 0, cells := 0, slots := 0, locals := 0 } : Room) s m #[(.int x1), (.int x2)] below meth c s₁ [] 0 0 := Stand.of_body Bd
  have e0 : s₁.heap = h0 := by rw [← hh, Bd.state]; rfl
  have N0 := Fr.nil n0
  have K0 := Keep.refl h0 []
  suffices hD : Dn p e below s (Q10 Z x1 x2 h0 n0) ({ frames := 0, cells := 0, slots := 0, locals := 0 } : Room).cells ({ frames := 0, cells := 0, slots := 0, locals := 0 } : Room).slots s₁ (mkF m 0 #[.val (.int x1), .val (.int x2)] []) from by
    obtain ⟨s₂, o, q1, q2⟩ := hD
    exact ⟨s₂, o, castTop (ef_rm10 m x1 x2) q1, q2⟩
  refine Dn.st (fun t q => XS.iloadN X0.here hx rfl (hb hby d10_0) rfl  q) ?_
  show Dn p e below s _ _ _ s₁ (mkF m 1 #[.val (.int x1), .val (.int x2)] [(.int x1)])
  refine Dn.st (fun t q => XS.iloadN X0.here hx rfl (hb hby d10_1) rfl  q) ?_
  show Dn p e below s _ _ _ s₁ (mkF m 2 #[.val (.int x1), .val (.int x2)] [(.int x2), (.int x1)])
  by_cases c1 : x2 < x1
  · refine Dn.st (fun t q => XS.icmpYes X0.here hx rfl (pc0 := 2) (pc' := 9) rfl (hb hby d10_2) rfl (tlt c1).2.2.1 (by decide) (by decide) q) ?_
    show Dn p e below s _ _ _ s₁ (mkF m 9 #[.val (.int x1), .val (.int x2)] [])
    refine Dn.st (fun t q => XS.iloadN X0.here hx rfl (hb hby d10_9) rfl  q) ?_
    show Dn p e below s _ _ _ s₁ (mkF m 10 #[.val (.int x1), .val (.int x2)] [(.int x2)])
    exact Dn.retI X0 hx Bd.notSynchronized Bd.returns (hb hby d10_10) (by rw [e0]; exact ⟨by show some (Value.int x2) = some (Value.int (own_min x1 x2)); rw [own_min, if_pos c1], N0, rfl⟩) (by decide) (by decide)
  · refine Dn.st (fun t q => XS.icmpNo X0.here hx rfl (hb hby d10_2) rfl (flt c1).2.2.1 q) ?_
    show Dn p e below s _ _ _ s₁ (mkF m 5 #[.val (.int x1), .val (.int x2)] [])
    refine Dn.st (fun t q => XS.iloadN X0.here hx rfl (hb hby d10_5) rfl  q) ?_
    show Dn p e below s _ _ _ s₁ (mkF m 6 #[.val (.int x1), .val (.int x2)] [(.int x1)])
    refine Dn.st (fun t q => XS.goto X0.here hx rfl (pc0 := 6) (pc' := 10) rfl (hb hby d10_6) (by decide) (by decide) q) ?_
    show Dn p e below s _ _ _ s₁ (mkF m 10 #[.val (.int x1), .val (.int x2)] [(.int x1)])
    exact Dn.retI X0 hx Bd.notSynchronized Bd.returns (hb hby d10_10) (by rw [e0]; exact ⟨by show some (Value.int x1) = some (Value.int (own_min x1 x2)); rw [own_min, if_neg c1], N0, rfl⟩) (by decide) (by decide)
theorem d12_0 : decode method_3_code 0 = .ok (.iload_n 0, 1) := by decide +kernel
theorem d12_1 : decode method_3_code 1 = .ok (.bipush 32, 2) := by decide +kernel
theorem d12_3 : decode method_3_code 3 = .ok (.if_icmp .le 9, 3) := by decide +kernel
theorem d12_6 : decode method_3_code 6 = .ok (.iload_n 0, 1) := by decide +kernel
theorem d12_7 : decode method_3_code 7 = .ok (.bipush 127, 2) := by decide +kernel
theorem d12_9 : decode method_3_code 9 = .ok (.if_icmp .lt 5, 3) := by decide +kernel
theorem d12_14 : decode method_3_code 14 = .ok (.iload_n 0, 1) := by decide +kernel
theorem d12_15 : decode method_3_code 15 = .ok (.bipush 34, 2) := by decide +kernel
theorem d12_17 : decode method_3_code 17 = .ok (.if_icmp .eq 99, 3) := by decide +kernel
theorem d12_116 : decode method_3_code 116 = .ok (.iconst 1, 1) := by decide +kernel
theorem d12_117 : decode method_3_code 117 = .ok (.goto 4, 3) := by decide +kernel
theorem d12_121 : decode method_3_code 121 = .ok (.istore_n 1, 1) := by decide +kernel
theorem d12_122 : decode method_3_code 122 = .ok (.iload_n 1, 1) := by decide +kernel
theorem d12_123 : decode method_3_code 123 = .ok (.ifCond .ne 7, 3) := by decide +kernel
theorem d12_126 : decode method_3_code 126 = .ok (.iconst 1, 1) := by decide +kernel
theorem d12_127 : decode method_3_code 127 = .ok (.goto 4, 3) := by decide +kernel
theorem d12_130 : decode method_3_code 130 = .ok (.iconst 0, 1) := by decide +kernel
theorem d12_20 : decode method_3_code 20 = .ok (.iload_n 0, 1) := by decide +kernel
theorem d12_21 : decode method_3_code 21 = .ok (.bipush 40, 2) := by decide +kernel
theorem d12_23 : decode method_3_code 23 = .ok (.if_icmp .eq 93, 3) := by decide +kernel
theorem d12_26 : decode method_3_code 26 = .ok (.iload_n 0, 1) := by decide +kernel
theorem d12_27 : decode method_3_code 27 = .ok (.bipush 41, 2) := by decide +kernel
theorem d12_29 : decode method_3_code 29 = .ok (.if_icmp .eq 87, 3) := by decide +kernel
theorem d12_32 : decode method_3_code 32 = .ok (.iload_n 0, 1) := by decide +kernel
theorem d12_33 : decode method_3_code 33 = .ok (.bipush 44, 2) := by decide +kernel
theorem d12_35 : decode method_3_code 35 = .ok (.if_icmp .eq 81, 3) := by decide +kernel
theorem d12_38 : decode method_3_code 38 = .ok (.iload_n 0, 1) := by decide +kernel
theorem d12_39 : decode method_3_code 39 = .ok (.bipush 47, 2) := by decide +kernel
theorem d12_41 : decode method_3_code 41 = .ok (.if_icmp .eq 75, 3) := by decide +kernel
theorem d12_44 : decode method_3_code 44 = .ok (.iload_n 0, 1) := by decide +kernel
theorem d12_45 : decode method_3_code 45 = .ok (.bipush 58, 2) := by decide +kernel
theorem d12_47 : decode method_3_code 47 = .ok (.if_icmp .eq 69, 3) := by decide +kernel
theorem d12_50 : decode method_3_code 50 = .ok (.iload_n 0, 1) := by decide +kernel
theorem d12_51 : decode method_3_code 51 = .ok (.bipush 59, 2) := by decide +kernel
theorem d12_53 : decode method_3_code 53 = .ok (.if_icmp .eq 63, 3) := by decide +kernel
theorem d12_56 : decode method_3_code 56 = .ok (.iload_n 0, 1) := by decide +kernel
theorem d12_57 : decode method_3_code 57 = .ok (.bipush 60, 2) := by decide +kernel
theorem d12_59 : decode method_3_code 59 = .ok (.if_icmp .eq 57, 3) := by decide +kernel
theorem d12_62 : decode method_3_code 62 = .ok (.iload_n 0, 1) := by decide +kernel
theorem d12_63 : decode method_3_code 63 = .ok (.bipush 61, 2) := by decide +kernel
theorem d12_65 : decode method_3_code 65 = .ok (.if_icmp .eq 51, 3) := by decide +kernel
theorem d12_68 : decode method_3_code 68 = .ok (.iload_n 0, 1) := by decide +kernel
theorem d12_69 : decode method_3_code 69 = .ok (.bipush 62, 2) := by decide +kernel
theorem d12_71 : decode method_3_code 71 = .ok (.if_icmp .eq 45, 3) := by decide +kernel
theorem d12_74 : decode method_3_code 74 = .ok (.iload_n 0, 1) := by decide +kernel
theorem d12_75 : decode method_3_code 75 = .ok (.bipush 63, 2) := by decide +kernel
theorem d12_77 : decode method_3_code 77 = .ok (.if_icmp .eq 39, 3) := by decide +kernel
theorem d12_80 : decode method_3_code 80 = .ok (.iload_n 0, 1) := by decide +kernel
theorem d12_81 : decode method_3_code 81 = .ok (.bipush 64, 2) := by decide +kernel
theorem d12_83 : decode method_3_code 83 = .ok (.if_icmp .eq 33, 3) := by decide +kernel
theorem d12_86 : decode method_3_code 86 = .ok (.iload_n 0, 1) := by decide +kernel
theorem d12_87 : decode method_3_code 87 = .ok (.bipush 91, 2) := by decide +kernel
theorem d12_89 : decode method_3_code 89 = .ok (.if_icmp .eq 27, 3) := by decide +kernel
theorem d12_92 : decode method_3_code 92 = .ok (.iload_n 0, 1) := by decide +kernel
theorem d12_93 : decode method_3_code 93 = .ok (.bipush 92, 2) := by decide +kernel
theorem d12_95 : decode method_3_code 95 = .ok (.if_icmp .eq 21, 3) := by decide +kernel
theorem d12_98 : decode method_3_code 98 = .ok (.iload_n 0, 1) := by decide +kernel
theorem d12_99 : decode method_3_code 99 = .ok (.bipush 93, 2) := by decide +kernel
theorem d12_101 : decode method_3_code 101 = .ok (.if_icmp .eq 15, 3) := by decide +kernel
theorem d12_104 : decode method_3_code 104 = .ok (.iload_n 0, 1) := by decide +kernel
theorem d12_105 : decode method_3_code 105 = .ok (.bipush 123, 2) := by decide +kernel
theorem d12_107 : decode method_3_code 107 = .ok (.if_icmp .eq 9, 3) := by decide +kernel
theorem d12_110 : decode method_3_code 110 = .ok (.iload_n 0, 1) := by decide +kernel
theorem d12_111 : decode method_3_code 111 = .ok (.bipush 125, 2) := by decide +kernel
theorem d12_113 : decode method_3_code 113 = .ok (.if_icmp .ne 7, 3) := by decide +kernel
theorem d12_120 : decode method_3_code 120 = .ok (.iconst 0, 1) := by decide +kernel
theorem d12_12 : decode method_3_code 12 = .ok (.iconst 0, 1) := by decide +kernel
def own_exp (x1 : Int32) : Int32 := (if (32 : Int32) < x1 then (if x1 < (127 : Int32) then (if x1 = (34 : Int32) then (if (1 : Int32) = (0 : Int32) then (1 : Int32) else (0 : Int32)) else (if x1 = (40 : Int32) then (if (1 : Int32) = (0 : Int32) then (1 : Int32) else (0 : Int32)) else (if x1 = (41 : Int32) then (if (1 : Int32) = (0 : Int32) then (1 : Int32) else (0 : Int32)) else (if x1 = (44 : Int32) then (if (1 : Int32) = (0 : Int32) then (1 : Int32) else (0 : Int32)) else (if x1 = (47 : Int32) then (if (1 : Int32) = (0 : Int32) then (1 : Int32) else (0 : Int32)) else (if x1 = (58 : Int32) then (if (1 : Int32) = (0 : Int32) then (1 : Int32) else (0 : Int32)) else (if x1 = (59 : Int32) then (if (1 : Int32) = (0 : Int32) then (1 : Int32) else (0 : Int32)) else (if x1 = (60 : Int32) then (if (1 : Int32) = (0 : Int32) then (1 : Int32) else (0 : Int32)) else (if x1 = (61 : Int32) then (if (1 : Int32) = (0 : Int32) then (1 : Int32) else (0 : Int32)) else (if x1 = (62 : Int32) then (if (1 : Int32) = (0 : Int32) then (1 : Int32) else (0 : Int32)) else (if x1 = (63 : Int32) then (if (1 : Int32) = (0 : Int32) then (1 : Int32) else (0 : Int32)) else (if x1 = (64 : Int32) then (if (1 : Int32) = (0 : Int32) then (1 : Int32) else (0 : Int32)) else (if x1 = (91 : Int32) then (if (1 : Int32) = (0 : Int32) then (1 : Int32) else (0 : Int32)) else (if x1 = (92 : Int32) then (if (1 : Int32) = (0 : Int32) then (1 : Int32) else (0 : Int32)) else (if x1 = (93 : Int32) then (if (1 : Int32) = (0 : Int32) then (1 : Int32) else (0 : Int32)) else (if x1 = (123 : Int32) then (if (1 : Int32) = (0 : Int32) then (1 : Int32) else (0 : Int32)) else (if x1 = (125 : Int32) then (if (1 : Int32) = (0 : Int32) then (1 : Int32) else (0 : Int32)) else (if (0 : Int32) = (0 : Int32) then (1 : Int32) else (0 : Int32))))))))))))))))))) else (0 : Int32)) else (0 : Int32))
theorem d12_131 : decode method_3_code 131 = .ok (.ireturn, 1) := by decide +kernel
theorem d12_13 : decode method_3_code 13 = .ok (.ireturn, 1) := by decide +kernel
theorem pn_1 : plainName "com/example/lyrebird/lyrebird/core/header/HeaderSyntaxIsTokenCharPinLaw" = true := by first | (simp [plainName, overriddenIn]; done) | decide +kernel
theorem ef_rm12 (m : MethodId) (x0 : Int32) : entryFrame m #[(.int x0)] 2 = mkF m 0 #[.val (.int x0), .unset] [] := by first | (simp [entryFrame, mkF, argsToLocals, Value.category]; done) | rfl
def Q12 (Z : State) (x1 : Int32) (h0 : Heap) (n0 : Nat) (v : Option Value) (h : Heap) (L : List Loc) : Prop := v = some (.int (own_exp x1)) ∧ Fr n0 L ∧ h = h0
set_option maxRecDepth 65536 in
set_option maxHeartbeats 40000000 in
theorem rm12 (l : Launch) (Z : State) (a0 : Array Value) (hw : ∀ d ∈ tables_1, d.before a0 Z = true) (ws : List Jvm.Cond) (x1 : Int32) (h0 : Heap) (n0 : Nat) (Z0 : n0 ≤ h0.size) :
    MetFree l (⟨"com/example/lyrebird/lyrebird/core/header/HeaderSyntaxIsTokenCharPinLaw", "expected", "(C)Z"⟩ : MethodName) (head1 (Jvm.Cond.code (⟨"com/example/lyrebird/lyrebird/core/header/HeaderSyntaxIsTokenCharPinLaw", "expected", "(C)Z"⟩ : MethodName) method_3_code 2 (some .boolean) :: ws) ({ frames := 0, cells := 0, slots := 0, locals := 0 } : Room)) (fun a U => a = #[(.int x1)] ∧ Z.Warmed39 U.vm ∧ U.heap = h0) (fun _ _ _ _ _ => True) (fun _ U o U' => ∃ v L, o = .returned v ∧ Q12 Z x1 h0 n0 v U'.heap L ∧ FrameEnd U o U' L ({ frames := 0, cells := 0, slots := 0, locals := 0 } : Room).cells ({ frames := 0, cells := 0, slots := 0, locals := 0 } : Room).slots) := by
  refine MetFree.of_bodySF (plainFor_of_name pn_1) hisR ?_
  intro p e s m args below meth c s₁ Bd hml0 hP hK
  obtain ⟨rfl, hZ, hh⟩ := hP
  have hx := Bd.exec
  have hby := Bd.bytes
  have hml : c.maxLocals = 2 := hml0
  have hown : s.vm.findClass "com/example/lyrebird/lyrebird/core/header/HeaderSyntaxIsTokenCharPinLaw" = some m.cls := findClass_of_methodNamed Bd.named
  have hnm := (name_of_methodNamed Bd.named Bd.method).1
  have X0 : Stand p l e ({ frames := 0, cells := 0, slots := 0, locals := 0 } : Room) s m #[(.int x1)] below meth c s₁ [] 0 0 := Stand.of_body Bd
  have e0 : s₁.heap = h0 := by rw [← hh, Bd.state]; rfl
  have N0 := Fr.nil n0
  have K0 := Keep.refl h0 []
  suffices hD : Dn p e below s (Q12 Z x1 h0 n0) ({ frames := 0, cells := 0, slots := 0, locals := 0 } : Room).cells ({ frames := 0, cells := 0, slots := 0, locals := 0 } : Room).slots s₁ (mkF m 0 #[.val (.int x1), .unset] []) from by
    obtain ⟨s₂, o, q1, q2⟩ := hD
    exact ⟨s₂, o, castTop (ef_rm12 m x1) q1, q2⟩
  refine Dn.st (fun t q => XS.iloadN X0.here hx rfl (hb hby d12_0) rfl  q) ?_
  show Dn p e below s _ _ _ s₁ (mkF m 1 #[.val (.int x1), .unset] [(.int x1)])
  refine Dn.st (fun t q => XS.bipush X0.here hx rfl (hb hby d12_1) q) ?_
  show Dn p e below s _ _ _ s₁ (mkF m 3 #[.val (.int x1), .unset] [(.int (32 : Int32)), (.int x1)])
  by_cases c1 : (32 : Int32) < x1
  · refine Dn.st (fun t q => XS.icmpNo X0.here hx rfl (hb hby d12_3) rfl (tlt c1).2.2.2 q) ?_
    show Dn p e below s _ _ _ s₁ (mkF m 6 #[.val (.int x1), .unset] [])
    refine Dn.st (fun t q => XS.iloadN X0.here hx rfl (hb hby d12_6) rfl  q) ?_
    show Dn p e below s _ _ _ s₁ (mkF m 7 #[.val (.int x1), .unset] [(.int x1)])
    refine Dn.st (fun t q => XS.bipush X0.here hx rfl (hb hby d12_7) q) ?_
    show Dn p e below s _ _ _ s₁ (mkF m 9 #[.val (.int x1), .unset] [(.int (127 : Int32)), (.int x1)])
    by_cases c2 : x1 < (127 : Int32)
    · refine Dn.st (fun t q => XS.icmpYes X0.here hx rfl (pc0 := 9) (pc' := 14) rfl (hb hby d12_9) rfl (tlt c2).1 (by decide) (by decide) q) ?_
      show Dn p e below s _ _ _ s₁ (mkF m 14 #[.val (.int x1), .unset] [])
      refine Dn.st (fun t q => XS.iloadN X0.here hx rfl (hb hby d12_14) rfl  q) ?_
      show Dn p e below s _ _ _ s₁ (mkF m 15 #[.val (.int x1), .unset] [(.int x1)])
      refine Dn.st (fun t q => XS.bipush X0.here hx rfl (hb hby d12_15) q) ?_
      show Dn p e below s _ _ _ s₁ (mkF m 17 #[.val (.int x1), .unset] [(.int (34 : Int32)), (.int x1)])
      by_cases c3 : x1 = (34 : Int32)
      · refine Dn.st (fun t q => XS.icmpYes X0.here hx rfl (pc0 := 17) (pc' := 116) rfl (hb hby d12_17) rfl (teq c3).1 (by decide) (by decide) q) ?_
        show Dn p e below s _ _ _ s₁ (mkF m 116 #[.val (.int x1), .unset] [])
        refine Dn.st (fun t q => XS.iconst X0.here hx rfl (hb hby d12_116) q) ?_
        show Dn p e below s _ _ _ s₁ (mkF m 117 #[.val (.int x1), .unset] [(.int (1 : Int32))])
        refine Dn.st (fun t q => XS.goto X0.here hx rfl (pc0 := 117) (pc' := 121) rfl (hb hby d12_117) (by decide) (by decide) q) ?_
        show Dn p e below s _ _ _ s₁ (mkF m 121 #[.val (.int x1), .unset] [(.int (1 : Int32))])
        refine Dn.st (fun t q => XS.istoreN X0.here hx rfl (hb hby d12_121) rfl (l' := #[.val (.int x1), .val (.int (1 : Int32))]) rfl q) ?_
        show Dn p e below s _ _ _ s₁ (mkF m 122 #[.val (.int x1), .val (.int (1 : Int32))] [])
        refine Dn.st (fun t q => XS.iloadN X0.here hx rfl (hb hby d12_122) rfl  q) ?_
        show Dn p e below s _ _ _ s₁ (mkF m 123 #[.val (.int x1), .val (.int (1 : Int32))] [(.int (1 : Int32))])
        by_cases c4 : (1 : Int32) = (0 : Int32)
        · refine Dn.st (fun t q => XS.ifNo X0.here hx rfl (hb hby d12_123) rfl ((if0 _ _).trans (teq c4).2) q) ?_
          show Dn p e below s _ _ _ s₁ (mkF m 126 #[.val (.int x1), .val (.int (1 : Int32))] [])
          refine Dn.st (fun t q => XS.iconst X0.here hx rfl (hb hby d12_126) q) ?_
          show Dn p e below s _ _ _ s₁ (mkF m 127 #[.val (.int x1), .val (.int (1 : Int32))] [(.int (1 : Int32))])
          refine Dn.st (fun t q => XS.goto X0.here hx rfl (pc0 := 127) (pc' := 131) rfl (hb hby d12_127) (by decide) (by decide) q) ?_
          show Dn p e below s _ _ _ s₁ (mkF m 131 #[.val (.int x1), .val (.int (1 : Int32))] [(.int (1 : Int32))])
          exact Dn.retZ X0 hx Bd.notSynchronized (t := .boolean) Bd.returns (by simp) (hb hby d12_131) (by rw [e0]; exact ⟨by show some (Value.int (1 : Int32)) = some (Value.int (own_exp x1)); rw [own_exp, if_pos c1, if_pos c2, if_pos c3, if_pos c4], N0, rfl⟩) (by decide) (by decide)
        · refine Dn.st (fun t q => XS.ifYes X0.here hx rfl (pc0 := 123) (pc' := 130) rfl (hb hby d12_123) rfl ((if0 _ _).trans (feq c4).2) (by decide) (by decide) q) ?_
          show Dn p e below s _ _ _ s₁ (mkF m 130 #[.val (.int x1), .val (.int (1 : Int32))] [])
          refine Dn.st (fun t q => XS.iconst X0.here hx rfl (hb hby d12_130) q) ?_
          show Dn p e below s _ _ _ s₁ (mkF m 131 #[.val (.int x1), .val (.int (1 : Int32))] [(.int (0 : Int32))])
          exact Dn.retZ X0 hx Bd.notSynchronized (t := .boolean) Bd.returns (by simp) (hb hby d12_131) (by rw [e0]; exact ⟨by show some (Value.int (0 : Int32)) = some (Value.int (own_exp x1)); rw [own_exp, if_pos c1, if_pos c2, if_pos c3, if_neg c4], N0, rfl⟩) (by decide) (by decide)
      · refine Dn.st (fun t q => XS.icmpNo X0.here hx rfl (hb hby d12_17) rfl (feq c3).1 q) ?_
        show Dn p e below s _ _ _ s₁ (mkF m 20 #[.val (.int x1), .unset] [])
        refine Dn.st (fun t q => XS.iloadN X0.here hx rfl (hb hby d12_20) rfl  q) ?_
        show Dn p e below s _ _ _ s₁ (mkF m 21 #[.val (.int x1), .unset] [(.int x1)])
        refine Dn.st (fun t q => XS.bipush X0.here hx rfl (hb hby d12_21) q) ?_
        show Dn p e below s _ _ _ s₁ (mkF m 23 #[.val (.int x1), .unset] [(.int (40 : Int32)), (.int x1)])
        by_cases c5 : x1 = (40 : Int32)
        · refine Dn.st (fun t q => XS.icmpYes X0.here hx rfl (pc0 := 23) (pc' := 116) rfl (hb hby d12_23) rfl (teq c5).1 (by decide) (by decide) q) ?_
          show Dn p e below s _ _ _ s₁ (mkF m 116 #[.val (.int x1), .unset] [])
          refine Dn.st (fun t q => XS.iconst X0.here hx rfl (hb hby d12_116) q) ?_
          show Dn p e below s _ _ _ s₁ (mkF m 117 #[.val (.int x1), .unset] [(.int (1 : Int32))])
          refine Dn.st (fun t q => XS.goto X0.here hx rfl (pc0 := 117) (pc' := 121) rfl (hb hby d12_117) (by decide) (by decide) q) ?_
          show Dn p e below s _ _ _ s₁ (mkF m 121 #[.val (.int x1), .unset] [(.int (1 : Int32))])
          refine Dn.st (fun t q => XS.istoreN X0.here hx rfl (hb hby d12_121) rfl (l' := #[.val (.int x1), .val (.int (1 : Int32))]) rfl q) ?_
          show Dn p e below s _ _ _ s₁ (mkF m 122 #[.val (.int x1), .val (.int (1 : Int32))] [])
          refine Dn.st (fun t q => XS.iloadN X0.here hx rfl (hb hby d12_122) rfl  q) ?_
          show Dn p e below s _ _ _ s₁ (mkF m 123 #[.val (.int x1), .val (.int (1 : Int32))] [(.int (1 : Int32))])
          by_cases c6 : (1 : Int32) = (0 : Int32)
          · refine Dn.st (fun t q => XS.ifNo X0.here hx rfl (hb hby d12_123) rfl ((if0 _ _).trans (teq c6).2) q) ?_
            show Dn p e below s _ _ _ s₁ (mkF m 126 #[.val (.int x1), .val (.int (1 : Int32))] [])
            refine Dn.st (fun t q => XS.iconst X0.here hx rfl (hb hby d12_126) q) ?_
            show Dn p e below s _ _ _ s₁ (mkF m 127 #[.val (.int x1), .val (.int (1 : Int32))] [(.int (1 : Int32))])
            refine Dn.st (fun t q => XS.goto X0.here hx rfl (pc0 := 127) (pc' := 131) rfl (hb hby d12_127) (by decide) (by decide) q) ?_
            show Dn p e below s _ _ _ s₁ (mkF m 131 #[.val (.int x1), .val (.int (1 : Int32))] [(.int (1 : Int32))])
            exact Dn.retZ X0 hx Bd.notSynchronized (t := .boolean) Bd.returns (by simp) (hb hby d12_131) (by rw [e0]; exact ⟨by show some (Value.int (1 : Int32)) = some (Value.int (own_exp x1)); rw [own_exp, if_pos c1, if_pos c2, if_neg c3, if_pos c5, if_pos c6], N0, rfl⟩) (by decide) (by decide)
          · refine Dn.st (fun t q => XS.ifYes X0.here hx rfl (pc0 := 123) (pc' := 130) rfl (hb hby d12_123) rfl ((if0 _ _).trans (feq c6).2) (by decide) (by decide) q) ?_
            show Dn p e below s _ _ _ s₁ (mkF m 130 #[.val (.int x1), .val (.int (1 : Int32))] [])
            refine Dn.st (fun t q => XS.iconst X0.here hx rfl (hb hby d12_130) q) ?_
            show Dn p e below s _ _ _ s₁ (mkF m 131 #[.val (.int x1), .val (.int (1 : Int32))] [(.int (0 : Int32))])
            exact Dn.retZ X0 hx Bd.notSynchronized (t := .boolean) Bd.returns (by simp) (hb hby d12_131) (by rw [e0]; exact ⟨by show some (Value.int (0 : Int32)) = some (Value.int (own_exp x1)); rw [own_exp, if_pos c1, if_pos c2, if_neg c3, if_pos c5, if_neg c6], N0, rfl⟩) (by decide) (by decide)
        · refine Dn.st (fun t q => XS.icmpNo X0.here hx rfl (hb hby d12_23) rfl (feq c5).1 q) ?_
          show Dn p e below s _ _ _ s₁ (mkF m 26 #[.val (.int x1), .unset] [])
          refine Dn.st (fun t q => XS.iloadN X0.here hx rfl (hb hby d12_26) rfl  q) ?_
          show Dn p e below s _ _ _ s₁ (mkF m 27 #[.val (.int x1), .unset] [(.int x1)])
          refine Dn.st (fun t q => XS.bipush X0.here hx rfl (hb hby d12_27) q) ?_
          show Dn p e below s _ _ _ s₁ (mkF m 29 #[.val (.int x1), .unset] [(.int (41 : Int32)), (.int x1)])
          by_cases c7 : x1 = (41 : Int32)
          · refine Dn.st (fun t q => XS.icmpYes X0.here hx rfl (pc0 := 29) (pc' := 116) rfl (hb hby d12_29) rfl (teq c7).1 (by decide) (by decide) q) ?_
            show Dn p e below s _ _ _ s₁ (mkF m 116 #[.val (.int x1), .unset] [])
            refine Dn.st (fun t q => XS.iconst X0.here hx rfl (hb hby d12_116) q) ?_
            show Dn p e below s _ _ _ s₁ (mkF m 117 #[.val (.int x1), .unset] [(.int (1 : Int32))])
            refine Dn.st (fun t q => XS.goto X0.here hx rfl (pc0 := 117) (pc' := 121) rfl (hb hby d12_117) (by decide) (by decide) q) ?_
            show Dn p e below s _ _ _ s₁ (mkF m 121 #[.val (.int x1), .unset] [(.int (1 : Int32))])
            refine Dn.st (fun t q => XS.istoreN X0.here hx rfl (hb hby d12_121) rfl (l' := #[.val (.int x1), .val (.int (1 : Int32))]) rfl q) ?_
            show Dn p e below s _ _ _ s₁ (mkF m 122 #[.val (.int x1), .val (.int (1 : Int32))] [])
            refine Dn.st (fun t q => XS.iloadN X0.here hx rfl (hb hby d12_122) rfl  q) ?_
            show Dn p e below s _ _ _ s₁ (mkF m 123 #[.val (.int x1), .val (.int (1 : Int32))] [(.int (1 : Int32))])
            by_cases c8 : (1 : Int32) = (0 : Int32)
            · refine Dn.st (fun t q => XS.ifNo X0.here hx rfl (hb hby d12_123) rfl ((if0 _ _).trans (teq c8).2) q) ?_
              show Dn p e below s _ _ _ s₁ (mkF m 126 #[.val (.int x1), .val (.int (1 : Int32))] [])
              refine Dn.st (fun t q => XS.iconst X0.here hx rfl (hb hby d12_126) q) ?_
              show Dn p e below s _ _ _ s₁ (mkF m 127 #[.val (.int x1), .val (.int (1 : Int32))] [(.int (1 : Int32))])
              refine Dn.st (fun t q => XS.goto X0.here hx rfl (pc0 := 127) (pc' := 131) rfl (hb hby d12_127) (by decide) (by decide) q) ?_
              show Dn p e below s _ _ _ s₁ (mkF m 131 #[.val (.int x1), .val (.int (1 : Int32))] [(.int (1 : Int32))])
              exact Dn.retZ X0 hx Bd.notSynchronized (t := .boolean) Bd.returns (by simp) (hb hby d12_131) (by rw [e0]; exact ⟨by show some (Value.int (1 : Int32)) = some (Value.int (own_exp x1)); rw [own_exp, if_pos c1, if_pos c2, if_neg c3, if_neg c5, if_pos c7, if_pos c8], N0, rfl⟩) (by decide) (by decide)
            · refine Dn.st (fun t q => XS.ifYes X0.here hx rfl (pc0 := 123) (pc' := 130) rfl (hb hby d12_123) rfl ((if0 _ _).trans (feq c8).2) (by decide) (by decide) q) ?_
              show Dn p e below s _ _ _ s₁ (mkF m 130 #[.val (.int x1), .val (.int (1 : Int32))] [])
              refine Dn.st (fun t q => XS.iconst X0.here hx rfl (hb hby d12_130) q) ?_
              show Dn p e below s _ _ _ s₁ (mkF m 131 #[.val (.int x1), .val (.int (1 : Int32))] [(.int (0 : Int32))])
              exact Dn.retZ X0 hx Bd.notSynchronized (t := .boolean) Bd.returns (by simp) (hb hby d12_131) (by rw [e0]; exact ⟨by show some (Value.int (0 : Int32)) = some (Value.int (own_exp x1)); rw [own_exp, if_pos c1, if_pos c2, if_neg c3, if_neg c5, if_pos c7, if_neg c8], N0, rfl⟩) (by decide) (by decide)
          · refine Dn.st (fun t q => XS.icmpNo X0.here hx rfl (hb hby d12_29) rfl (feq c7).1 q) ?_
            show Dn p e below s _ _ _ s₁ (mkF m 32 #[.val (.int x1), .unset] [])
            refine Dn.st (fun t q => XS.iloadN X0.here hx rfl (hb hby d12_32) rfl  q) ?_
            show Dn p e below s _ _ _ s₁ (mkF m 33 #[.val (.int x1), .unset] [(.int x1)])
            refine Dn.st (fun t q => XS.bipush X0.here hx rfl (hb hby d12_33) q) ?_
            show Dn p e below s _ _ _ s₁ (mkF m 35 #[.val (.int x1), .unset] [(.int (44 : Int32)), (.int x1)])
            by_cases c9 : x1 = (44 : Int32)
            · refine Dn.st (fun t q => XS.icmpYes X0.here hx rfl (pc0 := 35) (pc' := 116) rfl (hb hby d12_35) rfl (teq c9).1 (by decide) (by decide) q) ?_
              show Dn p e below s _ _ _ s₁ (mkF m 116 #[.val (.int x1), .unset] [])
              refine Dn.st (fun t q => XS.iconst X0.here hx rfl (hb hby d12_116) q) ?_
              show Dn p e below s _ _ _ s₁ (mkF m 117 #[.val (.int x1), .unset] [(.int (1 : Int32))])
              refine Dn.st (fun t q => XS.goto X0.here hx rfl (pc0 := 117) (pc' := 121) rfl (hb hby d12_117) (by decide) (by decide) q) ?_
              show Dn p e below s _ _ _ s₁ (mkF m 121 #[.val (.int x1), .unset] [(.int (1 : Int32))])
              refine Dn.st (fun t q => XS.istoreN X0.here hx rfl (hb hby d12_121) rfl (l' := #[.val (.int x1), .val (.int (1 : Int32))]) rfl q) ?_
              show Dn p e below s _ _ _ s₁ (mkF m 122 #[.val (.int x1), .val (.int (1 : Int32))] [])
              refine Dn.st (fun t q => XS.iloadN X0.here hx rfl (hb hby d12_122) rfl  q) ?_
              show Dn p e below s _ _ _ s₁ (mkF m 123 #[.val (.int x1), .val (.int (1 : Int32))] [(.int (1 : Int32))])
              by_cases c10 : (1 : Int32) = (0 : Int32)
              · refine Dn.st (fun t q => XS.ifNo X0.here hx rfl (hb hby d12_123) rfl ((if0 _ _).trans (teq c10).2) q) ?_
                show Dn p e below s _ _ _ s₁ (mkF m 126 #[.val (.int x1), .val (.int (1 : Int32))] [])
                refine Dn.st (fun t q => XS.iconst X0.here hx rfl (hb hby d12_126) q) ?_
                show Dn p e below s _ _ _ s₁ (mkF m 127 #[.val (.int x1), .val (.int (1 : Int32))] [(.int (1 : Int32))])
                refine Dn.st (fun t q => XS.goto X0.here hx rfl (pc0 := 127) (pc' := 131) rfl (hb hby d12_127) (by decide) (by decide) q) ?_
                show Dn p e below s _ _ _ s₁ (mkF m 131 #[.val (.int x1), .val (.int (1 : Int32))] [(.int (1 : Int32))])
                exact Dn.retZ X0 hx Bd.notSynchronized (t := .boolean) Bd.returns (by simp) (hb hby d12_131) (by rw [e0]; exact ⟨by show some (Value.int (1 : Int32)) = some (Value.int (own_exp x1)); rw [own_exp, if_pos c1, if_pos c2, if_neg c3, if_neg c5, if_neg c7, if_pos c9, if_pos c10], N0, rfl⟩) (by decide) (by decide)
              · refine Dn.st (fun t q => XS.ifYes X0.here hx rfl (pc0 := 123) (pc' := 130) rfl (hb hby d12_123) rfl ((if0 _ _).trans (feq c10).2) (by decide) (by decide) q) ?_
                show Dn p e below s _ _ _ s₁ (mkF m 130 #[.val (.int x1), .val (.int (1 : Int32))] [])
                refine Dn.st (fun t q => XS.iconst X0.here hx rfl (hb hby d12_130) q) ?_
                show Dn p e below s _ _ _ s₁ (mkF m 131 #[.val (.int x1), .val (.int (1 : Int32))] [(.int (0 : Int32))])
                exact Dn.retZ X0 hx Bd.notSynchronized (t := .boolean) Bd.returns (by simp) (hb hby d12_131) (by rw [e0]; exact ⟨by show some (Value.int (0 : Int32)) = some (Value.int (own_exp x1)); rw [own_exp, if_pos c1, if_pos c2, if_neg c3, if_neg c5, if_neg c7, if_pos c9, if_neg c10], N0, rfl⟩) (by decide) (by decide)
            · refine Dn.st (fun t q => XS.icmpNo X0.here hx rfl (hb hby d12_35) rfl (feq c9).1 q) ?_
              show Dn p e below s _ _ _ s₁ (mkF m 38 #[.val (.int x1), .unset] [])
              refine Dn.st (fun t q => XS.iloadN X0.here hx rfl (hb hby d12_38) rfl  q) ?_
              show Dn p e below s _ _ _ s₁ (mkF m 39 #[.val (.int x1), .unset] [(.int x1)])
              refine Dn.st (fun t q => XS.bipush X0.here hx rfl (hb hby d12_39) q) ?_
              show Dn p e below s _ _ _ s₁ (mkF m 41 #[.val (.int x1), .unset] [(.int (47 : Int32)), (.int x1)])
              by_cases c11 : x1 = (47 : Int32)
              · refine Dn.st (fun t q => XS.icmpYes X0.here hx rfl (pc0 := 41) (pc' := 116) rfl (hb hby d12_41) rfl (teq c11).1 (by decide) (by decide) q) ?_
                show Dn p e below s _ _ _ s₁ (mkF m 116 #[.val (.int x1), .unset] [])
                refine Dn.st (fun t q => XS.iconst X0.here hx rfl (hb hby d12_116) q) ?_
                show Dn p e below s _ _ _ s₁ (mkF m 117 #[.val (.int x1), .unset] [(.int (1 : Int32))])
                refine Dn.st (fun t q => XS.goto X0.here hx rfl (pc0 := 117) (pc' := 121) rfl (hb hby d12_117) (by decide) (by decide) q) ?_
                show Dn p e below s _ _ _ s₁ (mkF m 121 #[.val (.int x1), .unset] [(.int (1 : Int32))])
                refine Dn.st (fun t q => XS.istoreN X0.here hx rfl (hb hby d12_121) rfl (l' := #[.val (.int x1), .val (.int (1 : Int32))]) rfl q) ?_
                show Dn p e below s _ _ _ s₁ (mkF m 122 #[.val (.int x1), .val (.int (1 : Int32))] [])
                refine Dn.st (fun t q => XS.iloadN X0.here hx rfl (hb hby d12_122) rfl  q) ?_
                show Dn p e below s _ _ _ s₁ (mkF m 123 #[.val (.int x1), .val (.int (1 : Int32))] [(.int (1 : Int32))])
                by_cases c12 : (1 : Int32) = (0 : Int32)
                · refine Dn.st (fun t q => XS.ifNo X0.here hx rfl (hb hby d12_123) rfl ((if0 _ _).trans (teq c12).2) q) ?_
                  show Dn p e below s _ _ _ s₁ (mkF m 126 #[.val (.int x1), .val (.int (1 : Int32))] [])
                  refine Dn.st (fun t q => XS.iconst X0.here hx rfl (hb hby d12_126) q) ?_
                  show Dn p e below s _ _ _ s₁ (mkF m 127 #[.val (.int x1), .val (.int (1 : Int32))] [(.int (1 : Int32))])
                  refine Dn.st (fun t q => XS.goto X0.here hx rfl (pc0 := 127) (pc' := 131) rfl (hb hby d12_127) (by decide) (by decide) q) ?_
                  show Dn p e below s _ _ _ s₁ (mkF m 131 #[.val (.int x1), .val (.int (1 : Int32))] [(.int (1 : Int32))])
                  exact Dn.retZ X0 hx Bd.notSynchronized (t := .boolean) Bd.returns (by simp) (hb hby d12_131) (by rw [e0]; exact ⟨by show some (Value.int (1 : Int32)) = some (Value.int (own_exp x1)); rw [own_exp, if_pos c1, if_pos c2, if_neg c3, if_neg c5, if_neg c7, if_neg c9, if_pos c11, if_pos c12], N0, rfl⟩) (by decide) (by decide)
                · refine Dn.st (fun t q => XS.ifYes X0.here hx rfl (pc0 := 123) (pc' := 130) rfl (hb hby d12_123) rfl ((if0 _ _).trans (feq c12).2) (by decide) (by decide) q) ?_
                  show Dn p e below s _ _ _ s₁ (mkF m 130 #[.val (.int x1), .val (.int (1 : Int32))] [])
                  refine Dn.st (fun t q => XS.iconst X0.here hx rfl (hb hby d12_130) q) ?_
                  show Dn p e below s _ _ _ s₁ (mkF m 131 #[.val (.int x1), .val (.int (1 : Int32))] [(.int (0 : Int32))])
                  exact Dn.retZ X0 hx Bd.notSynchronized (t := .boolean) Bd.returns (by simp) (hb hby d12_131) (by rw [e0]; exact ⟨by show some (Value.int (0 : Int32)) = some (Value.int (own_exp x1)); rw [own_exp, if_pos c1, if_pos c2, if_neg c3, if_neg c5, if_neg c7, if_neg c9, if_pos c11, if_neg c12], N0, rfl⟩) (by decide) (by decide)
              · refine Dn.st (fun t q => XS.icmpNo X0.here hx rfl (hb hby d12_41) rfl (feq c11).1 q) ?_
                show Dn p e below s _ _ _ s₁ (mkF m 44 #[.val (.int x1), .unset] [])
                refine Dn.st (fun t q => XS.iloadN X0.here hx rfl (hb hby d12_44) rfl  q) ?_
                show Dn p e below s _ _ _ s₁ (mkF m 45 #[.val (.int x1), .unset] [(.int x1)])
                refine Dn.st (fun t q => XS.bipush X0.here hx rfl (hb hby d12_45) q) ?_
                show Dn p e below s _ _ _ s₁ (mkF m 47 #[.val (.int x1), .unset] [(.int (58 : Int32)), (.int x1)])
                by_cases c13 : x1 = (58 : Int32)
                · refine Dn.st (fun t q => XS.icmpYes X0.here hx rfl (pc0 := 47) (pc' := 116) rfl (hb hby d12_47) rfl (teq c13).1 (by decide) (by decide) q) ?_
                  show Dn p e below s _ _ _ s₁ (mkF m 116 #[.val (.int x1), .unset] [])
                  refine Dn.st (fun t q => XS.iconst X0.here hx rfl (hb hby d12_116) q) ?_
                  show Dn p e below s _ _ _ s₁ (mkF m 117 #[.val (.int x1), .unset] [(.int (1 : Int32))])
                  refine Dn.st (fun t q => XS.goto X0.here hx rfl (pc0 := 117) (pc' := 121) rfl (hb hby d12_117) (by decide) (by decide) q) ?_
                  show Dn p e below s _ _ _ s₁ (mkF m 121 #[.val (.int x1), .unset] [(.int (1 : Int32))])
                  refine Dn.st (fun t q => XS.istoreN X0.here hx rfl (hb hby d12_121) rfl (l' := #[.val (.int x1), .val (.int (1 : Int32))]) rfl q) ?_
                  show Dn p e below s _ _ _ s₁ (mkF m 122 #[.val (.int x1), .val (.int (1 : Int32))] [])
                  refine Dn.st (fun t q => XS.iloadN X0.here hx rfl (hb hby d12_122) rfl  q) ?_
                  show Dn p e below s _ _ _ s₁ (mkF m 123 #[.val (.int x1), .val (.int (1 : Int32))] [(.int (1 : Int32))])
                  by_cases c14 : (1 : Int32) = (0 : Int32)
                  · refine Dn.st (fun t q => XS.ifNo X0.here hx rfl (hb hby d12_123) rfl ((if0 _ _).trans (teq c14).2) q) ?_
                    show Dn p e below s _ _ _ s₁ (mkF m 126 #[.val (.int x1), .val (.int (1 : Int32))] [])
                    refine Dn.st (fun t q => XS.iconst X0.here hx rfl (hb hby d12_126) q) ?_
                    show Dn p e below s _ _ _ s₁ (mkF m 127 #[.val (.int x1), .val (.int (1 : Int32))] [(.int (1 : Int32))])
                    refine Dn.st (fun t q => XS.goto X0.here hx rfl (pc0 := 127) (pc' := 131) rfl (hb hby d12_127) (by decide) (by decide) q) ?_
                    show Dn p e below s _ _ _ s₁ (mkF m 131 #[.val (.int x1), .val (.int (1 : Int32))] [(.int (1 : Int32))])
                    exact Dn.retZ X0 hx Bd.notSynchronized (t := .boolean) Bd.returns (by simp) (hb hby d12_131) (by rw [e0]; exact ⟨by show some (Value.int (1 : Int32)) = some (Value.int (own_exp x1)); rw [own_exp, if_pos c1, if_pos c2, if_neg c3, if_neg c5, if_neg c7, if_neg c9, if_neg c11, if_pos c13, if_pos c14], N0, rfl⟩) (by decide) (by decide)
                  · refine Dn.st (fun t q => XS.ifYes X0.here hx rfl (pc0 := 123) (pc' := 130) rfl (hb hby d12_123) rfl ((if0 _ _).trans (feq c14).2) (by decide) (by decide) q) ?_
                    show Dn p e below s _ _ _ s₁ (mkF m 130 #[.val (.int x1), .val (.int (1 : Int32))] [])
                    refine Dn.st (fun t q => XS.iconst X0.here hx rfl (hb hby d12_130) q) ?_
                    show Dn p e below s _ _ _ s₁ (mkF m 131 #[.val (.int x1), .val (.int (1 : Int32))] [(.int (0 : Int32))])
                    exact Dn.retZ X0 hx Bd.notSynchronized (t := .boolean) Bd.returns (by simp) (hb hby d12_131) (by rw [e0]; exact ⟨by show some (Value.int (0 : Int32)) = some (Value.int (own_exp x1)); rw [own_exp, if_pos c1, if_pos c2, if_neg c3, if_neg c5, if_neg c7, if_neg c9, if_neg c11, if_pos c13, if_neg c14], N0, rfl⟩) (by decide) (by decide)
                · refine Dn.st (fun t q => XS.icmpNo X0.here hx rfl (hb hby d12_47) rfl (feq c13).1 q) ?_
                  show Dn p e below s _ _ _ s₁ (mkF m 50 #[.val (.int x1), .unset] [])
                  refine Dn.st (fun t q => XS.iloadN X0.here hx rfl (hb hby d12_50) rfl  q) ?_
                  show Dn p e below s _ _ _ s₁ (mkF m 51 #[.val (.int x1), .unset] [(.int x1)])
                  refine Dn.st (fun t q => XS.bipush X0.here hx rfl (hb hby d12_51) q) ?_
                  show Dn p e below s _ _ _ s₁ (mkF m 53 #[.val (.int x1), .unset] [(.int (59 : Int32)), (.int x1)])
                  by_cases c15 : x1 = (59 : Int32)
                  · refine Dn.st (fun t q => XS.icmpYes X0.here hx rfl (pc0 := 53) (pc' := 116) rfl (hb hby d12_53) rfl (teq c15).1 (by decide) (by decide) q) ?_
                    show Dn p e below s _ _ _ s₁ (mkF m 116 #[.val (.int x1), .unset] [])
                    refine Dn.st (fun t q => XS.iconst X0.here hx rfl (hb hby d12_116) q) ?_
                    show Dn p e below s _ _ _ s₁ (mkF m 117 #[.val (.int x1), .unset] [(.int (1 : Int32))])
                    refine Dn.st (fun t q => XS.goto X0.here hx rfl (pc0 := 117) (pc' := 121) rfl (hb hby d12_117) (by decide) (by decide) q) ?_
                    show Dn p e below s _ _ _ s₁ (mkF m 121 #[.val (.int x1), .unset] [(.int (1 : Int32))])
                    refine Dn.st (fun t q => XS.istoreN X0.here hx rfl (hb hby d12_121) rfl (l' := #[.val (.int x1), .val (.int (1 : Int32))]) rfl q) ?_
                    show Dn p e below s _ _ _ s₁ (mkF m 122 #[.val (.int x1), .val (.int (1 : Int32))] [])
                    refine Dn.st (fun t q => XS.iloadN X0.here hx rfl (hb hby d12_122) rfl  q) ?_
                    show Dn p e below s _ _ _ s₁ (mkF m 123 #[.val (.int x1), .val (.int (1 : Int32))] [(.int (1 : Int32))])
                    by_cases c16 : (1 : Int32) = (0 : Int32)
                    · refine Dn.st (fun t q => XS.ifNo X0.here hx rfl (hb hby d12_123) rfl ((if0 _ _).trans (teq c16).2) q) ?_
                      show Dn p e below s _ _ _ s₁ (mkF m 126 #[.val (.int x1), .val (.int (1 : Int32))] [])
                      refine Dn.st (fun t q => XS.iconst X0.here hx rfl (hb hby d12_126) q) ?_
                      show Dn p e below s _ _ _ s₁ (mkF m 127 #[.val (.int x1), .val (.int (1 : Int32))] [(.int (1 : Int32))])
                      refine Dn.st (fun t q => XS.goto X0.here hx rfl (pc0 := 127) (pc' := 131) rfl (hb hby d12_127) (by decide) (by decide) q) ?_
                      show Dn p e below s _ _ _ s₁ (mkF m 131 #[.val (.int x1), .val (.int (1 : Int32))] [(.int (1 : Int32))])
                      exact Dn.retZ X0 hx Bd.notSynchronized (t := .boolean) Bd.returns (by simp) (hb hby d12_131) (by rw [e0]; exact ⟨by show some (Value.int (1 : Int32)) = some (Value.int (own_exp x1)); rw [own_exp, if_pos c1, if_pos c2, if_neg c3, if_neg c5, if_neg c7, if_neg c9, if_neg c11, if_neg c13, if_pos c15, if_pos c16], N0, rfl⟩) (by decide) (by decide)
                    · refine Dn.st (fun t q => XS.ifYes X0.here hx rfl (pc0 := 123) (pc' := 130) rfl (hb hby d12_123) rfl ((if0 _ _).trans (feq c16).2) (by decide) (by decide) q) ?_
                      show Dn p e below s _ _ _ s₁ (mkF m 130 #[.val (.int x1), .val (.int (1 : Int32))] [])
                      refine Dn.st (fun t q => XS.iconst X0.here hx rfl (hb hby d12_130) q) ?_
                      show Dn p e below s _ _ _ s₁ (mkF m 131 #[.val (.int x1), .val (.int (1 : Int32))] [(.int (0 : Int32))])
                      exact Dn.retZ X0 hx Bd.notSynchronized (t := .boolean) Bd.returns (by simp) (hb hby d12_131) (by rw [e0]; exact ⟨by show some (Value.int (0 : Int32)) = some (Value.int (own_exp x1)); rw [own_exp, if_pos c1, if_pos c2, if_neg c3, if_neg c5, if_neg c7, if_neg c9, if_neg c11, if_neg c13, if_pos c15, if_neg c16], N0, rfl⟩) (by decide) (by decide)
                  · refine Dn.st (fun t q => XS.icmpNo X0.here hx rfl (hb hby d12_53) rfl (feq c15).1 q) ?_
                    show Dn p e below s _ _ _ s₁ (mkF m 56 #[.val (.int x1), .unset] [])
                    refine Dn.st (fun t q => XS.iloadN X0.here hx rfl (hb hby d12_56) rfl  q) ?_
                    show Dn p e below s _ _ _ s₁ (mkF m 57 #[.val (.int x1), .unset] [(.int x1)])
                    refine Dn.st (fun t q => XS.bipush X0.here hx rfl (hb hby d12_57) q) ?_
                    show Dn p e below s _ _ _ s₁ (mkF m 59 #[.val (.int x1), .unset] [(.int (60 : Int32)), (.int x1)])
                    by_cases c17 : x1 = (60 : Int32)
                    · refine Dn.st (fun t q => XS.icmpYes X0.here hx rfl (pc0 := 59) (pc' := 116) rfl (hb hby d12_59) rfl (teq c17).1 (by decide) (by decide) q) ?_
                      show Dn p e below s _ _ _ s₁ (mkF m 116 #[.val (.int x1), .unset] [])
                      refine Dn.st (fun t q => XS.iconst X0.here hx rfl (hb hby d12_116) q) ?_
                      show Dn p e below s _ _ _ s₁ (mkF m 117 #[.val (.int x1), .unset] [(.int (1 : Int32))])
                      refine Dn.st (fun t q => XS.goto X0.here hx rfl (pc0 := 117) (pc' := 121) rfl (hb hby d12_117) (by decide) (by decide) q) ?_
                      show Dn p e below s _ _ _ s₁ (mkF m 121 #[.val (.int x1), .unset] [(.int (1 : Int32))])
                      refine Dn.st (fun t q => XS.istoreN X0.here hx rfl (hb hby d12_121) rfl (l' := #[.val (.int x1), .val (.int (1 : Int32))]) rfl q) ?_
                      show Dn p e below s _ _ _ s₁ (mkF m 122 #[.val (.int x1), .val (.int (1 : Int32))] [])
                      refine Dn.st (fun t q => XS.iloadN X0.here hx rfl (hb hby d12_122) rfl  q) ?_
                      show Dn p e below s _ _ _ s₁ (mkF m 123 #[.val (.int x1), .val (.int (1 : Int32))] [(.int (1 : Int32))])
                      by_cases c18 : (1 : Int32) = (0 : Int32)
                      · refine Dn.st (fun t q => XS.ifNo X0.here hx rfl (hb hby d12_123) rfl ((if0 _ _).trans (teq c18).2) q) ?_
                        show Dn p e below s _ _ _ s₁ (mkF m 126 #[.val (.int x1), .val (.int (1 : Int32))] [])
                        refine Dn.st (fun t q => XS.iconst X0.here hx rfl (hb hby d12_126) q) ?_
                        show Dn p e below s _ _ _ s₁ (mkF m 127 #[.val (.int x1), .val (.int (1 : Int32))] [(.int (1 : Int32))])
                        refine Dn.st (fun t q => XS.goto X0.here hx rfl (pc0 := 127) (pc' := 131) rfl (hb hby d12_127) (by decide) (by decide) q) ?_
                        show Dn p e below s _ _ _ s₁ (mkF m 131 #[.val (.int x1), .val (.int (1 : Int32))] [(.int (1 : Int32))])
                        exact Dn.retZ X0 hx Bd.notSynchronized (t := .boolean) Bd.returns (by simp) (hb hby d12_131) (by rw [e0]; exact ⟨by show some (Value.int (1 : Int32)) = some (Value.int (own_exp x1)); rw [own_exp, if_pos c1, if_pos c2, if_neg c3, if_neg c5, if_neg c7, if_neg c9, if_neg c11, if_neg c13, if_neg c15, if_pos c17, if_pos c18], N0, rfl⟩) (by decide) (by decide)
                      · refine Dn.st (fun t q => XS.ifYes X0.here hx rfl (pc0 := 123) (pc' := 130) rfl (hb hby d12_123) rfl ((if0 _ _).trans (feq c18).2) (by decide) (by decide) q) ?_
                        show Dn p e below s _ _ _ s₁ (mkF m 130 #[.val (.int x1), .val (.int (1 : Int32))] [])
                        refine Dn.st (fun t q => XS.iconst X0.here hx rfl (hb hby d12_130) q) ?_
                        show Dn p e below s _ _ _ s₁ (mkF m 131 #[.val (.int x1), .val (.int (1 : Int32))] [(.int (0 : Int32))])
                        exact Dn.retZ X0 hx Bd.notSynchronized (t := .boolean) Bd.returns (by simp) (hb hby d12_131) (by rw [e0]; exact ⟨by show some (Value.int (0 : Int32)) = some (Value.int (own_exp x1)); rw [own_exp, if_pos c1, if_pos c2, if_neg c3, if_neg c5, if_neg c7, if_neg c9, if_neg c11, if_neg c13, if_neg c15, if_pos c17, if_neg c18], N0, rfl⟩) (by decide) (by decide)
                    · refine Dn.st (fun t q => XS.icmpNo X0.here hx rfl (hb hby d12_59) rfl (feq c17).1 q) ?_
                      show Dn p e below s _ _ _ s₁ (mkF m 62 #[.val (.int x1), .unset] [])
                      refine Dn.st (fun t q => XS.iloadN X0.here hx rfl (hb hby d12_62) rfl  q) ?_
                      show Dn p e below s _ _ _ s₁ (mkF m 63 #[.val (.int x1), .unset] [(.int x1)])
                      refine Dn.st (fun t q => XS.bipush X0.here hx rfl (hb hby d12_63) q) ?_
                      show Dn p e below s _ _ _ s₁ (mkF m 65 #[.val (.int x1), .unset] [(.int (61 : Int32)), (.int x1)])
                      by_cases c19 : x1 = (61 : Int32)
                      · refine Dn.st (fun t q => XS.icmpYes X0.here hx rfl (pc0 := 65) (pc' := 116) rfl (hb hby d12_65) rfl (teq c19).1 (by decide) (by decide) q) ?_
                        show Dn p e below s _ _ _ s₁ (mkF m 116 #[.val (.int x1), .unset] [])
                        refine Dn.st (fun t q => XS.iconst X0.here hx rfl (hb hby d12_116) q) ?_
                        show Dn p e below s _ _ _ s₁ (mkF m 117 #[.val (.int x1), .unset] [(.int (1 : Int32))])
                        refine Dn.st (fun t q => XS.goto X0.here hx rfl (pc0 := 117) (pc' := 121) rfl (hb hby d12_117) (by decide) (by decide) q) ?_
                        show Dn p e below s _ _ _ s₁ (mkF m 121 #[.val (.int x1), .unset] [(.int (1 : Int32))])
                        refine Dn.st (fun t q => XS.istoreN X0.here hx rfl (hb hby d12_121) rfl (l' := #[.val (.int x1), .val (.int (1 : Int32))]) rfl q) ?_
                        show Dn p e below s _ _ _ s₁ (mkF m 122 #[.val (.int x1), .val (.int (1 : Int32))] [])
                        refine Dn.st (fun t q => XS.iloadN X0.here hx rfl (hb hby d12_122) rfl  q) ?_
                        show Dn p e below s _ _ _ s₁ (mkF m 123 #[.val (.int x1), .val (.int (1 : Int32))] [(.int (1 : Int32))])
                        by_cases c20 : (1 : Int32) = (0 : Int32)
                        · refine Dn.st (fun t q => XS.ifNo X0.here hx rfl (hb hby d12_123) rfl ((if0 _ _).trans (teq c20).2) q) ?_
                          show Dn p e below s _ _ _ s₁ (mkF m 126 #[.val (.int x1), .val (.int (1 : Int32))] [])
                          refine Dn.st (fun t q => XS.iconst X0.here hx rfl (hb hby d12_126) q) ?_
                          show Dn p e below s _ _ _ s₁ (mkF m 127 #[.val (.int x1), .val (.int (1 : Int32))] [(.int (1 : Int32))])
                          refine Dn.st (fun t q => XS.goto X0.here hx rfl (pc0 := 127) (pc' := 131) rfl (hb hby d12_127) (by decide) (by decide) q) ?_
                          show Dn p e below s _ _ _ s₁ (mkF m 131 #[.val (.int x1), .val (.int (1 : Int32))] [(.int (1 : Int32))])
                          exact Dn.retZ X0 hx Bd.notSynchronized (t := .boolean) Bd.returns (by simp) (hb hby d12_131) (by rw [e0]; exact ⟨by show some (Value.int (1 : Int32)) = some (Value.int (own_exp x1)); rw [own_exp, if_pos c1, if_pos c2, if_neg c3, if_neg c5, if_neg c7, if_neg c9, if_neg c11, if_neg c13, if_neg c15, if_neg c17, if_pos c19, if_pos c20], N0, rfl⟩) (by decide) (by decide)
                        · refine Dn.st (fun t q => XS.ifYes X0.here hx rfl (pc0 := 123) (pc' := 130) rfl (hb hby d12_123) rfl ((if0 _ _).trans (feq c20).2) (by decide) (by decide) q) ?_
                          show Dn p e below s _ _ _ s₁ (mkF m 130 #[.val (.int x1), .val (.int (1 : Int32))] [])
                          refine Dn.st (fun t q => XS.iconst X0.here hx rfl (hb hby d12_130) q) ?_
                          show Dn p e below s _ _ _ s₁ (mkF m 131 #[.val (.int x1), .val (.int (1 : Int32))] [(.int (0 : Int32))])
                          exact Dn.retZ X0 hx Bd.notSynchronized (t := .boolean) Bd.returns (by simp) (hb hby d12_131) (by rw [e0]; exact ⟨by show some (Value.int (0 : Int32)) = some (Value.int (own_exp x1)); rw [own_exp, if_pos c1, if_pos c2, if_neg c3, if_neg c5, if_neg c7, if_neg c9, if_neg c11, if_neg c13, if_neg c15, if_neg c17, if_pos c19, if_neg c20], N0, rfl⟩) (by decide) (by decide)
                      · refine Dn.st (fun t q => XS.icmpNo X0.here hx rfl (hb hby d12_65) rfl (feq c19).1 q) ?_
                        show Dn p e below s _ _ _ s₁ (mkF m 68 #[.val (.int x1), .unset] [])
                        refine Dn.st (fun t q => XS.iloadN X0.here hx rfl (hb hby d12_68) rfl  q) ?_
                        show Dn p e below s _ _ _ s₁ (mkF m 69 #[.val (.int x1), .unset] [(.int x1)])
                        refine Dn.st (fun t q => XS.bipush X0.here hx rfl (hb hby d12_69) q) ?_
                        show Dn p e below s _ _ _ s₁ (mkF m 71 #[.val (.int x1), .unset] [(.int (62 : Int32)), (.int x1)])
                        by_cases c21 : x1 = (62 : Int32)
                        · refine Dn.st (fun t q => XS.icmpYes X0.here hx rfl (pc0 := 71) (pc' := 116) rfl (hb hby d12_71) rfl (teq c21).1 (by decide) (by decide) q) ?_
                          show Dn p e below s _ _ _ s₁ (mkF m 116 #[.val (.int x1), .unset] [])
                          refine Dn.st (fun t q => XS.iconst X0.here hx rfl (hb hby d12_116) q) ?_
                          show Dn p e below s _ _ _ s₁ (mkF m 117 #[.val (.int x1), .unset] [(.int (1 : Int32))])
                          refine Dn.st (fun t q => XS.goto X0.here hx rfl (pc0 := 117) (pc' := 121) rfl (hb hby d12_117) (by decide) (by decide) q) ?_
                          show Dn p e below s _ _ _ s₁ (mkF m 121 #[.val (.int x1), .unset] [(.int (1 : Int32))])
                          refine Dn.st (fun t q => XS.istoreN X0.here hx rfl (hb hby d12_121) rfl (l' := #[.val (.int x1), .val (.int (1 : Int32))]) rfl q) ?_
                          show Dn p e below s _ _ _ s₁ (mkF m 122 #[.val (.int x1), .val (.int (1 : Int32))] [])
                          refine Dn.st (fun t q => XS.iloadN X0.here hx rfl (hb hby d12_122) rfl  q) ?_
                          show Dn p e below s _ _ _ s₁ (mkF m 123 #[.val (.int x1), .val (.int (1 : Int32))] [(.int (1 : Int32))])
                          by_cases c22 : (1 : Int32) = (0 : Int32)
                          · refine Dn.st (fun t q => XS.ifNo X0.here hx rfl (hb hby d12_123) rfl ((if0 _ _).trans (teq c22).2) q) ?_
                            show Dn p e below s _ _ _ s₁ (mkF m 126 #[.val (.int x1), .val (.int (1 : Int32))] [])
                            refine Dn.st (fun t q => XS.iconst X0.here hx rfl (hb hby d12_126) q) ?_
                            show Dn p e below s _ _ _ s₁ (mkF m 127 #[.val (.int x1), .val (.int (1 : Int32))] [(.int (1 : Int32))])
                            refine Dn.st (fun t q => XS.goto X0.here hx rfl (pc0 := 127) (pc' := 131) rfl (hb hby d12_127) (by decide) (by decide) q) ?_
                            show Dn p e below s _ _ _ s₁ (mkF m 131 #[.val (.int x1), .val (.int (1 : Int32))] [(.int (1 : Int32))])
                            exact Dn.retZ X0 hx Bd.notSynchronized (t := .boolean) Bd.returns (by simp) (hb hby d12_131) (by rw [e0]; exact ⟨by show some (Value.int (1 : Int32)) = some (Value.int (own_exp x1)); rw [own_exp, if_pos c1, if_pos c2, if_neg c3, if_neg c5, if_neg c7, if_neg c9, if_neg c11, if_neg c13, if_neg c15, if_neg c17, if_neg c19, if_pos c21, if_pos c22], N0, rfl⟩) (by decide) (by decide)
                          · refine Dn.st (fun t q => XS.ifYes X0.here hx rfl (pc0 := 123) (pc' := 130) rfl (hb hby d12_123) rfl ((if0 _ _).trans (feq c22).2) (by decide) (by decide) q) ?_
                            show Dn p e below s _ _ _ s₁ (mkF m 130 #[.val (.int x1), .val (.int (1 : Int32))] [])
                            refine Dn.st (fun t q => XS.iconst X0.here hx rfl (hb hby d12_130) q) ?_
                            show Dn p e below s _ _ _ s₁ (mkF m 131 #[.val (.int x1), .val (.int (1 : Int32))] [(.int (0 : Int32))])
                            exact Dn.retZ X0 hx Bd.notSynchronized (t := .boolean) Bd.returns (by simp) (hb hby d12_131) (by rw [e0]; exact ⟨by show some (Value.int (0 : Int32)) = some (Value.int (own_exp x1)); rw [own_exp, if_pos c1, if_pos c2, if_neg c3, if_neg c5, if_neg c7, if_neg c9, if_neg c11, if_neg c13, if_neg c15, if_neg c17, if_neg c19, if_pos c21, if_neg c22], N0, rfl⟩) (by decide) (by decide)
                        · refine Dn.st (fun t q => XS.icmpNo X0.here hx rfl (hb hby d12_71) rfl (feq c21).1 q) ?_
                          show Dn p e below s _ _ _ s₁ (mkF m 74 #[.val (.int x1), .unset] [])
                          refine Dn.st (fun t q => XS.iloadN X0.here hx rfl (hb hby d12_74) rfl  q) ?_
                          show Dn p e below s _ _ _ s₁ (mkF m 75 #[.val (.int x1), .unset] [(.int x1)])
                          refine Dn.st (fun t q => XS.bipush X0.here hx rfl (hb hby d12_75) q) ?_
                          show Dn p e below s _ _ _ s₁ (mkF m 77 #[.val (.int x1), .unset] [(.int (63 : Int32)), (.int x1)])
                          by_cases c23 : x1 = (63 : Int32)
                          · refine Dn.st (fun t q => XS.icmpYes X0.here hx rfl (pc0 := 77) (pc' := 116) rfl (hb hby d12_77) rfl (teq c23).1 (by decide) (by decide) q) ?_
                            show Dn p e below s _ _ _ s₁ (mkF m 116 #[.val (.int x1), .unset] [])
                            refine Dn.st (fun t q => XS.iconst X0.here hx rfl (hb hby d12_116) q) ?_
                            show Dn p e below s _ _ _ s₁ (mkF m 117 #[.val (.int x1), .unset] [(.int (1 : Int32))])
                            refine Dn.st (fun t q => XS.goto X0.here hx rfl (pc0 := 117) (pc' := 121) rfl (hb hby d12_117) (by decide) (by decide) q) ?_
                            show Dn p e below s _ _ _ s₁ (mkF m 121 #[.val (.int x1), .unset] [(.int (1 : Int32))])
                            refine Dn.st (fun t q => XS.istoreN X0.here hx rfl (hb hby d12_121) rfl (l' := #[.val (.int x1), .val (.int (1 : Int32))]) rfl q) ?_
                            show Dn p e below s _ _ _ s₁ (mkF m 122 #[.val (.int x1), .val (.int (1 : Int32))] [])
                            refine Dn.st (fun t q => XS.iloadN X0.here hx rfl (hb hby d12_122) rfl  q) ?_
                            show Dn p e below s _ _ _ s₁ (mkF m 123 #[.val (.int x1), .val (.int (1 : Int32))] [(.int (1 : Int32))])
                            by_cases c24 : (1 : Int32) = (0 : Int32)
                            · refine Dn.st (fun t q => XS.ifNo X0.here hx rfl (hb hby d12_123) rfl ((if0 _ _).trans (teq c24).2) q) ?_
                              show Dn p e below s _ _ _ s₁ (mkF m 126 #[.val (.int x1), .val (.int (1 : Int32))] [])
                              refine Dn.st (fun t q => XS.iconst X0.here hx rfl (hb hby d12_126) q) ?_
                              show Dn p e below s _ _ _ s₁ (mkF m 127 #[.val (.int x1), .val (.int (1 : Int32))] [(.int (1 : Int32))])
                              refine Dn.st (fun t q => XS.goto X0.here hx rfl (pc0 := 127) (pc' := 131) rfl (hb hby d12_127) (by decide) (by decide) q) ?_
                              show Dn p e below s _ _ _ s₁ (mkF m 131 #[.val (.int x1), .val (.int (1 : Int32))] [(.int (1 : Int32))])
                              exact Dn.retZ X0 hx Bd.notSynchronized (t := .boolean) Bd.returns (by simp) (hb hby d12_131) (by rw [e0]; exact ⟨by show some (Value.int (1 : Int32)) = some (Value.int (own_exp x1)); rw [own_exp, if_pos c1, if_pos c2, if_neg c3, if_neg c5, if_neg c7, if_neg c9, if_neg c11, if_neg c13, if_neg c15, if_neg c17, if_neg c19, if_neg c21, if_pos c23, if_pos c24], N0, rfl⟩) (by decide) (by decide)
                            · refine Dn.st (fun t q => XS.ifYes X0.here hx rfl (pc0 := 123) (pc' := 130) rfl (hb hby d12_123) rfl ((if0 _ _).trans (feq c24).2) (by decide) (by decide) q) ?_
                              show Dn p e below s _ _ _ s₁ (mkF m 130 #[.val (.int x1), .val (.int (1 : Int32))] [])
                              refine Dn.st (fun t q => XS.iconst X0.here hx rfl (hb hby d12_130) q) ?_
                              show Dn p e below s _ _ _ s₁ (mkF m 131 #[.val (.int x1), .val (.int (1 : Int32))] [(.int (0 : Int32))])
                              exact Dn.retZ X0 hx Bd.notSynchronized (t := .boolean) Bd.returns (by simp) (hb hby d12_131) (by rw [e0]; exact ⟨by show some (Value.int (0 : Int32)) = some (Value.int (own_exp x1)); rw [own_exp, if_pos c1, if_pos c2, if_neg c3, if_neg c5, if_neg c7, if_neg c9, if_neg c11, if_neg c13, if_neg c15, if_neg c17, if_neg c19, if_neg c21, if_pos c23, if_neg c24], N0, rfl⟩) (by decide) (by decide)
                          · refine Dn.st (fun t q => XS.icmpNo X0.here hx rfl (hb hby d12_77) rfl (feq c23).1 q) ?_
                            show Dn p e below s _ _ _ s₁ (mkF m 80 #[.val (.int x1), .unset] [])
                            refine Dn.st (fun t q => XS.iloadN X0.here hx rfl (hb hby d12_80) rfl  q) ?_
                            show Dn p e below s _ _ _ s₁ (mkF m 81 #[.val (.int x1), .unset] [(.int x1)])
                            refine Dn.st (fun t q => XS.bipush X0.here hx rfl (hb hby d12_81) q) ?_
                            show Dn p e below s _ _ _ s₁ (mkF m 83 #[.val (.int x1), .unset] [(.int (64 : Int32)), (.int x1)])
                            by_cases c25 : x1 = (64 : Int32)
                            · refine Dn.st (fun t q => XS.icmpYes X0.here hx rfl (pc0 := 83) (pc' := 116) rfl (hb hby d12_83) rfl (teq c25).1 (by decide) (by decide) q) ?_
                              show Dn p e below s _ _ _ s₁ (mkF m 116 #[.val (.int x1), .unset] [])
                              refine Dn.st (fun t q => XS.iconst X0.here hx rfl (hb hby d12_116) q) ?_
                              show Dn p e below s _ _ _ s₁ (mkF m 117 #[.val (.int x1), .unset] [(.int (1 : Int32))])
                              refine Dn.st (fun t q => XS.goto X0.here hx rfl (pc0 := 117) (pc' := 121) rfl (hb hby d12_117) (by decide) (by decide) q) ?_
                              show Dn p e below s _ _ _ s₁ (mkF m 121 #[.val (.int x1), .unset] [(.int (1 : Int32))])
                              refine Dn.st (fun t q => XS.istoreN X0.here hx rfl (hb hby d12_121) rfl (l' := #[.val (.int x1), .val (.int (1 : Int32))]) rfl q) ?_
                              show Dn p e below s _ _ _ s₁ (mkF m 122 #[.val (.int x1), .val (.int (1 : Int32))] [])
                              refine Dn.st (fun t q => XS.iloadN X0.here hx rfl (hb hby d12_122) rfl  q) ?_
                              show Dn p e below s _ _ _ s₁ (mkF m 123 #[.val (.int x1), .val (.int (1 : Int32))] [(.int (1 : Int32))])
                              by_cases c26 : (1 : Int32) = (0 : Int32)
                              · refine Dn.st (fun t q => XS.ifNo X0.here hx rfl (hb hby d12_123) rfl ((if0 _ _).trans (teq c26).2) q) ?_
                                show Dn p e below s _ _ _ s₁ (mkF m 126 #[.val (.int x1), .val (.int (1 : Int32))] [])
                                refine Dn.st (fun t q => XS.iconst X0.here hx rfl (hb hby d12_126) q) ?_
                                show Dn p e below s _ _ _ s₁ (mkF m 127 #[.val (.int x1), .val (.int (1 : Int32))] [(.int (1 : Int32))])
                                refine Dn.st (fun t q => XS.goto X0.here hx rfl (pc0 := 127) (pc' := 131) rfl (hb hby d12_127) (by decide) (by decide) q) ?_
                                show Dn p e below s _ _ _ s₁ (mkF m 131 #[.val (.int x1), .val (.int (1 : Int32))] [(.int (1 : Int32))])
                                exact Dn.retZ X0 hx Bd.notSynchronized (t := .boolean) Bd.returns (by simp) (hb hby d12_131) (by rw [e0]; exact ⟨by show some (Value.int (1 : Int32)) = some (Value.int (own_exp x1)); rw [own_exp, if_pos c1, if_pos c2, if_neg c3, if_neg c5, if_neg c7, if_neg c9, if_neg c11, if_neg c13, if_neg c15, if_neg c17, if_neg c19, if_neg c21, if_neg c23, if_pos c25, if_pos c26], N0, rfl⟩) (by decide) (by decide)
                              · refine Dn.st (fun t q => XS.ifYes X0.here hx rfl (pc0 := 123) (pc' := 130) rfl (hb hby d12_123) rfl ((if0 _ _).trans (feq c26).2) (by decide) (by decide) q) ?_
                                show Dn p e below s _ _ _ s₁ (mkF m 130 #[.val (.int x1), .val (.int (1 : Int32))] [])
                                refine Dn.st (fun t q => XS.iconst X0.here hx rfl (hb hby d12_130) q) ?_
                                show Dn p e below s _ _ _ s₁ (mkF m 131 #[.val (.int x1), .val (.int (1 : Int32))] [(.int (0 : Int32))])
                                exact Dn.retZ X0 hx Bd.notSynchronized (t := .boolean) Bd.returns (by simp) (hb hby d12_131) (by rw [e0]; exact ⟨by show some (Value.int (0 : Int32)) = some (Value.int (own_exp x1)); rw [own_exp, if_pos c1, if_pos c2, if_neg c3, if_neg c5, if_neg c7, if_neg c9, if_neg c11, if_neg c13, if_neg c15, if_neg c17, if_neg c19, if_neg c21, if_neg c23, if_pos c25, if_neg c26], N0, rfl⟩) (by decide) (by decide)
                            · refine Dn.st (fun t q => XS.icmpNo X0.here hx rfl (hb hby d12_83) rfl (feq c25).1 q) ?_
                              show Dn p e below s _ _ _ s₁ (mkF m 86 #[.val (.int x1), .unset] [])
                              refine Dn.st (fun t q => XS.iloadN X0.here hx rfl (hb hby d12_86) rfl  q) ?_
                              show Dn p e below s _ _ _ s₁ (mkF m 87 #[.val (.int x1), .unset] [(.int x1)])
                              refine Dn.st (fun t q => XS.bipush X0.here hx rfl (hb hby d12_87) q) ?_
                              show Dn p e below s _ _ _ s₁ (mkF m 89 #[.val (.int x1), .unset] [(.int (91 : Int32)), (.int x1)])
                              by_cases c27 : x1 = (91 : Int32)
                              · refine Dn.st (fun t q => XS.icmpYes X0.here hx rfl (pc0 := 89) (pc' := 116) rfl (hb hby d12_89) rfl (teq c27).1 (by decide) (by decide) q) ?_
                                show Dn p e below s _ _ _ s₁ (mkF m 116 #[.val (.int x1), .unset] [])
                                refine Dn.st (fun t q => XS.iconst X0.here hx rfl (hb hby d12_116) q) ?_
                                show Dn p e below s _ _ _ s₁ (mkF m 117 #[.val (.int x1), .unset] [(.int (1 : Int32))])
                                refine Dn.st (fun t q => XS.goto X0.here hx rfl (pc0 := 117) (pc' := 121) rfl (hb hby d12_117) (by decide) (by decide) q) ?_
                                show Dn p e below s _ _ _ s₁ (mkF m 121 #[.val (.int x1), .unset] [(.int (1 : Int32))])
                                refine Dn.st (fun t q => XS.istoreN X0.here hx rfl (hb hby d12_121) rfl (l' := #[.val (.int x1), .val (.int (1 : Int32))]) rfl q) ?_
                                show Dn p e below s _ _ _ s₁ (mkF m 122 #[.val (.int x1), .val (.int (1 : Int32))] [])
                                refine Dn.st (fun t q => XS.iloadN X0.here hx rfl (hb hby d12_122) rfl  q) ?_
                                show Dn p e below s _ _ _ s₁ (mkF m 123 #[.val (.int x1), .val (.int (1 : Int32))] [(.int (1 : Int32))])
                                by_cases c28 : (1 : Int32) = (0 : Int32)
                                · refine Dn.st (fun t q => XS.ifNo X0.here hx rfl (hb hby d12_123) rfl ((if0 _ _).trans (teq c28).2) q) ?_
                                  show Dn p e below s _ _ _ s₁ (mkF m 126 #[.val (.int x1), .val (.int (1 : Int32))] [])
                                  refine Dn.st (fun t q => XS.iconst X0.here hx rfl (hb hby d12_126) q) ?_
                                  show Dn p e below s _ _ _ s₁ (mkF m 127 #[.val (.int x1), .val (.int (1 : Int32))] [(.int (1 : Int32))])
                                  refine Dn.st (fun t q => XS.goto X0.here hx rfl (pc0 := 127) (pc' := 131) rfl (hb hby d12_127) (by decide) (by decide) q) ?_
                                  show Dn p e below s _ _ _ s₁ (mkF m 131 #[.val (.int x1), .val (.int (1 : Int32))] [(.int (1 : Int32))])
                                  exact Dn.retZ X0 hx Bd.notSynchronized (t := .boolean) Bd.returns (by simp) (hb hby d12_131) (by rw [e0]; exact ⟨by show some (Value.int (1 : Int32)) = some (Value.int (own_exp x1)); rw [own_exp, if_pos c1, if_pos c2, if_neg c3, if_neg c5, if_neg c7, if_neg c9, if_neg c11, if_neg c13, if_neg c15, if_neg c17, if_neg c19, if_neg c21, if_neg c23, if_neg c25, if_pos c27, if_pos c28], N0, rfl⟩) (by decide) (by decide)
                                · refine Dn.st (fun t q => XS.ifYes X0.here hx rfl (pc0 := 123) (pc' := 130) rfl (hb hby d12_123) rfl ((if0 _ _).trans (feq c28).2) (by decide) (by decide) q) ?_
                                  show Dn p e below s _ _ _ s₁ (mkF m 130 #[.val (.int x1), .val (.int (1 : Int32))] [])
                                  refine Dn.st (fun t q => XS.iconst X0.here hx rfl (hb hby d12_130) q) ?_
                                  show Dn p e below s _ _ _ s₁ (mkF m 131 #[.val (.int x1), .val (.int (1 : Int32))] [(.int (0 : Int32))])
                                  exact Dn.retZ X0 hx Bd.notSynchronized (t := .boolean) Bd.returns (by simp) (hb hby d12_131) (by rw [e0]; exact ⟨by show some (Value.int (0 : Int32)) = some (Value.int (own_exp x1)); rw [own_exp, if_pos c1, if_pos c2, if_neg c3, if_neg c5, if_neg c7, if_neg c9, if_neg c11, if_neg c13, if_neg c15, if_neg c17, if_neg c19, if_neg c21, if_neg c23, if_neg c25, if_pos c27, if_neg c28], N0, rfl⟩) (by decide) (by decide)
                              · refine Dn.st (fun t q => XS.icmpNo X0.here hx rfl (hb hby d12_89) rfl (feq c27).1 q) ?_
                                show Dn p e below s _ _ _ s₁ (mkF m 92 #[.val (.int x1), .unset] [])
                                refine Dn.st (fun t q => XS.iloadN X0.here hx rfl (hb hby d12_92) rfl  q) ?_
                                show Dn p e below s _ _ _ s₁ (mkF m 93 #[.val (.int x1), .unset] [(.int x1)])
                                refine Dn.st (fun t q => XS.bipush X0.here hx rfl (hb hby d12_93) q) ?_
                                show Dn p e below s _ _ _ s₁ (mkF m 95 #[.val (.int x1), .unset] [(.int (92 : Int32)), (.int x1)])
                                by_cases c29 : x1 = (92 : Int32)
                                · refine Dn.st (fun t q => XS.icmpYes X0.here hx rfl (pc0 := 95) (pc' := 116) rfl (hb hby d12_95) rfl (teq c29).1 (by decide) (by decide) q) ?_
                                  show Dn p e below s _ _ _ s₁ (mkF m 116 #[.val (.int x1), .unset] [])
                                  refine Dn.st (fun t q => XS.iconst X0.here hx rfl (hb hby d12_116) q) ?_
                                  show Dn p e below s _ _ _ s₁ (mkF m 117 #[.val (.int x1), .unset] [(.int (1 : Int32))])
                                  refine Dn.st (fun t q => XS.goto X0.here hx rfl (pc0 := 117) (pc' := 121) rfl (hb hby d12_117) (by decide) (by decide) q) ?_
                                  show Dn p e below s _ _ _ s₁ (mkF m 121 #[.val (.int x1), .unset] [(.int (1 : Int32))])
                                  refine Dn.st (fun t q => XS.istoreN X0.here hx rfl (hb hby d12_121) rfl (l' := #[.val (.int x1), .val (.int (1 : Int32))]) rfl q) ?_
                                  show Dn p e below s _ _ _ s₁ (mkF m 122 #[.val (.int x1), .val (.int (1 : Int32))] [])
                                  refine Dn.st (fun t q => XS.iloadN X0.here hx rfl (hb hby d12_122) rfl  q) ?_
                                  show Dn p e below s _ _ _ s₁ (mkF m 123 #[.val (.int x1), .val (.int (1 : Int32))] [(.int (1 : Int32))])
                                  by_cases c30 : (1 : Int32) = (0 : Int32)
                                  · refine Dn.st (fun t q => XS.ifNo X0.here hx rfl (hb hby d12_123) rfl ((if0 _ _).trans (teq c30).2) q) ?_
                                    show Dn p e below s _ _ _ s₁ (mkF m 126 #[.val (.int x1), .val (.int (1 : Int32))] [])
                                    refine Dn.st (fun t q => XS.iconst X0.here hx rfl (hb hby d12_126) q) ?_
                                    show Dn p e below s _ _ _ s₁ (mkF m 127 #[.val (.int x1), .val (.int (1 : Int32))] [(.int (1 : Int32))])
                                    refine Dn.st (fun t q => XS.goto X0.here hx rfl (pc0 := 127) (pc' := 131) rfl (hb hby d12_127) (by decide) (by decide) q) ?_
                                    show Dn p e below s _ _ _ s₁ (mkF m 131 #[.val (.int x1), .val (.int (1 : Int32))] [(.int (1 : Int32))])
                                    exact Dn.retZ X0 hx Bd.notSynchronized (t := .boolean) Bd.returns (by simp) (hb hby d12_131) (by rw [e0]; exact ⟨by show some (Value.int (1 : Int32)) = some (Value.int (own_exp x1)); rw [own_exp, if_pos c1, if_pos c2, if_neg c3, if_neg c5, if_neg c7, if_neg c9, if_neg c11, if_neg c13, if_neg c15, if_neg c17, if_neg c19, if_neg c21, if_neg c23, if_neg c25, if_neg c27, if_pos c29, if_pos c30], N0, rfl⟩) (by decide) (by decide)
                                  · refine Dn.st (fun t q => XS.ifYes X0.here hx rfl (pc0 := 123) (pc' := 130) rfl (hb hby d12_123) rfl ((if0 _ _).trans (feq c30).2) (by decide) (by decide) q) ?_
                                    show Dn p e below s _ _ _ s₁ (mkF m 130 #[.val (.int x1), .val (.int (1 : Int32))] [])
                                    refine Dn.st (fun t q => XS.iconst X0.here hx rfl (hb hby d12_130) q) ?_
                                    show Dn p e below s _ _ _ s₁ (mkF m 131 #[.val (.int x1), .val (.int (1 : Int32))] [(.int (0 : Int32))])
                                    exact Dn.retZ X0 hx Bd.notSynchronized (t := .boolean) Bd.returns (by simp) (hb hby d12_131) (by rw [e0]; exact ⟨by show some (Value.int (0 : Int32)) = some (Value.int (own_exp x1)); rw [own_exp, if_pos c1, if_pos c2, if_neg c3, if_neg c5, if_neg c7, if_neg c9, if_neg c11, if_neg c13, if_neg c15, if_neg c17, if_neg c19, if_neg c21, if_neg c23, if_neg c25, if_neg c27, if_pos c29, if_neg c30], N0, rfl⟩) (by decide) (by decide)
                                · refine Dn.st (fun t q => XS.icmpNo X0.here hx rfl (hb hby d12_95) rfl (feq c29).1 q) ?_
                                  show Dn p e below s _ _ _ s₁ (mkF m 98 #[.val (.int x1), .unset] [])
                                  refine Dn.st (fun t q => XS.iloadN X0.here hx rfl (hb hby d12_98) rfl  q) ?_
                                  show Dn p e below s _ _ _ s₁ (mkF m 99 #[.val (.int x1), .unset] [(.int x1)])
                                  refine Dn.st (fun t q => XS.bipush X0.here hx rfl (hb hby d12_99) q) ?_
                                  show Dn p e below s _ _ _ s₁ (mkF m 101 #[.val (.int x1), .unset] [(.int (93 : Int32)), (.int x1)])
                                  by_cases c31 : x1 = (93 : Int32)
                                  · refine Dn.st (fun t q => XS.icmpYes X0.here hx rfl (pc0 := 101) (pc' := 116) rfl (hb hby d12_101) rfl (teq c31).1 (by decide) (by decide) q) ?_
                                    show Dn p e below s _ _ _ s₁ (mkF m 116 #[.val (.int x1), .unset] [])
                                    refine Dn.st (fun t q => XS.iconst X0.here hx rfl (hb hby d12_116) q) ?_
                                    show Dn p e below s _ _ _ s₁ (mkF m 117 #[.val (.int x1), .unset] [(.int (1 : Int32))])
                                    refine Dn.st (fun t q => XS.goto X0.here hx rfl (pc0 := 117) (pc' := 121) rfl (hb hby d12_117) (by decide) (by decide) q) ?_
                                    show Dn p e below s _ _ _ s₁ (mkF m 121 #[.val (.int x1), .unset] [(.int (1 : Int32))])
                                    refine Dn.st (fun t q => XS.istoreN X0.here hx rfl (hb hby d12_121) rfl (l' := #[.val (.int x1), .val (.int (1 : Int32))]) rfl q) ?_
                                    show Dn p e below s _ _ _ s₁ (mkF m 122 #[.val (.int x1), .val (.int (1 : Int32))] [])
                                    refine Dn.st (fun t q => XS.iloadN X0.here hx rfl (hb hby d12_122) rfl  q) ?_
                                    show Dn p e below s _ _ _ s₁ (mkF m 123 #[.val (.int x1), .val (.int (1 : Int32))] [(.int (1 : Int32))])
                                    by_cases c32 : (1 : Int32) = (0 : Int32)
                                    · refine Dn.st (fun t q => XS.ifNo X0.here hx rfl (hb hby d12_123) rfl ((if0 _ _).trans (teq c32).2) q) ?_
                                      show Dn p e below s _ _ _ s₁ (mkF m 126 #[.val (.int x1), .val (.int (1 : Int32))] [])
                                      refine Dn.st (fun t q => XS.iconst X0.here hx rfl (hb hby d12_126) q) ?_
                                      show Dn p e below s _ _ _ s₁ (mkF m 127 #[.val (.int x1), .val (.int (1 : Int32))] [(.int (1 : Int32))])
                                      refine Dn.st (fun t q => XS.goto X0.here hx rfl (pc0 := 127) (pc' := 131) rfl (hb hby d12_127) (by decide) (by decide) q) ?_
                                      show Dn p e below s _ _ _ s₁ (mkF m 131 #[.val (.int x1), .val (.int (1 : Int32))] [(.int (1 : Int32))])
                                      exact Dn.retZ X0 hx Bd.notSynchronized (t := .boolean) Bd.returns (by simp) (hb hby d12_131) (by rw [e0]; exact ⟨by show some (Value.int (1 : Int32)) = some (Value.int (own_exp x1)); rw [own_exp, if_pos c1, if_pos c2, if_neg c3, if_neg c5, if_neg c7, if_neg c9, if_neg c11, if_neg c13, if_neg c15, if_neg c17, if_neg c19, if_neg c21, if_neg c23, if_neg c25, if_neg c27, if_neg c29, if_pos c31, if_pos c32], N0, rfl⟩) (by decide) (by decide)
                                    · refine Dn.st (fun t q => XS.ifYes X0.here hx rfl (pc0 := 123) (pc' := 130) rfl (hb hby d12_123) rfl ((if0 _ _).trans (feq c32).2) (by decide) (by decide) q) ?_
                                      show Dn p e below s _ _ _ s₁ (mkF m 130 #[.val (.int x1), .val (.int (1 : Int32))] [])
                                      refine Dn.st (fun t q => XS.iconst X0.here hx rfl (hb hby d12_130) q) ?_
                                      show Dn p e below s _ _ _ s₁ (mkF m 131 #[.val (.int x1), .val (.int (1 : Int32))] [(.int (0 : Int32))])
                                      exact Dn.retZ X0 hx Bd.notSynchronized (t := .boolean) Bd.returns (by simp) (hb hby d12_131) (by rw [e0]; exact ⟨by show some (Value.int (0 : Int32)) = some (Value.int (own_exp x1)); rw [own_exp, if_pos c1, if_pos c2, if_neg c3, if_neg c5, if_neg c7, if_neg c9, if_neg c11, if_neg c13, if_neg c15, if_neg c17, if_neg c19, if_neg c21, if_neg c23, if_neg c25, if_neg c27, if_neg c29, if_pos c31, if_neg c32], N0, rfl⟩) (by decide) (by decide)
                                  · refine Dn.st (fun t q => XS.icmpNo X0.here hx rfl (hb hby d12_101) rfl (feq c31).1 q) ?_
                                    show Dn p e below s _ _ _ s₁ (mkF m 104 #[.val (.int x1), .unset] [])
                                    refine Dn.st (fun t q => XS.iloadN X0.here hx rfl (hb hby d12_104) rfl  q) ?_
                                    show Dn p e below s _ _ _ s₁ (mkF m 105 #[.val (.int x1), .unset] [(.int x1)])
                                    refine Dn.st (fun t q => XS.bipush X0.here hx rfl (hb hby d12_105) q) ?_
                                    show Dn p e below s _ _ _ s₁ (mkF m 107 #[.val (.int x1), .unset] [(.int (123 : Int32)), (.int x1)])
                                    by_cases c33 : x1 = (123 : Int32)
                                    · refine Dn.st (fun t q => XS.icmpYes X0.here hx rfl (pc0 := 107) (pc' := 116) rfl (hb hby d12_107) rfl (teq c33).1 (by decide) (by decide) q) ?_
                                      show Dn p e below s _ _ _ s₁ (mkF m 116 #[.val (.int x1), .unset] [])
                                      refine Dn.st (fun t q => XS.iconst X0.here hx rfl (hb hby d12_116) q) ?_
                                      show Dn p e below s _ _ _ s₁ (mkF m 117 #[.val (.int x1), .unset] [(.int (1 : Int32))])
                                      refine Dn.st (fun t q => XS.goto X0.here hx rfl (pc0 := 117) (pc' := 121) rfl (hb hby d12_117) (by decide) (by decide) q) ?_
                                      show Dn p e below s _ _ _ s₁ (mkF m 121 #[.val (.int x1), .unset] [(.int (1 : Int32))])
                                      refine Dn.st (fun t q => XS.istoreN X0.here hx rfl (hb hby d12_121) rfl (l' := #[.val (.int x1), .val (.int (1 : Int32))]) rfl q) ?_
                                      show Dn p e below s _ _ _ s₁ (mkF m 122 #[.val (.int x1), .val (.int (1 : Int32))] [])
                                      refine Dn.st (fun t q => XS.iloadN X0.here hx rfl (hb hby d12_122) rfl  q) ?_
                                      show Dn p e below s _ _ _ s₁ (mkF m 123 #[.val (.int x1), .val (.int (1 : Int32))] [(.int (1 : Int32))])
                                      by_cases c34 : (1 : Int32) = (0 : Int32)
                                      · refine Dn.st (fun t q => XS.ifNo X0.here hx rfl (hb hby d12_123) rfl ((if0 _ _).trans (teq c34).2) q) ?_
                                        show Dn p e below s _ _ _ s₁ (mkF m 126 #[.val (.int x1), .val (.int (1 : Int32))] [])
                                        refine Dn.st (fun t q => XS.iconst X0.here hx rfl (hb hby d12_126) q) ?_
                                        show Dn p e below s _ _ _ s₁ (mkF m 127 #[.val (.int x1), .val (.int (1 : Int32))] [(.int (1 : Int32))])
                                        refine Dn.st (fun t q => XS.goto X0.here hx rfl (pc0 := 127) (pc' := 131) rfl (hb hby d12_127) (by decide) (by decide) q) ?_
                                        show Dn p e below s _ _ _ s₁ (mkF m 131 #[.val (.int x1), .val (.int (1 : Int32))] [(.int (1 : Int32))])
                                        exact Dn.retZ X0 hx Bd.notSynchronized (t := .boolean) Bd.returns (by simp) (hb hby d12_131) (by rw [e0]; exact ⟨by show some (Value.int (1 : Int32)) = some (Value.int (own_exp x1)); rw [own_exp, if_pos c1, if_pos c2, if_neg c3, if_neg c5, if_neg c7, if_neg c9, if_neg c11, if_neg c13, if_neg c15, if_neg c17, if_neg c19, if_neg c21, if_neg c23, if_neg c25, if_neg c27, if_neg c29, if_neg c31, if_pos c33, if_pos c34], N0, rfl⟩) (by decide) (by decide)
                                      · refine Dn.st (fun t q => XS.ifYes X0.here hx rfl (pc0 := 123) (pc' := 130) rfl (hb hby d12_123) rfl ((if0 _ _).trans (feq c34).2) (by decide) (by decide) q) ?_
                                        show Dn p e below s _ _ _ s₁ (mkF m 130 #[.val (.int x1), .val (.int (1 : Int32))] [])
                                        refine Dn.st (fun t q => XS.iconst X0.here hx rfl (hb hby d12_130) q) ?_
                                        show Dn p e below s _ _ _ s₁ (mkF m 131 #[.val (.int x1), .val (.int (1 : Int32))] [(.int (0 : Int32))])
                                        exact Dn.retZ X0 hx Bd.notSynchronized (t := .boolean) Bd.returns (by simp) (hb hby d12_131) (by rw [e0]; exact ⟨by show some (Value.int (0 : Int32)) = some (Value.int (own_exp x1)); rw [own_exp, if_pos c1, if_pos c2, if_neg c3, if_neg c5, if_neg c7, if_neg c9, if_neg c11, if_neg c13, if_neg c15, if_neg c17, if_neg c19, if_neg c21, if_neg c23, if_neg c25, if_neg c27, if_neg c29, if_neg c31, if_pos c33, if_neg c34], N0, rfl⟩) (by decide) (by decide)
                                    · refine Dn.st (fun t q => XS.icmpNo X0.here hx rfl (hb hby d12_107) rfl (feq c33).1 q) ?_
                                      show Dn p e below s _ _ _ s₁ (mkF m 110 #[.val (.int x1), .unset] [])
                                      refine Dn.st (fun t q => XS.iloadN X0.here hx rfl (hb hby d12_110) rfl  q) ?_
                                      show Dn p e below s _ _ _ s₁ (mkF m 111 #[.val (.int x1), .unset] [(.int x1)])
                                      refine Dn.st (fun t q => XS.bipush X0.here hx rfl (hb hby d12_111) q) ?_
                                      show Dn p e below s _ _ _ s₁ (mkF m 113 #[.val (.int x1), .unset] [(.int (125 : Int32)), (.int x1)])
                                      by_cases c35 : x1 = (125 : Int32)
                                      · refine Dn.st (fun t q => XS.icmpNo X0.here hx rfl (hb hby d12_113) rfl (teq c35).2 q) ?_
                                        show Dn p e below s _ _ _ s₁ (mkF m 116 #[.val (.int x1), .unset] [])
                                        refine Dn.st (fun t q => XS.iconst X0.here hx rfl (hb hby d12_116) q) ?_
                                        show Dn p e below s _ _ _ s₁ (mkF m 117 #[.val (.int x1), .unset] [(.int (1 : Int32))])
                                        refine Dn.st (fun t q => XS.goto X0.here hx rfl (pc0 := 117) (pc' := 121) rfl (hb hby d12_117) (by decide) (by decide) q) ?_
                                        show Dn p e below s _ _ _ s₁ (mkF m 121 #[.val (.int x1), .unset] [(.int (1 : Int32))])
                                        refine Dn.st (fun t q => XS.istoreN X0.here hx rfl (hb hby d12_121) rfl (l' := #[.val (.int x1), .val (.int (1 : Int32))]) rfl q) ?_
                                        show Dn p e below s _ _ _ s₁ (mkF m 122 #[.val (.int x1), .val (.int (1 : Int32))] [])
                                        refine Dn.st (fun t q => XS.iloadN X0.here hx rfl (hb hby d12_122) rfl  q) ?_
                                        show Dn p e below s _ _ _ s₁ (mkF m 123 #[.val (.int x1), .val (.int (1 : Int32))] [(.int (1 : Int32))])
                                        by_cases c36 : (1 : Int32) = (0 : Int32)
                                        · refine Dn.st (fun t q => XS.ifNo X0.here hx rfl (hb hby d12_123) rfl ((if0 _ _).trans (teq c36).2) q) ?_
                                          show Dn p e below s _ _ _ s₁ (mkF m 126 #[.val (.int x1), .val (.int (1 : Int32))] [])
                                          refine Dn.st (fun t q => XS.iconst X0.here hx rfl (hb hby d12_126) q) ?_
                                          show Dn p e below s _ _ _ s₁ (mkF m 127 #[.val (.int x1), .val (.int (1 : Int32))] [(.int (1 : Int32))])
                                          refine Dn.st (fun t q => XS.goto X0.here hx rfl (pc0 := 127) (pc' := 131) rfl (hb hby d12_127) (by decide) (by decide) q) ?_
                                          show Dn p e below s _ _ _ s₁ (mkF m 131 #[.val (.int x1), .val (.int (1 : Int32))] [(.int (1 : Int32))])
                                          exact Dn.retZ X0 hx Bd.notSynchronized (t := .boolean) Bd.returns (by simp) (hb hby d12_131) (by rw [e0]; exact ⟨by show some (Value.int (1 : Int32)) = some (Value.int (own_exp x1)); rw [own_exp, if_pos c1, if_pos c2, if_neg c3, if_neg c5, if_neg c7, if_neg c9, if_neg c11, if_neg c13, if_neg c15, if_neg c17, if_neg c19, if_neg c21, if_neg c23, if_neg c25, if_neg c27, if_neg c29, if_neg c31, if_neg c33, if_pos c35, if_pos c36], N0, rfl⟩) (by decide) (by decide)
                                        · refine Dn.st (fun t q => XS.ifYes X0.here hx rfl (pc0 := 123) (pc' := 130) rfl (hb hby d12_123) rfl ((if0 _ _).trans (feq c36).2) (by decide) (by decide) q) ?_
                                          show Dn p e below s _ _ _ s₁ (mkF m 130 #[.val (.int x1), .val (.int (1 : Int32))] [])
                                          refine Dn.st (fun t q => XS.iconst X0.here hx rfl (hb hby d12_130) q) ?_
                                          show Dn p e below s _ _ _ s₁ (mkF m 131 #[.val (.int x1), .val (.int (1 : Int32))] [(.int (0 : Int32))])
                                          exact Dn.retZ X0 hx Bd.notSynchronized (t := .boolean) Bd.returns (by simp) (hb hby d12_131) (by rw [e0]; exact ⟨by show some (Value.int (0 : Int32)) = some (Value.int (own_exp x1)); rw [own_exp, if_pos c1, if_pos c2, if_neg c3, if_neg c5, if_neg c7, if_neg c9, if_neg c11, if_neg c13, if_neg c15, if_neg c17, if_neg c19, if_neg c21, if_neg c23, if_neg c25, if_neg c27, if_neg c29, if_neg c31, if_neg c33, if_pos c35, if_neg c36], N0, rfl⟩) (by decide) (by decide)
                                      · refine Dn.st (fun t q => XS.icmpYes X0.here hx rfl (pc0 := 113) (pc' := 120) rfl (hb hby d12_113) rfl (feq c35).2 (by decide) (by decide) q) ?_
                                        show Dn p e below s _ _ _ s₁ (mkF m 120 #[.val (.int x1), .unset] [])
                                        refine Dn.st (fun t q => XS.iconst X0.here hx rfl (hb hby d12_120) q) ?_
                                        show Dn p e below s _ _ _ s₁ (mkF m 121 #[.val (.int x1), .unset] [(.int (0 : Int32))])
                                        refine Dn.st (fun t q => XS.istoreN X0.here hx rfl (hb hby d12_121) rfl (l' := #[.val (.int x1), .val (.int (0 : Int32))]) rfl q) ?_
                                        show Dn p e below s _ _ _ s₁ (mkF m 122 #[.val (.int x1), .val (.int (0 : Int32))] [])
                                        refine Dn.st (fun t q => XS.iloadN X0.here hx rfl (hb hby d12_122) rfl  q) ?_
                                        show Dn p e below s _ _ _ s₁ (mkF m 123 #[.val (.int x1), .val (.int (0 : Int32))] [(.int (0 : Int32))])
                                        by_cases c37 : (0 : Int32) = (0 : Int32)
                                        · refine Dn.st (fun t q => XS.ifNo X0.here hx rfl (hb hby d12_123) rfl ((if0 _ _).trans (teq c37).2) q) ?_
                                          show Dn p e below s _ _ _ s₁ (mkF m 126 #[.val (.int x1), .val (.int (0 : Int32))] [])
                                          refine Dn.st (fun t q => XS.iconst X0.here hx rfl (hb hby d12_126) q) ?_
                                          show Dn p e below s _ _ _ s₁ (mkF m 127 #[.val (.int x1), .val (.int (0 : Int32))] [(.int (1 : Int32))])
                                          refine Dn.st (fun t q => XS.goto X0.here hx rfl (pc0 := 127) (pc' := 131) rfl (hb hby d12_127) (by decide) (by decide) q) ?_
                                          show Dn p e below s _ _ _ s₁ (mkF m 131 #[.val (.int x1), .val (.int (0 : Int32))] [(.int (1 : Int32))])
                                          exact Dn.retZ X0 hx Bd.notSynchronized (t := .boolean) Bd.returns (by simp) (hb hby d12_131) (by rw [e0]; exact ⟨by show some (Value.int (1 : Int32)) = some (Value.int (own_exp x1)); rw [own_exp, if_pos c1, if_pos c2, if_neg c3, if_neg c5, if_neg c7, if_neg c9, if_neg c11, if_neg c13, if_neg c15, if_neg c17, if_neg c19, if_neg c21, if_neg c23, if_neg c25, if_neg c27, if_neg c29, if_neg c31, if_neg c33, if_neg c35, if_pos c37], N0, rfl⟩) (by decide) (by decide)
                                        · refine Dn.st (fun t q => XS.ifYes X0.here hx rfl (pc0 := 123) (pc' := 130) rfl (hb hby d12_123) rfl ((if0 _ _).trans (feq c37).2) (by decide) (by decide) q) ?_
                                          show Dn p e below s _ _ _ s₁ (mkF m 130 #[.val (.int x1), .val (.int (0 : Int32))] [])
                                          refine Dn.st (fun t q => XS.iconst X0.here hx rfl (hb hby d12_130) q) ?_
                                          show Dn p e below s _ _ _ s₁ (mkF m 131 #[.val (.int x1), .val (.int (0 : Int32))] [(.int (0 : Int32))])
                                          exact Dn.retZ X0 hx Bd.notSynchronized (t := .boolean) Bd.returns (by simp) (hb hby d12_131) (by rw [e0]; exact ⟨by show some (Value.int (0 : Int32)) = some (Value.int (own_exp x1)); rw [own_exp, if_pos c1, if_pos c2, if_neg c3, if_neg c5, if_neg c7, if_neg c9, if_neg c11, if_neg c13, if_neg c15, if_neg c17, if_neg c19, if_neg c21, if_neg c23, if_neg c25, if_neg c27, if_neg c29, if_neg c31, if_neg c33, if_neg c35, if_neg c37], N0, rfl⟩) (by decide) (by decide)
    · refine Dn.st (fun t q => XS.icmpNo X0.here hx rfl (hb hby d12_9) rfl (flt c2).1 q) ?_
      show Dn p e below s _ _ _ s₁ (mkF m 12 #[.val (.int x1), .unset] [])
      refine Dn.st (fun t q => XS.iconst X0.here hx rfl (hb hby d12_12) q) ?_
      show Dn p e below s _ _ _ s₁ (mkF m 13 #[.val (.int x1), .unset] [(.int (0 : Int32))])
      exact Dn.retZ X0 hx Bd.notSynchronized (t := .boolean) Bd.returns (by simp) (hb hby d12_13) (by rw [e0]; exact ⟨by show some (Value.int (0 : Int32)) = some (Value.int (own_exp x1)); rw [own_exp, if_pos c1, if_neg c2], N0, rfl⟩) (by decide) (by decide)
  · refine Dn.st (fun t q => XS.icmpYes X0.here hx rfl (pc0 := 3) (pc' := 12) rfl (hb hby d12_3) rfl (flt c1).2.2.2 (by decide) (by decide) q) ?_
    show Dn p e below s _ _ _ s₁ (mkF m 12 #[.val (.int x1), .unset] [])
    refine Dn.st (fun t q => XS.iconst X0.here hx rfl (hb hby d12_12) q) ?_
    show Dn p e below s _ _ _ s₁ (mkF m 13 #[.val (.int x1), .unset] [(.int (0 : Int32))])
    exact Dn.retZ X0 hx Bd.notSynchronized (t := .boolean) Bd.returns (by simp) (hb hby d12_13) (by rw [e0]; exact ⟨by show some (Value.int (0 : Int32)) = some (Value.int (own_exp x1)); rw [own_exp, if_neg c1], N0, rfl⟩) (by decide) (by decide)
theorem d4_0 : decode jdk_42_method_154_code 0 = .ok (.getstatic 38, 3) := by decide +kernel
theorem d4_3 : decode jdk_42_method_154_code 3 = .ok (.ifCond .eq 14, 3) := by decide +kernel
theorem d4_6 : decode jdk_42_method_154_code 6 = .ok (.aload_n 0, 1) := by decide +kernel
theorem d4_7 : decode jdk_42_method_154_code 7 = .ok (.getfield 15, 3) := by decide +kernel
theorem d4_10 : decode jdk_42_method_154_code 10 = .ok (.ifCond .ne 7, 3) := by decide +kernel
theorem d4_13 : decode jdk_42_method_154_code 13 = .ok (.iconst 1, 1) := by decide +kernel
theorem d4_14 : decode jdk_42_method_154_code 14 = .ok (.goto 4, 3) := by decide +kernel
theorem d4_18 : decode jdk_42_method_154_code 18 = .ok (.ireturn, 1) := by decide +kernel
theorem pn_2 : plainName "java/lang/String" = true := by first | (simp [plainName, overriddenIn]; done) | decide +kernel
theorem ef_rm4 (m : MethodId) (x0 : Addr) : entryFrame m #[(.ref x0)] 1 = mkF m 0 #[.val (.ref x0)] [] := by first | (simp [entryFrame, mkF, argsToLocals, Value.category]; done) | rfl
def Q4 (Z : State) (a1 : Addr) (xcs : Int32) (h0 : Heap) (n0 : Nat) (v : Option Value) (h : Heap) (L : List Loc) : Prop := v = some (.int (1 : Int32)) ∧ Fr n0 L ∧ h = h0
set_option maxRecDepth 65536 in
set_option maxHeartbeats 40000000 in
theorem rm4 (l : Launch) (Z : State) (a0 : Array Value) (hw : ∀ d ∈ tables_1, d.before a0 Z = true) (ws : List Jvm.Cond) (a1 : Addr) (xcs : Int32) (h0 : Heap) (n0 : Nat) (Z0 : n0 ≤ h0.size) (St : Sta Z h0 "java/lang/String" "COMPACT_STRINGS" "Z" (.int xcs)) (Fc : Fld Z h0 a1 "java/lang/String" "coder" "B" (.int (0 : Int32))) (hcs : ¬ (xcs = (0 : Int32))) :
    MetFree l (⟨"java/lang/String", "isLatin1", "()Z"⟩ : MethodName) (head1 (Jvm.Cond.code (⟨"java/lang/String", "isLatin1", "()Z"⟩ : MethodName) jdk_42_method_154_code 1 (some .boolean) :: ws) ({ frames := 0, cells := 0, slots := 0, locals := 0 } : Room)) (fun a U => a = #[(.ref a1)] ∧ Z.Warmed39 U.vm ∧ U.heap = h0) (fun _ _ _ _ _ => True) (fun _ U o U' => ∃ v L, o = .returned v ∧ Q4 Z a1 xcs h0 n0 v U'.heap L ∧ FrameEnd U o U' L ({ frames := 0, cells := 0, slots := 0, locals := 0 } : Room).cells ({ frames := 0, cells := 0, slots := 0, locals := 0 } : Room).slots) := by
  refine MetFree.of_bodySF (plainFor_of_name pn_2) hisR ?_
  intro p e s m args below meth c s₁ Bd hml0 hP hK
  obtain ⟨rfl, hZ, hh⟩ := hP
  have hx := Bd.exec
  have hby := Bd.bytes
  have hml : c.maxLocals = 1 := hml0
  have hown : s.vm.findClass "java/lang/String" = some m.cls := findClass_of_methodNamed Bd.named
  have hnm := (name_of_methodNamed Bd.named Bd.method).1
  have X0 : Stand p l e ({ frames := 0, cells := 0, slots := 0, locals := 0 } : Room) s m #[(.ref a1)] below meth c s₁ [] 0 0 := Stand.of_body Bd
  have e0 : s₁.heap = h0 := by rw [← hh, Bd.state]; rfl
  have N0 := Fr.nil n0
  have K0 := Keep.refl h0 []
  suffices hD : Dn p e below s (Q4 Z a1 xcs h0 n0) ({ frames := 0, cells := 0, slots := 0, locals := 0 } : Room).cells ({ frames := 0, cells := 0, slots := 0, locals := 0 } : Room).slots s₁ (mkF m 0 #[.val (.ref a1)] []) from by
    obtain ⟨s₂, o, q1, q2⟩ := hD
    exact ⟨s₂, o, castTop (ef_rm4 m a1) q1, q2⟩
  obtain ⟨T1, X1, e1, st1⟩ := getS2 X0 hx hZ hown (host := "") (Or.inl (hw _ (List.mem_of_getElem? (i := 27) rfl))) Via.refl e0 St (g := (mkF m 0 #[.val (.ref a1)] [])) rfl (hb hby d4_0)
  refine Dn.st st1 ?_
  show Dn p e below s _ _ _ T1 (mkF m 3 #[.val (.ref a1)] [(.int xcs)])
  refine Dn.st (fun t q => XS.ifNo X1.here hx rfl (hb hby d4_3) rfl ((if0 _ _).trans (feq hcs).1) q) ?_
  show Dn p e below s _ _ _ T1 (mkF m 6 #[.val (.ref a1)] [])
  refine Dn.st (fun t q => XS.aloadN X1.here hx rfl (hb hby d4_6) rfl rfl  q) ?_
  show Dn p e below s _ _ _ T1 (mkF m 7 #[.val (.ref a1)] [(.ref a1)])
  obtain ⟨T2, X2, e2, st2⟩ := getF X1 hx hZ hown (host := "") (Or.inl (hw _ (List.mem_of_getElem? (i := 28) rfl))) Via.refl e1 Fc (g := (mkF m 7 #[.val (.ref a1)] [(.ref a1)])) rfl rfl (hb hby d4_7)
  refine Dn.st st2 ?_
  show Dn p e below s _ _ _ T2 (mkF m 10 #[.val (.ref a1)] [(.int (0 : Int32))])
  refine Dn.st (fun t q => XS.ifNo X2.here hx rfl (hb hby d4_10) rfl ((if0 _ _).trans (teq rfl).2) q) ?_
  show Dn p e below s _ _ _ T2 (mkF m 13 #[.val (.ref a1)] [])
  refine Dn.st (fun t q => XS.iconst X2.here hx rfl (hb hby d4_13) q) ?_
  show Dn p e below s _ _ _ T2 (mkF m 14 #[.val (.ref a1)] [(.int (1 : Int32))])
  refine Dn.st (fun t q => XS.goto X2.here hx rfl (pc0 := 14) (pc' := 18) rfl (hb hby d4_14) (by decide) (by decide) q) ?_
  show Dn p e below s _ _ _ T2 (mkF m 18 #[.val (.ref a1)] [(.int (1 : Int32))])
  exact Dn.retZ X2 hx Bd.notSynchronized (t := .boolean) Bd.returns (by simp) (hb hby d4_18) (by rw [e2]; exact ⟨rfl, N0, rfl⟩) (by decide) (by decide)
theorem d6_0 : decode jdk_42_method_152_code 0 = .ok (.getstatic 38, 3) := by decide +kernel
theorem d6_3 : decode jdk_42_method_152_code 3 = .ok (.ifCond .eq 10, 3) := by decide +kernel
theorem d6_6 : decode jdk_42_method_152_code 6 = .ok (.aload_n 0, 1) := by decide +kernel
theorem d6_7 : decode jdk_42_method_152_code 7 = .ok (.getfield 15, 3) := by decide +kernel
theorem d6_10 : decode jdk_42_method_152_code 10 = .ok (.goto 4, 3) := by decide +kernel
theorem d6_14 : decode jdk_42_method_152_code 14 = .ok (.ireturn, 1) := by decide +kernel
theorem ef_rm6 (m : MethodId) (x0 : Addr) : entryFrame m #[(.ref x0)] 1 = mkF m 0 #[.val (.ref x0)] [] := by first | (simp [entryFrame, mkF, argsToLocals, Value.category]; done) | rfl
def Q6 (Z : State) (a1 : Addr) (xcs : Int32) (h0 : Heap) (n0 : Nat) (v : Option Value) (h : Heap) (L : List Loc) : Prop := v = some (.int (0 : Int32)) ∧ Fr n0 L ∧ h = h0
set_option maxRecDepth 65536 in
set_option maxHeartbeats 40000000 in
theorem rm6 (l : Launch) (Z : State) (a0 : Array Value) (hw : ∀ d ∈ tables_1, d.before a0 Z = true) (ws : List Jvm.Cond) (a1 : Addr) (xcs : Int32) (h0 : Heap) (n0 : Nat) (Z0 : n0 ≤ h0.size) (St : Sta Z h0 "java/lang/String" "COMPACT_STRINGS" "Z" (.int xcs)) (Fc : Fld Z h0 a1 "java/lang/String" "coder" "B" (.int (0 : Int32))) (hcs : ¬ (xcs = (0 : Int32))) :
    MetFree l (⟨"java/lang/String", "coder", "()B"⟩ : MethodName) (head1 (Jvm.Cond.code (⟨"java/lang/String", "coder", "()B"⟩ : MethodName) jdk_42_method_152_code 1 (some .byte) :: ws) ({ frames := 0, cells := 0, slots := 0, locals := 0 } : Room)) (fun a U => a = #[(.ref a1)] ∧ Z.Warmed39 U.vm ∧ U.heap = h0) (fun _ _ _ _ _ => True) (fun _ U o U' => ∃ v L, o = .returned v ∧ Q6 Z a1 xcs h0 n0 v U'.heap L ∧ FrameEnd U o U' L ({ frames := 0, cells := 0, slots := 0, locals := 0 } : Room).cells ({ frames := 0, cells := 0, slots := 0, locals := 0 } : Room).slots) := by
  refine MetFree.of_bodySF (plainFor_of_name pn_2) hisR ?_
  intro p e s m args below meth c s₁ Bd hml0 hP hK
  obtain ⟨rfl, hZ, hh⟩ := hP
  have hx := Bd.exec
  have hby := Bd.bytes
  have hml : c.maxLocals = 1 := hml0
  have hown : s.vm.findClass "java/lang/String" = some m.cls := findClass_of_methodNamed Bd.named
  have hnm := (name_of_methodNamed Bd.named Bd.method).1
  have X0 : Stand p l e ({ frames := 0, cells := 0, slots := 0, locals := 0 } : Room) s m #[(.ref a1)] below meth c s₁ [] 0 0 := Stand.of_body Bd
  have e0 : s₁.heap = h0 := by rw [← hh, Bd.state]; rfl
  have N0 := Fr.nil n0
  have K0 := Keep.refl h0 []
  suffices hD : Dn p e below s (Q6 Z a1 xcs h0 n0) ({ frames := 0, cells := 0, slots := 0, locals := 0 } : Room).cells ({ frames := 0, cells := 0, slots := 0, locals := 0 } : Room).slots s₁ (mkF m 0 #[.val (.ref a1)] []) from by
    obtain ⟨s₂, o, q1, q2⟩ := hD
    exact ⟨s₂, o, castTop (ef_rm6 m a1) q1, q2⟩
  obtain ⟨T1, X1, e1, st1⟩ := getS2 X0 hx hZ hown (host := "") (Or.inl (hw _ (List.mem_of_getElem? (i := 27) rfl))) Via.refl e0 St (g := (mkF m 0 #[.val (.ref a1)] [])) rfl (hb hby d6_0)
  refine Dn.st st1 ?_
  show Dn p e below s _ _ _ T1 (mkF m 3 #[.val (.ref a1)] [(.int xcs)])
  refine Dn.st (fun t q => XS.ifNo X1.here hx rfl (hb hby d6_3) rfl ((if0 _ _).trans (feq hcs).1) q) ?_
  show Dn p e below s _ _ _ T1 (mkF m 6 #[.val (.ref a1)] [])
  refine Dn.st (fun t q => XS.aloadN X1.here hx rfl (hb hby d6_6) rfl rfl  q) ?_
  show Dn p e below s _ _ _ T1 (mkF m 7 #[.val (.ref a1)] [(.ref a1)])
  obtain ⟨T2, X2, e2, st2⟩ := getF X1 hx hZ hown (host := "") (Or.inl (hw _ (List.mem_of_getElem? (i := 28) rfl))) Via.refl e1 Fc (g := (mkF m 7 #[.val (.ref a1)] [(.ref a1)])) rfl rfl (hb hby d6_7)
  refine Dn.st st2 ?_
  show Dn p e below s _ _ _ T2 (mkF m 10 #[.val (.ref a1)] [(.int (0 : Int32))])
  refine Dn.st (fun t q => XS.goto X2.here hx rfl (pc0 := 10) (pc' := 14) rfl (hb hby d6_10) (by decide) (by decide) q) ?_
  show Dn p e below s _ _ _ T2 (mkF m 14 #[.val (.ref a1)] [(.int (0 : Int32))])
  exact Dn.retZ X2 hx Bd.notSynchronized (t := .byte) Bd.returns (by simp) (hb hby d6_14) (by rw [e2]; exact ⟨rfl, N0, rfl⟩) (by decide) (by decide)
theorem d5_0 : decode jdk_42_method_54_code 0 = .ok (.aload_n 0, 1) := by decide +kernel
theorem d5_1 : decode jdk_42_method_54_code 1 = .ok (.getfield 9, 3) := by decide +kernel
theorem d5_4 : decode jdk_42_method_54_code 4 = .ok (.arraylength, 1) := by decide +kernel
theorem d5_5 : decode jdk_42_method_54_code 5 = .ok (.aload_n 0, 1) := by decide +kernel
theorem d5_6 : decode jdk_42_method_54_code 6 = .ok (.invokevirtual 335, 3) := by decide +kernel
theorem pd_0 : parseMethodDescriptor "()B" = some ⟨[], some .byte⟩ := by decide +kernel
theorem d5_9 : decode jdk_42_method_54_code 9 = .ok (.ishr, 1) := by decide +kernel
theorem d5_10 : decode jdk_42_method_54_code 10 = .ok (.ireturn, 1) := by decide +kernel
theorem ef_rm5 (m : MethodId) (x0 : Addr) : entryFrame m #[(.ref x0)] 1 = mkF m 0 #[.val (.ref x0)] [] := by first | (simp [entryFrame, mkF, argsToLocals, Value.category]; done) | rfl
def Q5 (Z : State) (a1 : Addr) (xcs : Int32) (ab : Addr) (h0 : Heap) (n0 : Nat) (v : Option Value) (h : Heap) (L : List Loc) : Prop := v = some (.int (15 : Int32)) ∧ Fr n0 L ∧ h = h0
set_option maxRecDepth 65536 in
set_option maxHeartbeats 40000000 in
theorem rm5 (l : Launch) (Z : State) (a0 : Array Value) (hw : ∀ d ∈ tables_1, d.before a0 Z = true) (ws : List Jvm.Cond) (a1 : Addr) (xcs : Int32) (ab : Addr) (h0 : Heap) (n0 : Nat) (Z0 : n0 ≤ h0.size) (St : Sta Z h0 "java/lang/String" "COMPACT_STRINGS" "Z" (.int xcs)) (E : Exa Z h0 a1 "java/lang/String") (Fc : Fld Z h0 a1 "java/lang/String" "coder" "B" (.int (0 : Int32))) (Fv : Fld Z h0 a1 "java/lang/String" "value" "[B" (.ref ab)) (A : Ary Z h0 ab .byte 15 (fun x => .int (own_f x))) (hcs : ¬ (xcs = (0 : Int32))) :
    MetFree l (⟨"java/lang/String", "length", "()I"⟩ : MethodName) (head1 (Jvm.Cond.code (⟨"java/lang/String", "length", "()I"⟩ : MethodName) jdk_42_method_54_code 1 (some .int) :: ws) ({ frames := 1, cells := 0, slots := 0, locals := 13 } : Room)) (fun a U => a = #[(.ref a1)] ∧ Z.Warmed39 U.vm ∧ U.heap = h0) (fun _ _ _ _ _ => True) (fun _ U o U' => ∃ v L, o = .returned v ∧ Q5 Z a1 xcs ab h0 n0 v U'.heap L ∧ FrameEnd U o U' L ({ frames := 1, cells := 0, slots := 0, locals := 13 } : Room).cells ({ frames := 1, cells := 0, slots := 0, locals := 13 } : Room).slots) := by
  refine MetFree.of_bodySF (plainFor_of_name pn_2) hisR ?_
  intro p e s m args below meth c s₁ Bd hml0 hP hK
  obtain ⟨rfl, hZ, hh⟩ := hP
  have hx := Bd.exec
  have hby := Bd.bytes
  have hml : c.maxLocals = 1 := hml0
  have hown : s.vm.findClass "java/lang/String" = some m.cls := findClass_of_methodNamed Bd.named
  have hnm := (name_of_methodNamed Bd.named Bd.method).1
  have X0 : Stand p l e ({ frames := 1, cells := 0, slots := 0, locals := 13 } : Room) s m #[(.ref a1)] below meth c s₁ [] 0 0 := Stand.of_body Bd
  have e0 : s₁.heap = h0 := by rw [← hh, Bd.state]; rfl
  have N0 := Fr.nil n0
  have K0 := Keep.refl h0 []
  suffices hD : Dn p e below s (Q5 Z a1 xcs ab h0 n0) ({ frames := 1, cells := 0, slots := 0, locals := 13 } : Room).cells ({ frames := 1, cells := 0, slots := 0, locals := 13 } : Room).slots s₁ (mkF m 0 #[.val (.ref a1)] []) from by
    obtain ⟨s₂, o, q1, q2⟩ := hD
    exact ⟨s₂, o, castTop (ef_rm5 m a1) q1, q2⟩
  refine Dn.st (fun t q => XS.aloadN X0.here hx rfl (hb hby d5_0) rfl rfl  q) ?_
  show Dn p e below s _ _ _ s₁ (mkF m 1 #[.val (.ref a1)] [(.ref a1)])
  obtain ⟨T1, X1, e1, st1⟩ := getF X0 hx hZ hown (host := "") (Or.inl (hw _ (List.mem_of_getElem? (i := 29) rfl))) Via.refl e0 Fv (g := (mkF m 1 #[.val (.ref a1)] [(.ref a1)])) rfl rfl (hb hby d5_1)
  refine Dn.st st1 ?_
  show Dn p e below s _ _ _ T1 (mkF m 4 #[.val (.ref a1)] [(.ref ab)])
  refine Dn.st (aLen X1 hx hZ e1 A (g := (mkF m 4 #[.val (.ref a1)] [(.ref ab)])) rfl rfl (hb hby d5_4)) ?_
  show Dn p e below s _ _ _ T1 (mkF m 5 #[.val (.ref a1)] [(.int (Nat.toInt32 15))])
  refine Dn.st (fun t q => XS.aloadN X1.here hx rfl (hb hby d5_5) rfl rfl  q) ?_
  show Dn p e below s _ _ _ T1 (mkF m 6 #[.val (.ref a1)] [(.ref a1), (.int (Nat.toInt32 15))])
  obtain ⟨cq2, kq2, q2a, q2b, q2c⟩ := isOf hZ e1 E
  obtain ⟨_, _, ⟨T2, Lq2, kq_2, nq_2⟩, -, X2, ⟨Lc2, hQ2, lq2, yq2, zq2⟩, st2⟩ := X1.virtualBack hx (y := (⟨"java/lang/String", "coder", "()B"⟩ : MethodName)) (z := (⟨"java/lang/String", "coder", "()B"⟩ : MethodName)) hown (mvT hZ (hw _ (List.mem_of_getElem? (i := 35) rfl))) (mvT hZ (hw _ (List.mem_of_getElem? (i := 36) rfl))) (notFace_of_selects (args := #[]) (mvT hZ (hw _ (List.mem_of_getElem? (i := 38) rfl)))) (mvT hZ (hw _ (List.mem_of_getElem? (i := 38) rfl))) (mvT hZ (hw _ (List.mem_of_getElem? (i := 37) rfl))) (by decide) (backOf (W := 1) (rm6 l Z a0 hw [] a1 xcs h0 n0 Z0 St Fc hcs) hZ (hw _ (List.mem_of_getElem? (i := 39) rfl)) (hw _ (List.mem_of_getElem? (i := 5) rfl)) (by decide) (by decide)) q2a q2c (g := (mkF m 6 #[.val (.ref a1)] [(.ref a1), (.int (Nat.toInt32 15))])) rfl (by rw [hml]; rfl) (Steps.refl _) (argsL := []) (rest := [(.int (Nat.toInt32 15))]) (lenOf pd_0 rfl) rfl (by show 2 * 0 + _ ≤ _; exact Nat.le_of_eq rfl) (hb hby d5_6) (fun _ _ => ⟨rfl, e1, (by decide : 0 + 0 ≤ _), (by decide : 0 + 0 ≤ _)⟩)
  dsimp only [Pt.U, Pt.locs, Pt.cells, Pt.slots] at X2 lq2 yq2 zq2 st2 hQ2
  subst lq2 yq2 zq2
  obtain ⟨rfl, N2q, hq2⟩ := hQ2
  have N0 := Fr.app N0 N2q
  have e2 : T2.heap = h0 := hq2
  refine Dn.tr st2 ?_
  show Dn p e below s _ _ _ T2 (mkF m 9 #[.val (.ref a1)] [(.int (0 : Int32)), (.int (Nat.toInt32 15))])
  refine Dn.st (fun t q => XS.ishr X2.here hx rfl (hb hby d5_9) rfl q) ?_
  show Dn p e below s _ _ _ T2 (mkF m 10 #[.val (.ref a1)] [(.int ((Nat.toInt32 15) >>> ((0 : Int32) &&& 31)))])
  rw [show ((Nat.toInt32 15) >>> ((0 : Int32) &&& 31)) = (15 : Int32) from (by decide)]
  show Dn p e below s _ _ _ T2 (mkF m 10 #[.val (.ref a1)] [(.int (15 : Int32))])
  exact Dn.retI X2 hx Bd.notSynchronized Bd.returns (hb hby d5_10) (by rw [e2]; exact ⟨rfl, N0, rfl⟩) (by decide) (by decide)
theorem d11_0 : decode jdk_43_method_23_code 0 = .ok (.iload_n 1, 1) := by decide +kernel
theorem d11_1 : decode jdk_43_method_23_code 1 = .ok (.i2b, 1) := by decide +kernel
theorem d11_2 : decode jdk_43_method_23_code 2 = .ok (.istore 4, 2) := by decide +kernel
theorem d11_4 : decode jdk_43_method_23_code 4 = .ok (.iload_n 2, 1) := by decide +kernel
theorem d11_5 : decode jdk_43_method_23_code 5 = .ok (.istore 5, 2) := by decide +kernel
theorem d11_7 : decode jdk_43_method_23_code 7 = .ok (.iload 5, 2) := by decide +kernel
theorem d11_9 : decode jdk_43_method_23_code 9 = .ok (.iload_n 3, 1) := by decide +kernel
theorem d11_10 : decode jdk_43_method_23_code 10 = .ok (.if_icmp .ge 21, 3) := by decide +kernel
theorem d11_31 : decode jdk_43_method_23_code 31 = .ok (.iconst (-1), 1) := by decide +kernel
theorem d11_32 : decode jdk_43_method_23_code 32 = .ok (.ireturn, 1) := by decide +kernel
theorem d11_13 : decode jdk_43_method_23_code 13 = .ok (.aload_n 0, 1) := by decide +kernel
theorem d11_14 : decode jdk_43_method_23_code 14 = .ok (.iload 5, 2) := by decide +kernel
theorem d11_16 : decode jdk_43_method_23_code 16 = .ok (.baload, 1) := by decide +kernel
theorem d11_17 : decode jdk_43_method_23_code 17 = .ok (.iload 4, 2) := by decide +kernel
theorem d11_19 : decode jdk_43_method_23_code 19 = .ok (.if_icmp .ne 6, 3) := by decide +kernel
theorem d11_22 : decode jdk_43_method_23_code 22 = .ok (.iload 5, 2) := by decide +kernel
theorem d11_24 : decode jdk_43_method_23_code 24 = .ok (.ireturn, 1) := by decide +kernel
theorem d11_25 : decode jdk_43_method_23_code 25 = .ok (.iinc 5 1, 3) := by decide +kernel
theorem d11_28 : decode jdk_43_method_23_code 28 = .ok (.goto (-21), 3) := by decide +kernel
theorem ef_rm11 (m : MethodId) (x0 : Addr) (x1 : Int32) (x2 : Int32) (x3 : Int32) : entryFrame m #[(.ref x0), (.int x1), (.int x2), (.int x3)] 6 = mkF m 0 #[.val (.ref x0), .val (.int x1), .val (.int x2), .val (.int x3), .unset, .unset] [] := by first | (simp [entryFrame, mkF, argsToLocals, Value.category]; done) | rfl
def Q11 (Z : State) (a1 : Addr) (x1 : Int32) (x2 : Int32) (x3 : Int32) (h0 : Heap) (n0 : Nat) (v : Option Value) (h : Heap) (L : List Loc) : Prop := v = some (.int (own_scan (x1.toInt8.toInt32) 0 15)) ∧ Fr n0 L ∧ h = h0
set_option maxRecDepth 65536 in
set_option maxHeartbeats 40000000 in
theorem rm11 (l : Launch) (Z : State) (a0 : Array Value) (hw : ∀ d ∈ tables_1, d.before a0 Z = true) (ws : List Jvm.Cond) (a1 : Addr) (x1 : Int32) (x2 : Int32) (x3 : Int32) (h0 : Heap) (n0 : Nat) (Z0 : n0 ≤ h0.size) (A : Ary Z h0 a1 .byte 15 (fun x => .int (own_f x))) (hx2 : x2.toInt = ((0 : Nat) : Int)) (hx3 : x3.toInt = ((15 : Nat) : Int)) :
    MetFree l (⟨"java/lang/StringLatin1", "indexOfChar", "([BIII)I"⟩ : MethodName) (head1 (Jvm.Cond.code (⟨"java/lang/StringLatin1", "indexOfChar", "([BIII)I"⟩ : MethodName) jdk_43_method_23_code 6 (some .int) :: ws) ({ frames := 0, cells := 0, slots := 0, locals := 0 } : Room)) (fun a U => a = #[(.ref a1), (.int x1), (.int x2), (.int x3)] ∧ Z.Warmed39 U.vm ∧ U.heap = h0) (fun _ _ _ _ _ => True) (fun _ U o U' => ∃ v L, o = .returned v ∧ Q11 Z a1 x1 x2 x3 h0 n0 v U'.heap L ∧ FrameEnd U o U' L ({ frames := 0, cells := 0, slots := 0, locals := 0 } : Room).cells ({ frames := 0, cells := 0, slots := 0, locals := 0 } : Room).slots) := by
  refine MetFree.of_bodySF (plainFor_of_name pn_0) hisR ?_
  intro p e s m args below meth c s₁ Bd hml0 hP hK
  obtain ⟨rfl, hZ, hh⟩ := hP
  have hx := Bd.exec
  have hby := Bd.bytes
  have hml : c.maxLocals = 6 := hml0
  have hown : s.vm.findClass "java/lang/StringLatin1" = some m.cls := findClass_of_methodNamed Bd.named
  have hnm := (name_of_methodNamed Bd.named Bd.method).1
  have X0 : Stand p l e ({ frames := 0, cells := 0, slots := 0, locals := 0 } : Room) s m #[(.ref a1), (.int x1), (.int x2), (.int x3)] below meth c s₁ [] 0 0 := Stand.of_body Bd
  have e0 : s₁.heap = h0 := by rw [← hh, Bd.state]; rfl
  have N0 := Fr.nil n0
  have K0 := Keep.refl h0 []
  suffices hD : Dn p e below s (Q11 Z a1 x1 x2 x3 h0 n0) ({ frames := 0, cells := 0, slots := 0, locals := 0 } : Room).cells ({ frames := 0, cells := 0, slots := 0, locals := 0 } : Room).slots s₁ (mkF m 0 #[.val (.ref a1), .val (.int x1), .val (.int x2), .val (.int x3), .unset, .unset] []) from by
    obtain ⟨s₂, o, q1, q2⟩ := hD
    exact ⟨s₂, o, castTop (ef_rm11 m a1 x1 x2 x3) q1, q2⟩
  refine Dn.st (fun t q => XS.iloadN X0.here hx rfl (hb hby d11_0) rfl  q) ?_
  show Dn p e below s _ _ _ s₁ (mkF m 1 #[.val (.ref a1), .val (.int x1), .val (.int x2), .val (.int x3), .unset, .unset] [(.int x1)])
  refine Dn.st (fun t q => XS.i2b X0.here hx rfl (hb hby d11_1) rfl q) ?_
  show Dn p e below s _ _ _ s₁ (mkF m 2 #[.val (.ref a1), .val (.int x1), .val (.int x2), .val (.int x3), .unset, .unset] [(.int (x1.toInt8.toInt32))])
  refine Dn.st (fun t q => XS.istore X0.here hx rfl (hb hby d11_2) rfl (l' := #[.val (.ref a1), .val (.int x1), .val (.int x2), .val (.int x3), .val (.int (x1.toInt8.toInt32)), .unset]) rfl q) ?_
  show Dn p e below s _ _ _ s₁ (mkF m 4 #[.val (.ref a1), .val (.int x1), .val (.int x2), .val (.int x3), .val (.int (x1.toInt8.toInt32)), .unset] [])
  refine Dn.st (fun t q => XS.iloadN X0.here hx rfl (hb hby d11_4) rfl  q) ?_
  show Dn p e below s _ _ _ s₁ (mkF m 5 #[.val (.ref a1), .val (.int x1), .val (.int x2), .val (.int x3), .val (.int (x1.toInt8.toInt32)), .unset] [(.int x2)])
  refine Dn.st (fun t q => XS.istore X0.here hx rfl (hb hby d11_5) rfl (l' := #[.val (.ref a1), .val (.int x1), .val (.int x2), .val (.int x3), .val (.int (x1.toInt8.toInt32)), .val (.int x2)]) rfl q) ?_
  show Dn p e below s _ _ _ s₁ (mkF m 7 #[.val (.ref a1), .val (.int x1), .val (.int x2), .val (.int x3), .val (.int (x1.toInt8.toInt32)), .val (.int x2)] [])
  have lp : ∀ (r : Nat) (j : Nat) (xj : Int32)  (hxj : xj.toInt = (j : Int)) (hjr : j + r = 15) (hR : own_scan (x1.toInt8.toInt32) j r = own_scan (x1.toInt8.toInt32) 0 15), Dn p e below s (Q11 Z a1 x1 x2 x3 h0 n0) (({ frames := 0, cells := 0, slots := 0, locals := 0 } : Room).cells) (({ frames := 0, cells := 0, slots := 0, locals := 0 } : Room).slots) s₁ (mkF m 7 #[.val (.ref a1), .val (.int x1), .val (.int x2), .val (.int x3), .val (.int (x1.toInt8.toInt32)), .val (.int xj)] []) := by
    intro r
    induction r with
    | zero =>
      intro j xj hxj hjr hR
      refine Dn.st (fun t q => XS.iload X0.here hx rfl (hb hby d11_7) rfl  q) ?_
      show Dn p e below s _ _ _ s₁ (mkF m 9 #[.val (.ref a1), .val (.int x1), .val (.int x2), .val (.int x3), .val (.int (x1.toInt8.toInt32)), .val (.int xj)] [(.int xj)])
      refine Dn.st (fun t q => XS.iloadN X0.here hx rfl (hb hby d11_9) rfl  q) ?_
      show Dn p e below s _ _ _ s₁ (mkF m 10 #[.val (.ref a1), .val (.int x1), .val (.int x2), .val (.int x3), .val (.int (x1.toInt8.toInt32)), .val (.int xj)] [(.int x3), (.int xj)])
      refine Dn.st (fun t q => XS.icmpYes X0.here hx rfl (pc0 := 10) (pc' := 31) rfl (hb hby d11_10) rfl (flt (own_nlt hxj hx3 (by omega))).2.1 (by decide) (by decide) q) ?_
      show Dn p e below s _ _ _ s₁ (mkF m 31 #[.val (.ref a1), .val (.int x1), .val (.int x2), .val (.int x3), .val (.int (x1.toInt8.toInt32)), .val (.int xj)] [])
      refine Dn.st (fun t q => XS.iconst X0.here hx rfl (hb hby d11_31) q) ?_
      show Dn p e below s _ _ _ s₁ (mkF m 32 #[.val (.ref a1), .val (.int x1), .val (.int x2), .val (.int x3), .val (.int (x1.toInt8.toInt32)), .val (.int xj)] [(.int (-1 : Int32))])
      exact Dn.retI X0 hx Bd.notSynchronized Bd.returns (hb hby d11_32) (by rw [e0]; exact ⟨congrArg (fun z => some (Value.int z)) hR, N0, rfl⟩) (by decide) (by decide)
    | succ r ih =>
      intro j xj hxj hjr hR
      refine Dn.st (fun t q => XS.iload X0.here hx rfl (hb hby d11_7) rfl  q) ?_
      show Dn p e below s _ _ _ s₁ (mkF m 9 #[.val (.ref a1), .val (.int x1), .val (.int x2), .val (.int x3), .val (.int (x1.toInt8.toInt32)), .val (.int xj)] [(.int xj)])
      refine Dn.st (fun t q => XS.iloadN X0.here hx rfl (hb hby d11_9) rfl  q) ?_
      show Dn p e below s _ _ _ s₁ (mkF m 10 #[.val (.ref a1), .val (.int x1), .val (.int x2), .val (.int x3), .val (.int (x1.toInt8.toInt32)), .val (.int xj)] [(.int x3), (.int xj)])
      refine Dn.st (fun t q => XS.icmpNo X0.here hx rfl (hb hby d11_10) rfl (tlt (own_lt hxj hx3 (by omega))).2.1 q) ?_
      show Dn p e below s _ _ _ s₁ (mkF m 13 #[.val (.ref a1), .val (.int x1), .val (.int x2), .val (.int x3), .val (.int (x1.toInt8.toInt32)), .val (.int xj)] [])
      refine Dn.st (fun t q => XS.aloadN X0.here hx rfl (hb hby d11_13) rfl rfl  q) ?_
      show Dn p e below s _ _ _ s₁ (mkF m 14 #[.val (.ref a1), .val (.int x1), .val (.int x2), .val (.int x3), .val (.int (x1.toInt8.toInt32)), .val (.int xj)] [(.ref a1)])
      refine Dn.st (fun t q => XS.iload X0.here hx rfl (hb hby d11_14) rfl  q) ?_
      show Dn p e below s _ _ _ s₁ (mkF m 16 #[.val (.ref a1), .val (.int x1), .val (.int x2), .val (.int x3), .val (.int (x1.toInt8.toInt32)), .val (.int xj)] [(.int xj), (.ref a1)])
      refine Dn.st (aLoadB (w := own_f) X0 hx hZ e0 A (i := j) hxj (by omega) (g := (mkF m 16 #[.val (.ref a1), .val (.int x1), .val (.int x2), .val (.int x3), .val (.int (x1.toInt8.toInt32)), .val (.int xj)] [(.int xj), (.ref a1)])) rfl rfl (hb hby d11_16)) ?_
      show Dn p e below s _ _ _ s₁ (mkF m 17 #[.val (.ref a1), .val (.int x1), .val (.int x2), .val (.int x3), .val (.int (x1.toInt8.toInt32)), .val (.int xj)] [(.int (own_f j))])
      refine Dn.st (fun t q => XS.iload X0.here hx rfl (hb hby d11_17) rfl  q) ?_
      show Dn p e below s _ _ _ s₁ (mkF m 19 #[.val (.ref a1), .val (.int x1), .val (.int x2), .val (.int x3), .val (.int (x1.toInt8.toInt32)), .val (.int xj)] [(.int (x1.toInt8.toInt32)), (.int (own_f j))])
      by_cases hf : (own_f j) = (x1.toInt8.toInt32)
      · refine Dn.st (fun t q => XS.icmpNo X0.here hx rfl (hb hby d11_19) rfl (teq hf).2 q) ?_
        show Dn p e below s _ _ _ s₁ (mkF m 22 #[.val (.ref a1), .val (.int x1), .val (.int x2), .val (.int x3), .val (.int (x1.toInt8.toInt32)), .val (.int xj)] [])
        refine Dn.st (fun t q => XS.iload X0.here hx rfl (hb hby d11_22) rfl  q) ?_
        show Dn p e below s _ _ _ s₁ (mkF m 24 #[.val (.ref a1), .val (.int x1), .val (.int x2), .val (.int x3), .val (.int (x1.toInt8.toInt32)), .val (.int xj)] [(.int xj)])
        exact Dn.retI X0 hx Bd.notSynchronized Bd.returns (hb hby d11_24) (by rw [e0]; exact ⟨congrArg (fun z => some (Value.int z)) ((own_ofNat hxj).trans ((show own_scan (x1.toInt8.toInt32) j (r + 1) = Int32.ofNat j from if_pos hf).symm.trans hR)), N0, rfl⟩) (by decide) (by decide)
      · refine Dn.st (fun t q => XS.icmpYes X0.here hx rfl (pc0 := 19) (pc' := 25) rfl (hb hby d11_19) rfl (feq hf).2 (by decide) (by decide) q) ?_
        show Dn p e below s _ _ _ s₁ (mkF m 25 #[.val (.ref a1), .val (.int x1), .val (.int x2), .val (.int x3), .val (.int (x1.toInt8.toInt32)), .val (.int xj)] [])
        refine Dn.st (fun t q => XS.iinc X0.here hx rfl (hb hby d11_25) rfl (l' := #[.val (.ref a1), .val (.int x1), .val (.int x2), .val (.int x3), .val (.int (x1.toInt8.toInt32)), .val (.int (xj + (1 : Int32)))]) rfl q) ?_
        show Dn p e below s _ _ _ s₁ (mkF m 28 #[.val (.ref a1), .val (.int x1), .val (.int x2), .val (.int x3), .val (.int (x1.toInt8.toInt32)), .val (.int (xj + (1 : Int32)))] [])
        refine Dn.st (fun t q => XS.goto X0.here hx rfl (pc0 := 28) (pc' := 7) rfl (hb hby d11_28) (by decide) (by decide) q) ?_
        show Dn p e below s _ _ _ s₁ (mkF m 7 #[.val (.ref a1), .val (.int x1), .val (.int x2), .val (.int x3), .val (.int (x1.toInt8.toInt32)), .val (.int (xj + (1 : Int32)))] [])
        exact ih (j + 1) (xj + (1 : Int32)) (own_ix hxj (i := 1) rfl (by omega)) (by omega) ((show own_scan (x1.toInt8.toInt32) j (r + 1) = own_scan (x1.toInt8.toInt32) (j + 1) r from if_neg hf).symm.trans hR)
  exact lp 15 0 x2 hx2 rfl rfl
def own_idx (x1 : Int32) : Int32 := if own_can x1 = (0 : Int32) then (-1 : Int32) else own_scan (x1.toInt8.toInt32) 0 15
theorem d7_0 : decode jdk_43_method_22_code 0 = .ok (.iload_n 1, 1) := by decide +kernel
theorem d7_1 : decode jdk_43_method_22_code 1 = .ok (.invokestatic 88, 3) := by decide +kernel
theorem pd_1 : parseMethodDescriptor "(I)Z" = some ⟨[.int], some .boolean⟩ := by decide +kernel
theorem d7_4 : decode jdk_43_method_22_code 4 = .ok (.ifCond .ne 5, 3) := by decide +kernel
theorem d7_7 : decode jdk_43_method_22_code 7 = .ok (.iconst (-1), 1) := by decide +kernel
theorem d7_8 : decode jdk_43_method_22_code 8 = .ok (.ireturn, 1) := by decide +kernel
theorem d7_9 : decode jdk_43_method_22_code 9 = .ok (.iload_n 2, 1) := by decide +kernel
theorem d7_10 : decode jdk_43_method_22_code 10 = .ok (.iconst 0, 1) := by decide +kernel
theorem d7_11 : decode jdk_43_method_22_code 11 = .ok (.invokestatic 92, 3) := by decide +kernel
theorem pd_2 : parseMethodDescriptor "(II)I" = some ⟨[.int, .int], some .int⟩ := by decide +kernel
theorem d7_14 : decode jdk_43_method_22_code 14 = .ok (.istore_n 2, 1) := by decide +kernel
theorem d7_15 : decode jdk_43_method_22_code 15 = .ok (.iload_n 3, 1) := by decide +kernel
theorem d7_16 : decode jdk_43_method_22_code 16 = .ok (.aload_n 0, 1) := by decide +kernel
theorem d7_17 : decode jdk_43_method_22_code 17 = .ok (.arraylength, 1) := by decide +kernel
theorem d7_18 : decode jdk_43_method_22_code 18 = .ok (.invokestatic 38, 3) := by decide +kernel
theorem d7_21 : decode jdk_43_method_22_code 21 = .ok (.istore_n 3, 1) := by decide +kernel
theorem d7_22 : decode jdk_43_method_22_code 22 = .ok (.iload_n 2, 1) := by decide +kernel
theorem d7_23 : decode jdk_43_method_22_code 23 = .ok (.iload_n 3, 1) := by decide +kernel
theorem d7_24 : decode jdk_43_method_22_code 24 = .ok (.if_icmp .lt 5, 3) := by decide +kernel
theorem d7_29 : decode jdk_43_method_22_code 29 = .ok (.aload_n 0, 1) := by decide +kernel
theorem d7_30 : decode jdk_43_method_22_code 30 = .ok (.iload_n 1, 1) := by decide +kernel
theorem d7_31 : decode jdk_43_method_22_code 31 = .ok (.iload_n 2, 1) := by decide +kernel
theorem d7_32 : decode jdk_43_method_22_code 32 = .ok (.iload_n 3, 1) := by decide +kernel
theorem d7_33 : decode jdk_43_method_22_code 33 = .ok (.invokestatic 95, 3) := by decide +kernel
theorem pd_3 : parseMethodDescriptor "([BIII)I" = some ⟨[(.array .byte), .int, .int, .int], some .int⟩ := by decide +kernel
theorem d7_36 : decode jdk_43_method_22_code 36 = .ok (.ireturn, 1) := by decide +kernel
theorem ef_rm7 (m : MethodId) (x0 : Addr) (x1 : Int32) (x2 : Int32) (x3 : Int32) : entryFrame m #[(.ref x0), (.int x1), (.int x2), (.int x3)] 4 = mkF m 0 #[.val (.ref x0), .val (.int x1), .val (.int x2), .val (.int x3)] [] := by first | (simp [entryFrame, mkF, argsToLocals, Value.category]; done) | rfl
def Q7 (Z : State) (a1 : Addr) (x1 : Int32) (x2 : Int32) (x3 : Int32) (h0 : Heap) (n0 : Nat) (v : Option Value) (h : Heap) (L : List Loc) : Prop := v = some (.int (own_idx x1)) ∧ Fr n0 L ∧ h = h0
set_option maxRecDepth 65536 in
set_option maxHeartbeats 40000000 in
theorem rm7 (l : Launch) (Z : State) (a0 : Array Value) (hw : ∀ d ∈ tables_1, d.before a0 Z = true) (ws : List Jvm.Cond) (a1 : Addr) (x1 : Int32) (x2 : Int32) (x3 : Int32) (h0 : Heap) (n0 : Nat) (Z0 : n0 ≤ h0.size) (A : Ary Z h0 a1 .byte 15 (fun x => .int (own_f x))) (hx2 : x2 = (0 : Int32)) (hx3 : x3 = (15 : Int32)) :
    MetFree l (⟨"java/lang/StringLatin1", "indexOf", "([BIII)I"⟩ : MethodName) (head1 (Jvm.Cond.code (⟨"java/lang/StringLatin1", "indexOf", "([BIII)I"⟩ : MethodName) jdk_43_method_22_code 4 (some .int) :: ws) ({ frames := 1, cells := 0, slots := 0, locals := 17 } : Room)) (fun a U => a = #[(.ref a1), (.int x1), (.int x2), (.int x3)] ∧ Z.Warmed39 U.vm ∧ U.heap = h0) (fun _ _ _ _ _ => True) (fun _ U o U' => ∃ v L, o = .returned v ∧ Q7 Z a1 x1 x2 x3 h0 n0 v U'.heap L ∧ FrameEnd U o U' L ({ frames := 1, cells := 0, slots := 0, locals := 17 } : Room).cells ({ frames := 1, cells := 0, slots := 0, locals := 17 } : Room).slots) := by
  refine MetFree.of_bodySF (plainFor_of_name pn_0) hisR ?_
  intro p e s m args below meth c s₁ Bd hml0 hP hK
  obtain ⟨rfl, hZ, hh⟩ := hP
  have hx := Bd.exec
  have hby := Bd.bytes
  have hml : c.maxLocals = 4 := hml0
  have hown : s.vm.findClass "java/lang/StringLatin1" = some m.cls := findClass_of_methodNamed Bd.named
  have hnm := (name_of_methodNamed Bd.named Bd.method).1
  have X0 : Stand p l e ({ frames := 1, cells := 0, slots := 0, locals := 17 } : Room) s m #[(.ref a1), (.int x1), (.int x2), (.int x3)] below meth c s₁ [] 0 0 := Stand.of_body Bd
  have e0 : s₁.heap = h0 := by rw [← hh, Bd.state]; rfl
  have N0 := Fr.nil n0
  have K0 := Keep.refl h0 []
  suffices hD : Dn p e below s (Q7 Z a1 x1 x2 x3 h0 n0) ({ frames := 1, cells := 0, slots := 0, locals := 17 } : Room).cells ({ frames := 1, cells := 0, slots := 0, locals := 17 } : Room).slots s₁ (mkF m 0 #[.val (.ref a1), .val (.int x1), .val (.int x2), .val (.int x3)] []) from by
    obtain ⟨s₂, o, q1, q2⟩ := hD
    exact ⟨s₂, o, castTop (ef_rm7 m a1 x1 x2 x3) q1, q2⟩
  refine Dn.st (fun t q => XS.iloadN X0.here hx rfl (hb hby d7_0) rfl  q) ?_
  show Dn p e below s _ _ _ s₁ (mkF m 1 #[.val (.ref a1), .val (.int x1), .val (.int x2), .val (.int x3)] [(.int x1)])
  obtain ⟨_, _, ⟨T1, Lq1, kq_1, nq_1⟩, -, X1, ⟨Lc1, hQ1, lq1, yq1, zq1⟩, st1⟩ := Jvm.LawKit.callS X0 hx (y := (⟨"java/lang/StringLatin1", "canEncode", "(I)Z"⟩ : MethodName)) hown (mvT hZ (hw _ (List.mem_of_getElem? (i := 44) rfl))) (mvT hZ (hw _ (List.mem_of_getElem? (i := 45) rfl))) (mvT hZ (hw _ (List.mem_of_getElem? (i := 42) rfl))) (mvT hZ (hw _ (List.mem_of_getElem? (i := 46) rfl))) (by decide) (backOf (W := 0) (rm8 l Z a0 hw [] x1  h0 n0 Z0 ) hZ (hw _ (List.mem_of_getElem? (i := 46) rfl)) (hw _ (List.mem_of_getElem? (i := 42) rfl)) (by decide) (by decide)) (g := (mkF m 1 #[.val (.ref a1), .val (.int x1), .val (.int x2), .val (.int x3)] [(.int x1)])) rfl (by rw [hml]; rfl) (argsL := [(.int x1)]) (rest := []) (lenOf pd_1 rfl) rfl (by show 2 * 0 + _ ≤ _; exact Nat.le_of_eq rfl) (hb hby d7_1) (fun _ _ => ⟨rfl, e0, (by decide : 0 + 0 ≤ _), (by decide : 0 + 0 ≤ _)⟩)
  dsimp only [Pt.U, Pt.locs, Pt.cells, Pt.slots] at X1 lq1 yq1 zq1 st1 hQ1
  subst lq1 yq1 zq1
  obtain ⟨rfl, N1q, hq1⟩ := hQ1
  have N0 := Fr.app N0 N1q
  have e1 : T1.heap = h0 := hq1
  refine Dn.st st1 ?_
  show Dn p e below s _ _ _ T1 (mkF m 4 #[.val (.ref a1), .val (.int x1), .val (.int x2), .val (.int x3)] [(.int (own_can x1))])
  by_cases hf : (own_can x1) = (0 : Int32)
  · refine Dn.st (fun t q => XS.ifNo X1.here hx rfl (hb hby d7_4) rfl ((if0 _ _).trans (teq hf).2) q) ?_
    show Dn p e below s _ _ _ T1 (mkF m 7 #[.val (.ref a1), .val (.int x1), .val (.int x2), .val (.int x3)] [])
    refine Dn.st (fun t q => XS.iconst X1.here hx rfl (hb hby d7_7) q) ?_
    show Dn p e below s _ _ _ T1 (mkF m 8 #[.val (.ref a1), .val (.int x1), .val (.int x2), .val (.int x3)] [(.int (-1 : Int32))])
    exact Dn.retI X1 hx Bd.notSynchronized Bd.returns (hb hby d7_8) (by rw [e1]; exact ⟨congrArg (fun z => some (Value.int z)) (if_pos hf).symm, N0, rfl⟩) (by decide) (by decide)
  · refine Dn.st (fun t q => XS.ifYes X1.here hx rfl (pc0 := 4) (pc' := 9) rfl (hb hby d7_4) rfl ((if0 _ _).trans (feq hf).2) (by decide) (by decide) q) ?_
    show Dn p e below s _ _ _ T1 (mkF m 9 #[.val (.ref a1), .val (.int x1), .val (.int x2), .val (.int x3)] [])
    refine Dn.st (fun t q => XS.iloadN X1.here hx rfl (hb hby d7_9) rfl  q) ?_
    show Dn p e below s _ _ _ T1 (mkF m 10 #[.val (.ref a1), .val (.int x1), .val (.int x2), .val (.int x3)] [(.int x2)])
    refine Dn.st (fun t q => XS.iconst X1.here hx rfl (hb hby d7_10) q) ?_
    show Dn p e below s _ _ _ T1 (mkF m 11 #[.val (.ref a1), .val (.int x1), .val (.int x2), .val (.int x3)] [(.int (0 : Int32)), (.int x2)])
    obtain ⟨_, _, ⟨T2, Lq2, kq_2, nq_2⟩, -, X2, ⟨Lc2, hQ2, lq2, yq2, zq2⟩, st2⟩ := Jvm.LawKit.callS X1 hx (y := (⟨"java/lang/Math", "max", "(II)I"⟩ : MethodName)) hown (mvT hZ (hw _ (List.mem_of_getElem? (i := 47) rfl))) (mvT hZ (hw _ (List.mem_of_getElem? (i := 48) rfl))) (mvT hZ (hw _ (List.mem_of_getElem? (i := 49) rfl))) (mvT hZ (hw _ (List.mem_of_getElem? (i := 50) rfl))) (by decide) (backOf (W := 0) (rm9 l Z a0 hw [] x2 (0 : Int32)  h0 n0 Z0 ) hZ (hw _ (List.mem_of_getElem? (i := 50) rfl)) (hw _ (List.mem_of_getElem? (i := 49) rfl)) (by decide) (by decide)) (g := (mkF m 11 #[.val (.ref a1), .val (.int x1), .val (.int x2), .val (.int x3)] [(.int (0 : Int32)), (.int x2)])) rfl (by rw [hml]; rfl) (argsL := [(.int x2), (.int (0 : Int32))]) (rest := []) (lenOf pd_2 rfl) rfl (by show 2 * 0 + _ ≤ _; exact Nat.le_of_eq rfl) (hb hby d7_11) (fun _ _ => ⟨rfl, e1, (by decide : 0 + 0 ≤ _), (by decide : 0 + 0 ≤ _)⟩)
    dsimp only [Pt.U, Pt.locs, Pt.cells, Pt.slots] at X2 lq2 yq2 zq2 st2 hQ2
    subst lq2 yq2 zq2
    obtain ⟨rfl, N2q, hq2⟩ := hQ2
    have N0 := Fr.app N0 N2q
    have e2 : T2.heap = h0 := hq2
    refine Dn.st st2 ?_
    show Dn p e below s _ _ _ T2 (mkF m 14 #[.val (.ref a1), .val (.int x1), .val (.int x2), .val (.int x3)] [(.int (own_max x2 (0 : Int32)))])
    rw [show (own_max x2 (0 : Int32)) = (0 : Int32) from (by rw [hx2]; decide)]
    show Dn p e below s _ _ _ T2 (mkF m 14 #[.val (.ref a1), .val (.int x1), .val (.int x2), .val (.int x3)] [(.int (0 : Int32))])
    refine Dn.st (fun t q => XS.istoreN X2.here hx rfl (hb hby d7_14) rfl (l' := #[.val (.ref a1), .val (.int x1), .val (.int (0 : Int32)), .val (.int x3)]) rfl q) ?_
    show Dn p e below s _ _ _ T2 (mkF m 15 #[.val (.ref a1), .val (.int x1), .val (.int (0 : Int32)), .val (.int x3)] [])
    refine Dn.st (fun t q => XS.iloadN X2.here hx rfl (hb hby d7_15) rfl  q) ?_
    show Dn p e below s _ _ _ T2 (mkF m 16 #[.val (.ref a1), .val (.int x1), .val (.int (0 : Int32)), .val (.int x3)] [(.int x3)])
    refine Dn.st (fun t q => XS.aloadN X2.here hx rfl (hb hby d7_16) rfl rfl  q) ?_
    show Dn p e below s _ _ _ T2 (mkF m 17 #[.val (.ref a1), .val (.int x1), .val (.int (0 : Int32)), .val (.int x3)] [(.ref a1), (.int x3)])
    refine Dn.st (aLen X2 hx hZ e2 A (g := (mkF m 17 #[.val (.ref a1), .val (.int x1), .val (.int (0 : Int32)), .val (.int x3)] [(.ref a1), (.int x3)])) rfl rfl (hb hby d7_17)) ?_
    show Dn p e below s _ _ _ T2 (mkF m 18 #[.val (.ref a1), .val (.int x1), .val (.int (0 : Int32)), .val (.int x3)] [(.int (Nat.toInt32 15)), (.int x3)])
    obtain ⟨_, _, ⟨T3, Lq3, kq_3, nq_3⟩, -, X3, ⟨Lc3, hQ3, lq3, yq3, zq3⟩, st3⟩ := Jvm.LawKit.callS X2 hx (y := (⟨"java/lang/Math", "min", "(II)I"⟩ : MethodName)) hown (mvT hZ (hw _ (List.mem_of_getElem? (i := 51) rfl))) (mvT hZ (hw _ (List.mem_of_getElem? (i := 52) rfl))) (mvT hZ (hw _ (List.mem_of_getElem? (i := 49) rfl))) (mvT hZ (hw _ (List.mem_of_getElem? (i := 53) rfl))) (by decide) (backOf (W := 0) (rm10 l Z a0 hw [] x3 (Nat.toInt32 15)  h0 n0 Z0 ) hZ (hw _ (List.mem_of_getElem? (i := 53) rfl)) (hw _ (List.mem_of_getElem? (i := 49) rfl)) (by decide) (by decide)) (g := (mkF m 18 #[.val (.ref a1), .val (.int x1), .val (.int (0 : Int32)), .val (.int x3)] [(.int (Nat.toInt32 15)), (.int x3)])) rfl (by rw [hml]; rfl) (argsL := [(.int x3), (.int (Nat.toInt32 15))]) (rest := []) (lenOf pd_2 rfl) rfl (by show 2 * 0 + _ ≤ _; exact Nat.le_of_eq rfl) (hb hby d7_18) (fun _ _ => ⟨rfl, e2, (by decide : 0 + 0 ≤ _), (by decide : 0 + 0 ≤ _)⟩)
    dsimp only [Pt.U, Pt.locs, Pt.cells, Pt.slots] at X3 lq3 yq3 zq3 st3 hQ3
    subst lq3 yq3 zq3
    obtain ⟨rfl, N3q, hq3⟩ := hQ3
    have N0 := Fr.app N0 N3q
    have e3 : T3.heap = h0 := hq3
    refine Dn.st st3 ?_
    show Dn p e below s _ _ _ T3 (mkF m 21 #[.val (.ref a1), .val (.int x1), .val (.int (0 : Int32)), .val (.int x3)] [(.int (own_min x3 (Nat.toInt32 15)))])
    rw [show (own_min x3 (Nat.toInt32 15)) = (15 : Int32) from (by rw [hx3]; decide)]
    show Dn p e below s _ _ _ T3 (mkF m 21 #[.val (.ref a1), .val (.int x1), .val (.int (0 : Int32)), .val (.int x3)] [(.int (15 : Int32))])
    refine Dn.st (fun t q => XS.istoreN X3.here hx rfl (hb hby d7_21) rfl (l' := #[.val (.ref a1), .val (.int x1), .val (.int (0 : Int32)), .val (.int (15 : Int32))]) rfl q) ?_
    show Dn p e below s _ _ _ T3 (mkF m 22 #[.val (.ref a1), .val (.int x1), .val (.int (0 : Int32)), .val (.int (15 : Int32))] [])
    refine Dn.st (fun t q => XS.iloadN X3.here hx rfl (hb hby d7_22) rfl  q) ?_
    show Dn p e below s _ _ _ T3 (mkF m 23 #[.val (.ref a1), .val (.int x1), .val (.int (0 : Int32)), .val (.int (15 : Int32))] [(.int (0 : Int32))])
    refine Dn.st (fun t q => XS.iloadN X3.here hx rfl (hb hby d7_23) rfl  q) ?_
    show Dn p e below s _ _ _ T3 (mkF m 24 #[.val (.ref a1), .val (.int x1), .val (.int (0 : Int32)), .val (.int (15 : Int32))] [(.int (15 : Int32)), (.int (0 : Int32))])
    refine Dn.st (fun t q => XS.icmpYes X3.here hx rfl (pc0 := 24) (pc' := 29) rfl (hb hby d7_24) rfl (tlt (by decide)).1 (by decide) (by decide) q) ?_
    show Dn p e below s _ _ _ T3 (mkF m 29 #[.val (.ref a1), .val (.int x1), .val (.int (0 : Int32)), .val (.int (15 : Int32))] [])
    refine Dn.st (fun t q => XS.aloadN X3.here hx rfl (hb hby d7_29) rfl rfl  q) ?_
    show Dn p e below s _ _ _ T3 (mkF m 30 #[.val (.ref a1), .val (.int x1), .val (.int (0 : Int32)), .val (.int (15 : Int32))] [(.ref a1)])
    refine Dn.st (fun t q => XS.iloadN X3.here hx rfl (hb hby d7_30) rfl  q) ?_
    show Dn p e below s _ _ _ T3 (mkF m 31 #[.val (.ref a1), .val (.int x1), .val (.int (0 : Int32)), .val (.int (15 : Int32))] [(.int x1), (.ref a1)])
    refine Dn.st (fun t q => XS.iloadN X3.here hx rfl (hb hby d7_31) rfl  q) ?_
    show Dn p e below s _ _ _ T3 (mkF m 32 #[.val (.ref a1), .val (.int x1), .val (.int (0 : Int32)), .val (.int (15 : Int32))] [(.int (0 : Int32)), (.int x1), (.ref a1)])
    refine Dn.st (fun t q => XS.iloadN X3.here hx rfl (hb hby d7_32) rfl  q) ?_
    show Dn p e below s _ _ _ T3 (mkF m 33 #[.val (.ref a1), .val (.int x1), .val (.int (0 : Int32)), .val (.int (15 : Int32))] [(.int (15 : Int32)), (.int (0 : Int32)), (.int x1), (.ref a1)])
    obtain ⟨_, _, ⟨T4, Lq4, kq_4, nq_4⟩, -, X4, ⟨Lc4, hQ4, lq4, yq4, zq4⟩, st4⟩ := Jvm.LawKit.callS X3 hx (y := (⟨"java/lang/StringLatin1", "indexOfChar", "([BIII)I"⟩ : MethodName)) hown (mvT hZ (hw _ (List.mem_of_getElem? (i := 54) rfl))) (mvT hZ (hw _ (List.mem_of_getElem? (i := 55) rfl))) (mvT hZ (hw _ (List.mem_of_getElem? (i := 42) rfl))) (mvT hZ (hw _ (List.mem_of_getElem? (i := 56) rfl))) (by decide) (backOf (W := 0) (rm11 l Z a0 hw [] a1 x1 (0 : Int32) (15 : Int32)  h0 n0 Z0 A rfl rfl) hZ (hw _ (List.mem_of_getElem? (i := 56) rfl)) (hw _ (List.mem_of_getElem? (i := 42) rfl)) (by decide) (by decide)) (g := (mkF m 33 #[.val (.ref a1), .val (.int x1), .val (.int (0 : Int32)), .val (.int (15 : Int32))] [(.int (15 : Int32)), (.int (0 : Int32)), (.int x1), (.ref a1)])) rfl (by rw [hml]; rfl) (argsL := [(.ref a1), (.int x1), (.int (0 : Int32)), (.int (15 : Int32))]) (rest := []) (lenOf pd_3 rfl) rfl (by show 2 * 0 + _ ≤ _; exact Nat.le_of_eq rfl) (hb hby d7_33) (fun _ _ => ⟨rfl, e3, (by decide : 0 + 0 ≤ _), (by decide : 0 + 0 ≤ _)⟩)
    dsimp only [Pt.U, Pt.locs, Pt.cells, Pt.slots] at X4 lq4 yq4 zq4 st4 hQ4
    subst lq4 yq4 zq4
    obtain ⟨rfl, N4q, hq4⟩ := hQ4
    have N0 := Fr.app N0 N4q
    have e4 : T4.heap = h0 := hq4
    refine Dn.st st4 ?_
    show Dn p e below s _ _ _ T4 (mkF m 36 #[.val (.ref a1), .val (.int x1), .val (.int (0 : Int32)), .val (.int (15 : Int32))] [(.int (own_scan (x1.toInt8.toInt32) 0 15))])
    exact Dn.retI X4 hx Bd.notSynchronized Bd.returns (hb hby d7_36) (by rw [e4]; exact ⟨congrArg (fun z => some (Value.int z)) (if_neg hf).symm, N0, rfl⟩) (by decide) (by decide)
theorem d3_0 : decode jdk_42_method_80_code 0 = .ok (.aload_n 0, 1) := by decide +kernel
theorem d3_1 : decode jdk_42_method_80_code 1 = .ok (.invokevirtual 492, 3) := by decide +kernel
theorem pd_4 : parseMethodDescriptor "()Z" = some ⟨[], some .boolean⟩ := by decide +kernel
theorem d3_4 : decode jdk_42_method_80_code 4 = .ok (.ifCond .eq 19, 3) := by decide +kernel
theorem d3_7 : decode jdk_42_method_80_code 7 = .ok (.aload_n 0, 1) := by decide +kernel
theorem d3_8 : decode jdk_42_method_80_code 8 = .ok (.getfield 9, 3) := by decide +kernel
theorem d3_11 : decode jdk_42_method_80_code 11 = .ok (.iload_n 1, 1) := by decide +kernel
theorem d3_12 : decode jdk_42_method_80_code 12 = .ok (.iload_n 2, 1) := by decide +kernel
theorem d3_13 : decode jdk_42_method_80_code 13 = .ok (.aload_n 0, 1) := by decide +kernel
theorem d3_14 : decode jdk_42_method_80_code 14 = .ok (.invokevirtual 505, 3) := by decide +kernel
theorem pd_5 : parseMethodDescriptor "()I" = some ⟨[], some .int⟩ := by decide +kernel
theorem d3_17 : decode jdk_42_method_80_code 17 = .ok (.invokestatic 637, 3) := by decide +kernel
theorem d3_20 : decode jdk_42_method_80_code 20 = .ok (.goto 16, 3) := by decide +kernel
theorem d3_36 : decode jdk_42_method_80_code 36 = .ok (.ireturn, 1) := by decide +kernel
theorem ef_rm3 (m : MethodId) (x0 : Addr) (x1 : Int32) (x2 : Int32) : entryFrame m #[(.ref x0), (.int x1), (.int x2)] 3 = mkF m 0 #[.val (.ref x0), .val (.int x1), .val (.int x2)] [] := by first | (simp [entryFrame, mkF, argsToLocals, Value.category]; done) | rfl
def Q3 (Z : State) (a1 : Addr) (x1 : Int32) (x2 : Int32) (xcs : Int32) (ab : Addr) (h0 : Heap) (n0 : Nat) (v : Option Value) (h : Heap) (L : List Loc) : Prop := v = some (.int (own_idx x1)) ∧ Fr n0 L ∧ h = h0
set_option maxRecDepth 65536 in
set_option maxHeartbeats 40000000 in
theorem rm3 (l : Launch) (Z : State) (a0 : Array Value) (hw : ∀ d ∈ tables_1, d.before a0 Z = true) (ws : List Jvm.Cond) (a1 : Addr) (x1 : Int32) (x2 : Int32) (xcs : Int32) (ab : Addr) (h0 : Heap) (n0 : Nat) (Z0 : n0 ≤ h0.size) (St : Sta Z h0 "java/lang/String" "COMPACT_STRINGS" "Z" (.int xcs)) (E : Exa Z h0 a1 "java/lang/String") (Fc : Fld Z h0 a1 "java/lang/String" "coder" "B" (.int (0 : Int32))) (Fv : Fld Z h0 a1 "java/lang/String" "value" "[B" (.ref ab)) (A : Ary Z h0 ab .byte 15 (fun x => .int (own_f x))) (hcs : ¬ (xcs = (0 : Int32))) (hx2 : x2 = (0 : Int32)) :
    MetFree l (⟨"java/lang/String", "indexOf", "(II)I"⟩ : MethodName) (head1 (Jvm.Cond.code (⟨"java/lang/String", "indexOf", "(II)I"⟩ : MethodName) jdk_42_method_80_code 3 (some .int) :: ws) ({ frames := 2, cells := 0, slots := 0, locals := 32 } : Room)) (fun a U => a = #[(.ref a1), (.int x1), (.int x2)] ∧ Z.Warmed39 U.vm ∧ U.heap = h0) (fun _ _ _ _ _ => True) (fun _ U o U' => ∃ v L, o = .returned v ∧ Q3 Z a1 x1 x2 xcs ab h0 n0 v U'.heap L ∧ FrameEnd U o U' L ({ frames := 2, cells := 0, slots := 0, locals := 32 } : Room).cells ({ frames := 2, cells := 0, slots := 0, locals := 32 } : Room).slots) := by
  refine MetFree.of_bodySF (plainFor_of_name pn_2) hisR ?_
  intro p e s m args below meth c s₁ Bd hml0 hP hK
  obtain ⟨rfl, hZ, hh⟩ := hP
  have hx := Bd.exec
  have hby := Bd.bytes
  have hml : c.maxLocals = 3 := hml0
  have hown : s.vm.findClass "java/lang/String" = some m.cls := findClass_of_methodNamed Bd.named
  have hnm := (name_of_methodNamed Bd.named Bd.method).1
  have X0 : Stand p l e ({ frames := 2, cells := 0, slots := 0, locals := 32 } : Room) s m #[(.ref a1), (.int x1), (.int x2)] below meth c s₁ [] 0 0 := Stand.of_body Bd
  have e0 : s₁.heap = h0 := by rw [← hh, Bd.state]; rfl
  have N0 := Fr.nil n0
  have K0 := Keep.refl h0 []
  suffices hD : Dn p e below s (Q3 Z a1 x1 x2 xcs ab h0 n0) ({ frames := 2, cells := 0, slots := 0, locals := 32 } : Room).cells ({ frames := 2, cells := 0, slots := 0, locals := 32 } : Room).slots s₁ (mkF m 0 #[.val (.ref a1), .val (.int x1), .val (.int x2)] []) from by
    obtain ⟨s₂, o, q1, q2⟩ := hD
    exact ⟨s₂, o, castTop (ef_rm3 m a1 x1 x2) q1, q2⟩
  refine Dn.st (fun t q => XS.aloadN X0.here hx rfl (hb hby d3_0) rfl rfl  q) ?_
  show Dn p e below s _ _ _ s₁ (mkF m 1 #[.val (.ref a1), .val (.int x1), .val (.int x2)] [(.ref a1)])
  obtain ⟨cq1, kq1, q1a, q1b, q1c⟩ := isOf hZ e0 E
  obtain ⟨_, _, ⟨T1, Lq1, kq_1, nq_1⟩, -, X1, ⟨Lc1, hQ1, lq1, yq1, zq1⟩, st1⟩ := X0.virtualBack hx (y := (⟨"java/lang/String", "isLatin1", "()Z"⟩ : MethodName)) (z := (⟨"java/lang/String", "isLatin1", "()Z"⟩ : MethodName)) hown (mvT hZ (hw _ (List.mem_of_getElem? (i := 22) rfl))) (mvT hZ (hw _ (List.mem_of_getElem? (i := 23) rfl))) (notFace_of_selects (args := #[]) (mvT hZ (hw _ (List.mem_of_getElem? (i := 25) rfl)))) (mvT hZ (hw _ (List.mem_of_getElem? (i := 25) rfl))) (mvT hZ (hw _ (List.mem_of_getElem? (i := 24) rfl))) (by decide) (backOf (W := 0) (rm4 l Z a0 hw [] a1 xcs h0 n0 Z0 St Fc hcs) hZ (hw _ (List.mem_of_getElem? (i := 26) rfl)) (hw _ (List.mem_of_getElem? (i := 5) rfl)) (by decide) (by decide)) q1a q1c (g := (mkF m 1 #[.val (.ref a1), .val (.int x1), .val (.int x2)] [(.ref a1)])) rfl (by rw [hml]; rfl) (Steps.refl _) (argsL := []) (rest := []) (lenOf pd_4 rfl) rfl (by show 2 * 0 + _ ≤ _; exact Nat.le_of_eq rfl) (hb hby d3_1) (fun _ _ => ⟨rfl, e0, (by decide : 0 + 0 ≤ _), (by decide : 0 + 0 ≤ _)⟩)
  dsimp only [Pt.U, Pt.locs, Pt.cells, Pt.slots] at X1 lq1 yq1 zq1 st1 hQ1
  subst lq1 yq1 zq1
  obtain ⟨rfl, N1q, hq1⟩ := hQ1
  have N0 := Fr.app N0 N1q
  have e1 : T1.heap = h0 := hq1
  refine Dn.tr st1 ?_
  show Dn p e below s _ _ _ T1 (mkF m 4 #[.val (.ref a1), .val (.int x1), .val (.int x2)] [(.int (1 : Int32))])
  refine Dn.st (fun t q => XS.ifNo X1.here hx rfl (hb hby d3_4) rfl ((if0 _ _).trans (feq (by decide)).1) q) ?_
  show Dn p e below s _ _ _ T1 (mkF m 7 #[.val (.ref a1), .val (.int x1), .val (.int x2)] [])
  refine Dn.st (fun t q => XS.aloadN X1.here hx rfl (hb hby d3_7) rfl rfl  q) ?_
  show Dn p e below s _ _ _ T1 (mkF m 8 #[.val (.ref a1), .val (.int x1), .val (.int x2)] [(.ref a1)])
  obtain ⟨T2, X2, e2, st2⟩ := getF X1 hx hZ hown (host := "") (Or.inl (hw _ (List.mem_of_getElem? (i := 29) rfl))) Via.refl e1 Fv (g := (mkF m 8 #[.val (.ref a1), .val (.int x1), .val (.int x2)] [(.ref a1)])) rfl rfl (hb hby d3_8)
  refine Dn.st st2 ?_
  show Dn p e below s _ _ _ T2 (mkF m 11 #[.val (.ref a1), .val (.int x1), .val (.int x2)] [(.ref ab)])
  refine Dn.st (fun t q => XS.iloadN X2.here hx rfl (hb hby d3_11) rfl  q) ?_
  show Dn p e below s _ _ _ T2 (mkF m 12 #[.val (.ref a1), .val (.int x1), .val (.int x2)] [(.int x1), (.ref ab)])
  refine Dn.st (fun t q => XS.iloadN X2.here hx rfl (hb hby d3_12) rfl  q) ?_
  show Dn p e below s _ _ _ T2 (mkF m 13 #[.val (.ref a1), .val (.int x1), .val (.int x2)] [(.int x2), (.int x1), (.ref ab)])
  refine Dn.st (fun t q => XS.aloadN X2.here hx rfl (hb hby d3_13) rfl rfl  q) ?_
  show Dn p e below s _ _ _ T2 (mkF m 14 #[.val (.ref a1), .val (.int x1), .val (.int x2)] [(.ref a1), (.int x2), (.int x1), (.ref ab)])
  obtain ⟨cq3, kq3, q3a, q3b, q3c⟩ := isOf hZ e2 E
  obtain ⟨_, _, ⟨T3, Lq3, kq_3, nq_3⟩, -, X3, ⟨Lc3, hQ3, lq3, yq3, zq3⟩, st3⟩ := X2.virtualBack hx (y := (⟨"java/lang/String", "length", "()I"⟩ : MethodName)) (z := (⟨"java/lang/String", "length", "()I"⟩ : MethodName)) hown (mvT hZ (hw _ (List.mem_of_getElem? (i := 30) rfl))) (mvT hZ (hw _ (List.mem_of_getElem? (i := 31) rfl))) (notFace_of_selects (args := #[]) (mvT hZ (hw _ (List.mem_of_getElem? (i := 33) rfl)))) (mvT hZ (hw _ (List.mem_of_getElem? (i := 33) rfl))) (mvT hZ (hw _ (List.mem_of_getElem? (i := 32) rfl))) (by decide) (backOf (W := 3) (rm5 l Z a0 hw [] a1 xcs ab h0 n0 Z0 St E Fc Fv A hcs) hZ (hw _ (List.mem_of_getElem? (i := 34) rfl)) (hw _ (List.mem_of_getElem? (i := 5) rfl)) (by decide) (by decide)) q3a q3c (g := (mkF m 14 #[.val (.ref a1), .val (.int x1), .val (.int x2)] [(.ref a1), (.int x2), (.int x1), (.ref ab)])) rfl (by rw [hml]; rfl) (Steps.refl _) (argsL := []) (rest := [(.int x2), (.int x1), (.ref ab)]) (lenOf pd_5 rfl) rfl (by show 2 * 0 + _ ≤ _; exact Nat.le_of_eq rfl) (hb hby d3_14) (fun _ _ => ⟨rfl, e2, (by decide : 0 + 0 ≤ _), (by decide : 0 + 0 ≤ _)⟩)
  dsimp only [Pt.U, Pt.locs, Pt.cells, Pt.slots] at X3 lq3 yq3 zq3 st3 hQ3
  subst lq3 yq3 zq3
  obtain ⟨rfl, N3q, hq3⟩ := hQ3
  have N0 := Fr.app N0 N3q
  have e3 : T3.heap = h0 := hq3
  refine Dn.tr st3 ?_
  show Dn p e below s _ _ _ T3 (mkF m 17 #[.val (.ref a1), .val (.int x1), .val (.int x2)] [(.int (15 : Int32)), (.int x2), (.int x1), (.ref ab)])
  obtain ⟨_, _, ⟨T4, Lq4, kq_4, nq_4⟩, -, X4, ⟨Lc4, hQ4, lq4, yq4, zq4⟩, st4⟩ := Jvm.LawKit.callS X3 hx (y := (⟨"java/lang/StringLatin1", "indexOf", "([BIII)I"⟩ : MethodName)) hown (mvT hZ (hw _ (List.mem_of_getElem? (i := 40) rfl))) (mvT hZ (hw _ (List.mem_of_getElem? (i := 41) rfl))) (mvT hZ (hw _ (List.mem_of_getElem? (i := 42) rfl))) (mvT hZ (hw _ (List.mem_of_getElem? (i := 43) rfl))) (by decide) (backOf (W := 0) (rm7 l Z a0 hw [] ab x1 x2 (15 : Int32)  h0 n0 Z0 A hx2 rfl) hZ (hw _ (List.mem_of_getElem? (i := 43) rfl)) (hw _ (List.mem_of_getElem? (i := 42) rfl)) (by decide) (by decide)) (g := (mkF m 17 #[.val (.ref a1), .val (.int x1), .val (.int x2)] [(.int (15 : Int32)), (.int x2), (.int x1), (.ref ab)])) rfl (by rw [hml]; rfl) (argsL := [(.ref ab), (.int x1), (.int x2), (.int (15 : Int32))]) (rest := []) (lenOf pd_3 rfl) rfl (by show 2 * 0 + _ ≤ _; exact Nat.le_of_eq rfl) (hb hby d3_17) (fun _ _ => ⟨rfl, e3, (by decide : 0 + 0 ≤ _), (by decide : 0 + 0 ≤ _)⟩)
  dsimp only [Pt.U, Pt.locs, Pt.cells, Pt.slots] at X4 lq4 yq4 zq4 st4 hQ4
  subst lq4 yq4 zq4
  obtain ⟨rfl, N4q, hq4⟩ := hQ4
  have N0 := Fr.app N0 N4q
  have e4 : T4.heap = h0 := hq4
  refine Dn.st st4 ?_
  show Dn p e below s _ _ _ T4 (mkF m 20 #[.val (.ref a1), .val (.int x1), .val (.int x2)] [(.int (own_idx x1))])
  refine Dn.st (fun t q => XS.goto X4.here hx rfl (pc0 := 20) (pc' := 36) rfl (hb hby d3_20) (by decide) (by decide) q) ?_
  show Dn p e below s _ _ _ T4 (mkF m 36 #[.val (.ref a1), .val (.int x1), .val (.int x2)] [(.int (own_idx x1))])
  exact Dn.retI X4 hx Bd.notSynchronized Bd.returns (hb hby d3_36) (by rw [e4]; exact ⟨rfl, N0, rfl⟩) (by decide) (by decide)
theorem d2_0 : decode jdk_42_method_79_code 0 = .ok (.aload_n 0, 1) := by decide +kernel
theorem d2_1 : decode jdk_42_method_79_code 1 = .ok (.iload_n 1, 1) := by decide +kernel
theorem d2_2 : decode jdk_42_method_79_code 2 = .ok (.iconst 0, 1) := by decide +kernel
theorem d2_3 : decode jdk_42_method_79_code 3 = .ok (.invokevirtual 633, 3) := by decide +kernel
theorem d2_6 : decode jdk_42_method_79_code 6 = .ok (.ireturn, 1) := by decide +kernel
theorem ef_rm2 (m : MethodId) (x0 : Addr) (x1 : Int32) : entryFrame m #[(.ref x0), (.int x1)] 2 = mkF m 0 #[.val (.ref x0), .val (.int x1)] [] := by first | (simp [entryFrame, mkF, argsToLocals, Value.category]; done) | rfl
def Q2 (Z : State) (a1 : Addr) (x1 : Int32) (xcs : Int32) (ab : Addr) (h0 : Heap) (n0 : Nat) (v : Option Value) (h : Heap) (L : List Loc) : Prop := v = some (.int (own_idx x1)) ∧ Fr n0 L ∧ h = h0
set_option maxRecDepth 65536 in
set_option maxHeartbeats 40000000 in
theorem rm2 (l : Launch) (Z : State) (a0 : Array Value) (hw : ∀ d ∈ tables_1, d.before a0 Z = true) (ws : List Jvm.Cond) (a1 : Addr) (x1 : Int32) (xcs : Int32) (ab : Addr) (h0 : Heap) (n0 : Nat) (Z0 : n0 ≤ h0.size) (St : Sta Z h0 "java/lang/String" "COMPACT_STRINGS" "Z" (.int xcs)) (E : Exa Z h0 a1 "java/lang/String") (Fc : Fld Z h0 a1 "java/lang/String" "coder" "B" (.int (0 : Int32))) (Fv : Fld Z h0 a1 "java/lang/String" "value" "[B" (.ref ab)) (A : Ary Z h0 ab .byte 15 (fun x => .int (own_f x))) (hcs : ¬ (xcs = (0 : Int32))) :
    MetFree l (⟨"java/lang/String", "indexOf", "(I)I"⟩ : MethodName) (head1 (Jvm.Cond.code (⟨"java/lang/String", "indexOf", "(I)I"⟩ : MethodName) jdk_42_method_79_code 2 (some .int) :: ws) ({ frames := 3, cells := 0, slots := 0, locals := 46 } : Room)) (fun a U => a = #[(.ref a1), (.int x1)] ∧ Z.Warmed39 U.vm ∧ U.heap = h0) (fun _ _ _ _ _ => True) (fun _ U o U' => ∃ v L, o = .returned v ∧ Q2 Z a1 x1 xcs ab h0 n0 v U'.heap L ∧ FrameEnd U o U' L ({ frames := 3, cells := 0, slots := 0, locals := 46 } : Room).cells ({ frames := 3, cells := 0, slots := 0, locals := 46 } : Room).slots) := by
  refine MetFree.of_bodySF (plainFor_of_name pn_2) hisR ?_
  intro p e s m args below meth c s₁ Bd hml0 hP hK
  obtain ⟨rfl, hZ, hh⟩ := hP
  have hx := Bd.exec
  have hby := Bd.bytes
  have hml : c.maxLocals = 2 := hml0
  have hown : s.vm.findClass "java/lang/String" = some m.cls := findClass_of_methodNamed Bd.named
  have hnm := (name_of_methodNamed Bd.named Bd.method).1
  have X0 : Stand p l e ({ frames := 3, cells := 0, slots := 0, locals := 46 } : Room) s m #[(.ref a1), (.int x1)] below meth c s₁ [] 0 0 := Stand.of_body Bd
  have e0 : s₁.heap = h0 := by rw [← hh, Bd.state]; rfl
  have N0 := Fr.nil n0
  have K0 := Keep.refl h0 []
  suffices hD : Dn p e below s (Q2 Z a1 x1 xcs ab h0 n0) ({ frames := 3, cells := 0, slots := 0, locals := 46 } : Room).cells ({ frames := 3, cells := 0, slots := 0, locals := 46 } : Room).slots s₁ (mkF m 0 #[.val (.ref a1), .val (.int x1)] []) from by
    obtain ⟨s₂, o, q1, q2⟩ := hD
    exact ⟨s₂, o, castTop (ef_rm2 m a1 x1) q1, q2⟩
  refine Dn.st (fun t q => XS.aloadN X0.here hx rfl (hb hby d2_0) rfl rfl  q) ?_
  show Dn p e below s _ _ _ s₁ (mkF m 1 #[.val (.ref a1), .val (.int x1)] [(.ref a1)])
  refine Dn.st (fun t q => XS.iloadN X0.here hx rfl (hb hby d2_1) rfl  q) ?_
  show Dn p e below s _ _ _ s₁ (mkF m 2 #[.val (.ref a1), .val (.int x1)] [(.int x1), (.ref a1)])
  refine Dn.st (fun t q => XS.iconst X0.here hx rfl (hb hby d2_2) q) ?_
  show Dn p e below s _ _ _ s₁ (mkF m 3 #[.val (.ref a1), .val (.int x1)] [(.int (0 : Int32)), (.int x1), (.ref a1)])
  obtain ⟨cq1, kq1, q1a, q1b, q1c⟩ := isOf hZ e0 E
  obtain ⟨_, _, ⟨T1, Lq1, kq_1, nq_1⟩, -, X1, ⟨Lc1, hQ1, lq1, yq1, zq1⟩, st1⟩ := X0.virtualBack hx (y := (⟨"java/lang/String", "indexOf", "(II)I"⟩ : MethodName)) (z := (⟨"java/lang/String", "indexOf", "(II)I"⟩ : MethodName)) hown (mvT hZ (hw _ (List.mem_of_getElem? (i := 17) rfl))) (mvT hZ (hw _ (List.mem_of_getElem? (i := 18) rfl))) (notFace_of_selects (args := #[]) (mvT hZ (hw _ (List.mem_of_getElem? (i := 20) rfl)))) (mvT hZ (hw _ (List.mem_of_getElem? (i := 20) rfl))) (mvT hZ (hw _ (List.mem_of_getElem? (i := 19) rfl))) (by decide) (backOf (W := 0) (rm3 l Z a0 hw [] a1 x1 (0 : Int32) xcs ab h0 n0 Z0 St E Fc Fv A hcs rfl) hZ (hw _ (List.mem_of_getElem? (i := 21) rfl)) (hw _ (List.mem_of_getElem? (i := 5) rfl)) (by decide) (by decide)) q1a q1c (g := (mkF m 3 #[.val (.ref a1), .val (.int x1)] [(.int (0 : Int32)), (.int x1), (.ref a1)])) rfl (by rw [hml]; rfl) (Steps.refl _) (argsL := [(.int x1), (.int (0 : Int32))]) (rest := []) (lenOf pd_2 rfl) rfl (by show 2 * 0 + _ ≤ _; exact Nat.le_of_eq rfl) (hb hby d2_3) (fun _ _ => ⟨rfl, e0, (by decide : 0 + 0 ≤ _), (by decide : 0 + 0 ≤ _)⟩)
  dsimp only [Pt.U, Pt.locs, Pt.cells, Pt.slots] at X1 lq1 yq1 zq1 st1 hQ1
  subst lq1 yq1 zq1
  obtain ⟨rfl, N1q, hq1⟩ := hQ1
  have N0 := Fr.app N0 N1q
  have e1 : T1.heap = h0 := hq1
  refine Dn.tr st1 ?_
  show Dn p e below s _ _ _ T1 (mkF m 6 #[.val (.ref a1), .val (.int x1)] [(.int (own_idx x1))])
  exact Dn.retI X1 hx Bd.notSynchronized Bd.returns (hb hby d2_6) (by rw [e1]; exact ⟨rfl, N0, rfl⟩) (by decide) (by decide)
theorem d1_0 : decode prog_7_method_3_code 0 = .ok (.iload_n 0, 1) := by decide +kernel
theorem d1_1 : decode prog_7_method_3_code 1 = .ok (.bipush 97, 2) := by decide +kernel
theorem d1_3 : decode prog_7_method_3_code 3 = .ok (.if_icmp .lt 9, 3) := by decide +kernel
theorem d1_12 : decode prog_7_method_3_code 12 = .ok (.iload_n 0, 1) := by decide +kernel
theorem d1_13 : decode prog_7_method_3_code 13 = .ok (.bipush 65, 2) := by decide +kernel
theorem d1_15 : decode prog_7_method_3_code 15 = .ok (.if_icmp .lt 9, 3) := by decide +kernel
theorem d1_24 : decode prog_7_method_3_code 24 = .ok (.iload_n 0, 1) := by decide +kernel
theorem d1_25 : decode prog_7_method_3_code 25 = .ok (.bipush 48, 2) := by decide +kernel
theorem d1_27 : decode prog_7_method_3_code 27 = .ok (.if_icmp .lt 9, 3) := by decide +kernel
theorem d1_30 : decode prog_7_method_3_code 30 = .ok (.iload_n 0, 1) := by decide +kernel
theorem d1_31 : decode prog_7_method_3_code 31 = .ok (.bipush 57, 2) := by decide +kernel
theorem d1_33 : decode prog_7_method_3_code 33 = .ok (.if_icmp .le 12, 3) := by decide +kernel
theorem d1_45 : decode prog_7_method_3_code 45 = .ok (.iconst 1, 1) := by decide +kernel
theorem d1_46 : decode prog_7_method_3_code 46 = .ok (.goto 4, 3) := by decide +kernel
theorem d1_18 : decode prog_7_method_3_code 18 = .ok (.iload_n 0, 1) := by decide +kernel
theorem d1_19 : decode prog_7_method_3_code 19 = .ok (.bipush 90, 2) := by decide +kernel
theorem d1_21 : decode prog_7_method_3_code 21 = .ok (.if_icmp .le 24, 3) := by decide +kernel
theorem d1_6 : decode prog_7_method_3_code 6 = .ok (.iload_n 0, 1) := by decide +kernel
theorem d1_7 : decode prog_7_method_3_code 7 = .ok (.bipush 122, 2) := by decide +kernel
theorem d1_9 : decode prog_7_method_3_code 9 = .ok (.if_icmp .le 36, 3) := by decide +kernel
def own_t36 (x1 : Int32) : Int32 := if own_idx x1 < (0 : Int32) then (0 : Int32) else (1 : Int32)
def own_tok (x1 : Int32) : Int32 := (if x1 < (97 : Int32) then (if x1 < (65 : Int32) then (if x1 < (48 : Int32) then (own_t36 x1) else (if (57 : Int32) < x1 then (own_t36 x1) else (1 : Int32))) else (if (90 : Int32) < x1 then (if x1 < (48 : Int32) then (own_t36 x1) else (if (57 : Int32) < x1 then (own_t36 x1) else (1 : Int32))) else (1 : Int32))) else (if (122 : Int32) < x1 then (if x1 < (65 : Int32) then (if x1 < (48 : Int32) then (own_t36 x1) else (if (57 : Int32) < x1 then (own_t36 x1) else (1 : Int32))) else (if (90 : Int32) < x1 then (if x1 < (48 : Int32) then (own_t36 x1) else (if (57 : Int32) < x1 then (own_t36 x1) else (1 : Int32))) else (1 : Int32))) else (1 : Int32)))
theorem own_wS {Z : State} {a0 : Array Value} (hw : ∀ d ∈ tables_1, d.before a0 Z = true) : ∀ a ∈ Bundle.stringAtoms, a.before a0 Z = true := by
  intro d hd
  simp only [Bundle.stringAtoms, List.mem_cons, List.not_mem_nil, or_false] at hd
  rcases hd with rfl | rfl | rfl | rfl | rfl | rfl | rfl
  · exact hw _ (List.mem_of_getElem? (i := 5) rfl)
  · exact hw _ (List.mem_of_getElem? (i := 6) rfl)
  · exact hw _ (List.mem_of_getElem? (i := 7) rfl)
  · exact hw _ (List.mem_of_getElem? (i := 8) rfl)
  · exact hw _ (List.mem_of_getElem? (i := 9) rfl)
  · exact hw _ (List.mem_of_getElem? (i := 10) rfl)
  · exact hw _ (List.mem_of_getElem? (i := 11) rfl)
theorem own_lat : ∀ c ∈ ("!#$%&'*+-.^_`|~" : String).toList, c.toNat < 256 := by decide
theorem own_EW {Z : State} {a0 : Array Value} (hw : ∀ d ∈ tables_1, d.before a0 Z = true) : EW Z a0 own_EL := EW.cons (hw _ (List.mem_of_getElem? (i := 4) rfl)) own_lat EW.nil
theorem d1_36 : decode prog_7_method_3_code 36 = .ok (.ldc 27, 2) := by decide +kernel
theorem d1_38 : decode prog_7_method_3_code 38 = .ok (.iload_n 0, 1) := by decide +kernel
theorem d1_39 : decode prog_7_method_3_code 39 = .ok (.invokevirtual 29, 3) := by decide +kernel
theorem pd_6 : parseMethodDescriptor "(I)I" = some ⟨[.int], some .int⟩ := by decide +kernel
theorem d1_42 : decode prog_7_method_3_code 42 = .ok (.ifCond .lt 7, 3) := by decide +kernel
theorem d1_49 : decode prog_7_method_3_code 49 = .ok (.iconst 0, 1) := by decide +kernel
theorem d1_50 : decode prog_7_method_3_code 50 = .ok (.ireturn, 1) := by decide +kernel
theorem pn_3 : plainName "com/example/lyrebird/lyrebird/core/header/HeaderSyntax" = true := by first | (simp [plainName, overriddenIn]; done) | decide +kernel
theorem ef_rm1 (m : MethodId) (x0 : Int32) : entryFrame m #[(.int x0)] 1 = mkF m 0 #[.val (.int x0)] [] := by first | (simp [entryFrame, mkF, argsToLocals, Value.category]; done) | rfl
def Q1 (Z : State) (x1 : Int32) (xcs : Int32) (h0 : Heap) (n0 : Nat) (v : Option Value) (h : Heap) (L : List Loc) : Prop := v = some (.int (own_tok x1)) ∧ Fr n0 L
set_option maxRecDepth 65536 in
set_option maxHeartbeats 40000000 in
theorem rm1 (l : Launch) (Z : State) (a0 : Array Value) (hw : ∀ d ∈ tables_1, d.before a0 Z = true) (ws : List Jvm.Cond) (x1 : Int32) (xcs : Int32) (h0 : Heap) (n0 : Nat) (Z0 : n0 ≤ h0.size) (St : Sta Z h0 "java/lang/String" "COMPACT_STRINGS" "Z" (.int xcs)) (hcs : ¬ (xcs = (0 : Int32))) :
    MetFree l (⟨"com/example/lyrebird/lyrebird/core/header/HeaderSyntax", "isTokenChar", "(C)Z"⟩ : MethodName) (head1 (Jvm.Cond.code (⟨"com/example/lyrebird/lyrebird/core/header/HeaderSyntax", "isTokenChar", "(C)Z"⟩ : MethodName) prog_7_method_3_code 1 (some .boolean) :: ws) ({ frames := 4, cells := 2, slots := 64, locals := 59 } : Room)) (fun a U => a = #[(.int x1)] ∧ Z.Warmed39 U.vm ∧ U.heap = h0 ∧ CHv Z own_EL U.vm h0) (fun _ _ _ _ _ => True) (fun _ U o U' => ∃ v L, o = .returned v ∧ Q1 Z x1 xcs h0 n0 v U'.heap L ∧ ReturnedEndW U o U' L ({ frames := 4, cells := 2, slots := 64, locals := 59 } : Room).cells ({ frames := 4, cells := 2, slots := 64, locals := 59 } : Room).slots) := by
  refine MetFree.of_bodySF (plainFor_of_name pn_3) hisR ?_
  intro p e s m args below meth c s₁ Bd hml0 hP hK
  obtain ⟨rfl, hZ, hh, hCH⟩ := hP
  have hx := Bd.exec
  have hby := Bd.bytes
  have hml : c.maxLocals = 1 := hml0
  have hown : s.vm.findClass "com/example/lyrebird/lyrebird/core/header/HeaderSyntax" = some m.cls := findClass_of_methodNamed Bd.named
  have hnm := (name_of_methodNamed Bd.named Bd.method).1
  have X0 : Stand p l e ({ frames := 4, cells := 2, slots := 64, locals := 59 } : Room) s m #[(.int x1)] below meth c s₁ [] 0 0 := Stand.of_body Bd
  have e0 : s₁.heap = h0 := by rw [← hh, Bd.state]; rfl
  have N0 := Fr.nil n0
  have K0 := Keep.refl h0 []
  suffices hD : DnW p e below s (Q1 Z x1 xcs h0 n0) ({ frames := 4, cells := 2, slots := 64, locals := 59 } : Room).cells ({ frames := 4, cells := 2, slots := 64, locals := 59 } : Room).slots s₁ (mkF m 0 #[.val (.int x1)] []) from by
    obtain ⟨s₂, o, q1, q2⟩ := hD
    exact ⟨s₂, o, castTop (ef_rm1 m x1) q1, q2⟩
  refine DnW.st (fun t q => XS.iloadN X0.here hx rfl (hb hby d1_0) rfl  q) ?_
  show DnW p e below s _ _ _ s₁ (mkF m 1 #[.val (.int x1)] [(.int x1)])
  refine DnW.st (fun t q => XS.bipush X0.here hx rfl (hb hby d1_1) q) ?_
  show DnW p e below s _ _ _ s₁ (mkF m 3 #[.val (.int x1)] [(.int (97 : Int32)), (.int x1)])
  have jl : ∀ (htok : own_tok x1 = own_t36 x1), DnW p e below s (Q1 Z x1 xcs h0 n0) (({ frames := 4, cells := 2, slots := 64, locals := 59 } : Room).cells) (({ frames := 4, cells := 2, slots := 64, locals := 59 } : Room).slots) s₁ (mkF m 36 #[.val (.int x1)] []) := by
    intro htok
    obtain ⟨aS, T1, h1, k1, ab, kb, X1, e1, E1, S1, le1, hZ1, ho1, E, Fc, Fv, Av, -, -, -, -, -, st1⟩ := ldcCH (s := s) (vm0 := s.vm) (EL := own_EL) (text := "!#$%&'*+-.^_`|~") (z := (15 : Int32)) X0 hx hZ hown (hw _ (List.mem_of_getElem? (i := 4) rfl)) (own_wS hw) e0 (k0 := 0) (State.WarmedH.since (State.WarmedH.refl s) 0) (Nat.zero_le _) (own_EW hw) (List.mem_singleton.mpr rfl) hCH ⟨own_lat, rfl⟩ (by decide) (by decide) (g := (mkF m 36 #[.val (.int x1)] [])) rfl (hb hby d1_36) (n := 60) (by decide) (by decide) (by decide) (by decide)
    have A : Ary Z h1 ab .byte 15 (fun x => .int (own_f x)) := Ary.of_arv Av (by decide) (own_vs rfl)
    have St := Sta.ext E1 St
    refine DnW.st st1 ?_
    have Z0 := Nat.le_trans Z0 E1.1
    refine DnW.reb S1 ?_
    have hZ := hZ1
    have hown := ho1
    obtain ⟨s1, hs1⟩ : ∃ z, z = s.setVm T1.vm := ⟨_, rfl⟩
    rw [← hs1] at X1 hZ hown ⊢
    show Dn p e below s1 _ _ _ T1 (mkF m 38 #[.val (.int x1)] [(.ref aS)])
    refine Dn.st (fun t q => XS.iloadN X1.here hx rfl (hb hby d1_38) rfl  q) ?_
    show Dn p e below s1 _ _ _ T1 (mkF m 39 #[.val (.int x1)] [(.int x1), (.ref aS)])
    obtain ⟨cq2, kq2, q2a, q2b, q2c⟩ := isOf hZ e1 E
    obtain ⟨_, _, ⟨T2, Lq2, kq_2, nq_2⟩, -, X2, ⟨Lc2, hQ2, lq2, yq2, zq2⟩, st2⟩ := X1.virtualBack hx (y := (⟨"java/lang/String", "indexOf", "(I)I"⟩ : MethodName)) (z := (⟨"java/lang/String", "indexOf", "(I)I"⟩ : MethodName)) hown (mvT hZ (hw _ (List.mem_of_getElem? (i := 12) rfl))) (mvT hZ (hw _ (List.mem_of_getElem? (i := 13) rfl))) (notFace_of_selects (args := #[]) (mvT hZ (hw _ (List.mem_of_getElem? (i := 15) rfl)))) (mvT hZ (hw _ (List.mem_of_getElem? (i := 15) rfl))) (mvT hZ (hw _ (List.mem_of_getElem? (i := 14) rfl))) (by decide) (backOf (W := 0) (rm2 l Z a0 hw [] aS x1 xcs ab h1 n0 Z0 St E Fc Fv A hcs) hZ (hw _ (List.mem_of_getElem? (i := 16) rfl)) (hw _ (List.mem_of_getElem? (i := 5) rfl)) (by decide) (by decide)) q2a q2c (g := (mkF m 39 #[.val (.int x1)] [(.int x1), (.ref aS)])) rfl (by rw [hml]; rfl) (Steps.refl _) (argsL := [(.int x1)]) (rest := []) (lenOf pd_6 rfl) rfl (by show 2 * 0 + _ ≤ _; exact Nat.le_of_eq rfl) (hb hby d1_39) (fun _ _ => ⟨rfl, e1, (by decide : 2 + 0 ≤ _), (by decide : 64 + 0 ≤ _)⟩)
    dsimp only [Pt.U, Pt.locs, Pt.cells, Pt.slots] at X2 lq2 yq2 zq2 st2 hQ2
    subst lq2 yq2 zq2
    obtain ⟨rfl, N2q, hq2⟩ := hQ2
    have N0 := Fr.app N0 N2q
    have e2 : T2.heap = h1 := hq2
    refine Dn.tr st2 ?_
    show Dn p e below s1 _ _ _ T2 (mkF m 42 #[.val (.int x1)] [(.int (own_idx x1))])
    by_cases hf : (own_idx x1) < (0 : Int32)
    · refine Dn.st (fun t q => XS.ifYes X2.here hx rfl (pc0 := 42) (pc' := 49) rfl (hb hby d1_42) rfl ((if0 _ _).trans (tlt hf).1) (by decide) (by decide) q) ?_
      show Dn p e below s1 _ _ _ T2 (mkF m 49 #[.val (.int x1)] [])
      refine Dn.st (fun t q => XS.iconst X2.here hx rfl (hb hby d1_49) q) ?_
      show Dn p e below s1 _ _ _ T2 (mkF m 50 #[.val (.int x1)] [(.int (0 : Int32))])
      exact Dn.retZ X2 hx Bd.notSynchronized (t := .boolean) Bd.returns (by simp) (hb hby d1_50) (by rw [e2]; exact ⟨⟨by show some (Value.int (0 : Int32)) = some (Value.int (own_tok x1)); rw [htok, own_t36, if_pos hf], N0⟩, le1⟩) (by decide) (by decide)
    · refine Dn.st (fun t q => XS.ifNo X2.here hx rfl (hb hby d1_42) rfl ((if0 _ _).trans (flt hf).1) q) ?_
      show Dn p e below s1 _ _ _ T2 (mkF m 45 #[.val (.int x1)] [])
      refine Dn.st (fun t q => XS.iconst X2.here hx rfl (hb hby d1_45) q) ?_
      show Dn p e below s1 _ _ _ T2 (mkF m 46 #[.val (.int x1)] [(.int (1 : Int32))])
      refine Dn.st (fun t q => XS.goto X2.here hx rfl (pc0 := 46) (pc' := 50) rfl (hb hby d1_46) (by decide) (by decide) q) ?_
      show Dn p e below s1 _ _ _ T2 (mkF m 50 #[.val (.int x1)] [(.int (1 : Int32))])
      exact Dn.retZ X2 hx Bd.notSynchronized (t := .boolean) Bd.returns (by simp) (hb hby d1_50) (by rw [e2]; exact ⟨⟨by show some (Value.int (1 : Int32)) = some (Value.int (own_tok x1)); rw [htok, own_t36, if_neg hf], N0⟩, le1⟩) (by decide) (by decide)
  by_cases c3 : x1 < (97 : Int32)
  · refine DnW.st (fun t q => XS.icmpYes X0.here hx rfl (pc0 := 3) (pc' := 12) rfl (hb hby d1_3) rfl (tlt c3).1 (by decide) (by decide) q) ?_
    show DnW p e below s _ _ _ s₁ (mkF m 12 #[.val (.int x1)] [])
    refine DnW.st (fun t q => XS.iloadN X0.here hx rfl (hb hby d1_12) rfl  q) ?_
    show DnW p e below s _ _ _ s₁ (mkF m 13 #[.val (.int x1)] [(.int x1)])
    refine DnW.st (fun t q => XS.bipush X0.here hx rfl (hb hby d1_13) q) ?_
    show DnW p e below s _ _ _ s₁ (mkF m 15 #[.val (.int x1)] [(.int (65 : Int32)), (.int x1)])
    by_cases c4 : x1 < (65 : Int32)
    · refine DnW.st (fun t q => XS.icmpYes X0.here hx rfl (pc0 := 15) (pc' := 24) rfl (hb hby d1_15) rfl (tlt c4).1 (by decide) (by decide) q) ?_
      show DnW p e below s _ _ _ s₁ (mkF m 24 #[.val (.int x1)] [])
      refine DnW.st (fun t q => XS.iloadN X0.here hx rfl (hb hby d1_24) rfl  q) ?_
      show DnW p e below s _ _ _ s₁ (mkF m 25 #[.val (.int x1)] [(.int x1)])
      refine DnW.st (fun t q => XS.bipush X0.here hx rfl (hb hby d1_25) q) ?_
      show DnW p e below s _ _ _ s₁ (mkF m 27 #[.val (.int x1)] [(.int (48 : Int32)), (.int x1)])
      by_cases c5 : x1 < (48 : Int32)
      · refine DnW.st (fun t q => XS.icmpYes X0.here hx rfl (pc0 := 27) (pc' := 36) rfl (hb hby d1_27) rfl (tlt c5).1 (by decide) (by decide) q) ?_
        show DnW p e below s _ _ _ s₁ (mkF m 36 #[.val (.int x1)] [])
        exact jl (by rw [own_tok, if_pos c3, if_pos c4, if_pos c5])
      · refine DnW.st (fun t q => XS.icmpNo X0.here hx rfl (hb hby d1_27) rfl (flt c5).1 q) ?_
        show DnW p e below s _ _ _ s₁ (mkF m 30 #[.val (.int x1)] [])
        refine DnW.st (fun t q => XS.iloadN X0.here hx rfl (hb hby d1_30) rfl  q) ?_
        show DnW p e below s _ _ _ s₁ (mkF m 31 #[.val (.int x1)] [(.int x1)])
        refine DnW.st (fun t q => XS.bipush X0.here hx rfl (hb hby d1_31) q) ?_
        show DnW p e below s _ _ _ s₁ (mkF m 33 #[.val (.int x1)] [(.int (57 : Int32)), (.int x1)])
        by_cases c6 : (57 : Int32) < x1
        · refine DnW.st (fun t q => XS.icmpNo X0.here hx rfl (hb hby d1_33) rfl (tlt c6).2.2.2 q) ?_
          show DnW p e below s _ _ _ s₁ (mkF m 36 #[.val (.int x1)] [])
          exact jl (by rw [own_tok, if_pos c3, if_pos c4, if_neg c5, if_pos c6])
        · refine DnW.st (fun t q => XS.icmpYes X0.here hx rfl (pc0 := 33) (pc' := 45) rfl (hb hby d1_33) rfl (flt c6).2.2.2 (by decide) (by decide) q) ?_
          show DnW p e below s _ _ _ s₁ (mkF m 45 #[.val (.int x1)] [])
          refine DnW.st (fun t q => XS.iconst X0.here hx rfl (hb hby d1_45) q) ?_
          show DnW p e below s _ _ _ s₁ (mkF m 46 #[.val (.int x1)] [(.int (1 : Int32))])
          refine DnW.st (fun t q => XS.goto X0.here hx rfl (pc0 := 46) (pc' := 50) rfl (hb hby d1_46) (by decide) (by decide) q) ?_
          show DnW p e below s _ _ _ s₁ (mkF m 50 #[.val (.int x1)] [(.int (1 : Int32))])
          refine DnW.of ?_
          exact Dn.retZ X0 hx Bd.notSynchronized (t := .boolean) Bd.returns (by simp) (hb hby d1_50) (by rw [e0]; exact ⟨by show some (Value.int (1 : Int32)) = some (Value.int (own_tok x1)); rw [own_tok, if_pos c3, if_pos c4, if_neg c5, if_neg c6], N0⟩) (by decide) (by decide)
    · refine DnW.st (fun t q => XS.icmpNo X0.here hx rfl (hb hby d1_15) rfl (flt c4).1 q) ?_
      show DnW p e below s _ _ _ s₁ (mkF m 18 #[.val (.int x1)] [])
      refine DnW.st (fun t q => XS.iloadN X0.here hx rfl (hb hby d1_18) rfl  q) ?_
      show DnW p e below s _ _ _ s₁ (mkF m 19 #[.val (.int x1)] [(.int x1)])
      refine DnW.st (fun t q => XS.bipush X0.here hx rfl (hb hby d1_19) q) ?_
      show DnW p e below s _ _ _ s₁ (mkF m 21 #[.val (.int x1)] [(.int (90 : Int32)), (.int x1)])
      by_cases c7 : (90 : Int32) < x1
      · refine DnW.st (fun t q => XS.icmpNo X0.here hx rfl (hb hby d1_21) rfl (tlt c7).2.2.2 q) ?_
        show DnW p e below s _ _ _ s₁ (mkF m 24 #[.val (.int x1)] [])
        refine DnW.st (fun t q => XS.iloadN X0.here hx rfl (hb hby d1_24) rfl  q) ?_
        show DnW p e below s _ _ _ s₁ (mkF m 25 #[.val (.int x1)] [(.int x1)])
        refine DnW.st (fun t q => XS.bipush X0.here hx rfl (hb hby d1_25) q) ?_
        show DnW p e below s _ _ _ s₁ (mkF m 27 #[.val (.int x1)] [(.int (48 : Int32)), (.int x1)])
        by_cases c8 : x1 < (48 : Int32)
        · refine DnW.st (fun t q => XS.icmpYes X0.here hx rfl (pc0 := 27) (pc' := 36) rfl (hb hby d1_27) rfl (tlt c8).1 (by decide) (by decide) q) ?_
          show DnW p e below s _ _ _ s₁ (mkF m 36 #[.val (.int x1)] [])
          exact jl (by rw [own_tok, if_pos c3, if_neg c4, if_pos c7, if_pos c8])
        · refine DnW.st (fun t q => XS.icmpNo X0.here hx rfl (hb hby d1_27) rfl (flt c8).1 q) ?_
          show DnW p e below s _ _ _ s₁ (mkF m 30 #[.val (.int x1)] [])
          refine DnW.st (fun t q => XS.iloadN X0.here hx rfl (hb hby d1_30) rfl  q) ?_
          show DnW p e below s _ _ _ s₁ (mkF m 31 #[.val (.int x1)] [(.int x1)])
          refine DnW.st (fun t q => XS.bipush X0.here hx rfl (hb hby d1_31) q) ?_
          show DnW p e below s _ _ _ s₁ (mkF m 33 #[.val (.int x1)] [(.int (57 : Int32)), (.int x1)])
          by_cases c9 : (57 : Int32) < x1
          · refine DnW.st (fun t q => XS.icmpNo X0.here hx rfl (hb hby d1_33) rfl (tlt c9).2.2.2 q) ?_
            show DnW p e below s _ _ _ s₁ (mkF m 36 #[.val (.int x1)] [])
            exact jl (by rw [own_tok, if_pos c3, if_neg c4, if_pos c7, if_neg c8, if_pos c9])
          · refine DnW.st (fun t q => XS.icmpYes X0.here hx rfl (pc0 := 33) (pc' := 45) rfl (hb hby d1_33) rfl (flt c9).2.2.2 (by decide) (by decide) q) ?_
            show DnW p e below s _ _ _ s₁ (mkF m 45 #[.val (.int x1)] [])
            refine DnW.st (fun t q => XS.iconst X0.here hx rfl (hb hby d1_45) q) ?_
            show DnW p e below s _ _ _ s₁ (mkF m 46 #[.val (.int x1)] [(.int (1 : Int32))])
            refine DnW.st (fun t q => XS.goto X0.here hx rfl (pc0 := 46) (pc' := 50) rfl (hb hby d1_46) (by decide) (by decide) q) ?_
            show DnW p e below s _ _ _ s₁ (mkF m 50 #[.val (.int x1)] [(.int (1 : Int32))])
            refine DnW.of ?_
            exact Dn.retZ X0 hx Bd.notSynchronized (t := .boolean) Bd.returns (by simp) (hb hby d1_50) (by rw [e0]; exact ⟨by show some (Value.int (1 : Int32)) = some (Value.int (own_tok x1)); rw [own_tok, if_pos c3, if_neg c4, if_pos c7, if_neg c8, if_neg c9], N0⟩) (by decide) (by decide)
      · refine DnW.st (fun t q => XS.icmpYes X0.here hx rfl (pc0 := 21) (pc' := 45) rfl (hb hby d1_21) rfl (flt c7).2.2.2 (by decide) (by decide) q) ?_
        show DnW p e below s _ _ _ s₁ (mkF m 45 #[.val (.int x1)] [])
        refine DnW.st (fun t q => XS.iconst X0.here hx rfl (hb hby d1_45) q) ?_
        show DnW p e below s _ _ _ s₁ (mkF m 46 #[.val (.int x1)] [(.int (1 : Int32))])
        refine DnW.st (fun t q => XS.goto X0.here hx rfl (pc0 := 46) (pc' := 50) rfl (hb hby d1_46) (by decide) (by decide) q) ?_
        show DnW p e below s _ _ _ s₁ (mkF m 50 #[.val (.int x1)] [(.int (1 : Int32))])
        refine DnW.of ?_
        exact Dn.retZ X0 hx Bd.notSynchronized (t := .boolean) Bd.returns (by simp) (hb hby d1_50) (by rw [e0]; exact ⟨by show some (Value.int (1 : Int32)) = some (Value.int (own_tok x1)); rw [own_tok, if_pos c3, if_neg c4, if_neg c7], N0⟩) (by decide) (by decide)
  · refine DnW.st (fun t q => XS.icmpNo X0.here hx rfl (hb hby d1_3) rfl (flt c3).1 q) ?_
    show DnW p e below s _ _ _ s₁ (mkF m 6 #[.val (.int x1)] [])
    refine DnW.st (fun t q => XS.iloadN X0.here hx rfl (hb hby d1_6) rfl  q) ?_
    show DnW p e below s _ _ _ s₁ (mkF m 7 #[.val (.int x1)] [(.int x1)])
    refine DnW.st (fun t q => XS.bipush X0.here hx rfl (hb hby d1_7) q) ?_
    show DnW p e below s _ _ _ s₁ (mkF m 9 #[.val (.int x1)] [(.int (122 : Int32)), (.int x1)])
    by_cases c10 : (122 : Int32) < x1
    · refine DnW.st (fun t q => XS.icmpNo X0.here hx rfl (hb hby d1_9) rfl (tlt c10).2.2.2 q) ?_
      show DnW p e below s _ _ _ s₁ (mkF m 12 #[.val (.int x1)] [])
      refine DnW.st (fun t q => XS.iloadN X0.here hx rfl (hb hby d1_12) rfl  q) ?_
      show DnW p e below s _ _ _ s₁ (mkF m 13 #[.val (.int x1)] [(.int x1)])
      refine DnW.st (fun t q => XS.bipush X0.here hx rfl (hb hby d1_13) q) ?_
      show DnW p e below s _ _ _ s₁ (mkF m 15 #[.val (.int x1)] [(.int (65 : Int32)), (.int x1)])
      by_cases c11 : x1 < (65 : Int32)
      · refine DnW.st (fun t q => XS.icmpYes X0.here hx rfl (pc0 := 15) (pc' := 24) rfl (hb hby d1_15) rfl (tlt c11).1 (by decide) (by decide) q) ?_
        show DnW p e below s _ _ _ s₁ (mkF m 24 #[.val (.int x1)] [])
        refine DnW.st (fun t q => XS.iloadN X0.here hx rfl (hb hby d1_24) rfl  q) ?_
        show DnW p e below s _ _ _ s₁ (mkF m 25 #[.val (.int x1)] [(.int x1)])
        refine DnW.st (fun t q => XS.bipush X0.here hx rfl (hb hby d1_25) q) ?_
        show DnW p e below s _ _ _ s₁ (mkF m 27 #[.val (.int x1)] [(.int (48 : Int32)), (.int x1)])
        by_cases c12 : x1 < (48 : Int32)
        · refine DnW.st (fun t q => XS.icmpYes X0.here hx rfl (pc0 := 27) (pc' := 36) rfl (hb hby d1_27) rfl (tlt c12).1 (by decide) (by decide) q) ?_
          show DnW p e below s _ _ _ s₁ (mkF m 36 #[.val (.int x1)] [])
          exact jl (by rw [own_tok, if_neg c3, if_pos c10, if_pos c11, if_pos c12])
        · refine DnW.st (fun t q => XS.icmpNo X0.here hx rfl (hb hby d1_27) rfl (flt c12).1 q) ?_
          show DnW p e below s _ _ _ s₁ (mkF m 30 #[.val (.int x1)] [])
          refine DnW.st (fun t q => XS.iloadN X0.here hx rfl (hb hby d1_30) rfl  q) ?_
          show DnW p e below s _ _ _ s₁ (mkF m 31 #[.val (.int x1)] [(.int x1)])
          refine DnW.st (fun t q => XS.bipush X0.here hx rfl (hb hby d1_31) q) ?_
          show DnW p e below s _ _ _ s₁ (mkF m 33 #[.val (.int x1)] [(.int (57 : Int32)), (.int x1)])
          by_cases c13 : (57 : Int32) < x1
          · refine DnW.st (fun t q => XS.icmpNo X0.here hx rfl (hb hby d1_33) rfl (tlt c13).2.2.2 q) ?_
            show DnW p e below s _ _ _ s₁ (mkF m 36 #[.val (.int x1)] [])
            exact jl (by rw [own_tok, if_neg c3, if_pos c10, if_pos c11, if_neg c12, if_pos c13])
          · refine DnW.st (fun t q => XS.icmpYes X0.here hx rfl (pc0 := 33) (pc' := 45) rfl (hb hby d1_33) rfl (flt c13).2.2.2 (by decide) (by decide) q) ?_
            show DnW p e below s _ _ _ s₁ (mkF m 45 #[.val (.int x1)] [])
            refine DnW.st (fun t q => XS.iconst X0.here hx rfl (hb hby d1_45) q) ?_
            show DnW p e below s _ _ _ s₁ (mkF m 46 #[.val (.int x1)] [(.int (1 : Int32))])
            refine DnW.st (fun t q => XS.goto X0.here hx rfl (pc0 := 46) (pc' := 50) rfl (hb hby d1_46) (by decide) (by decide) q) ?_
            show DnW p e below s _ _ _ s₁ (mkF m 50 #[.val (.int x1)] [(.int (1 : Int32))])
            refine DnW.of ?_
            exact Dn.retZ X0 hx Bd.notSynchronized (t := .boolean) Bd.returns (by simp) (hb hby d1_50) (by rw [e0]; exact ⟨by show some (Value.int (1 : Int32)) = some (Value.int (own_tok x1)); rw [own_tok, if_neg c3, if_pos c10, if_pos c11, if_neg c12, if_neg c13], N0⟩) (by decide) (by decide)
      · refine DnW.st (fun t q => XS.icmpNo X0.here hx rfl (hb hby d1_15) rfl (flt c11).1 q) ?_
        show DnW p e below s _ _ _ s₁ (mkF m 18 #[.val (.int x1)] [])
        refine DnW.st (fun t q => XS.iloadN X0.here hx rfl (hb hby d1_18) rfl  q) ?_
        show DnW p e below s _ _ _ s₁ (mkF m 19 #[.val (.int x1)] [(.int x1)])
        refine DnW.st (fun t q => XS.bipush X0.here hx rfl (hb hby d1_19) q) ?_
        show DnW p e below s _ _ _ s₁ (mkF m 21 #[.val (.int x1)] [(.int (90 : Int32)), (.int x1)])
        by_cases c14 : (90 : Int32) < x1
        · refine DnW.st (fun t q => XS.icmpNo X0.here hx rfl (hb hby d1_21) rfl (tlt c14).2.2.2 q) ?_
          show DnW p e below s _ _ _ s₁ (mkF m 24 #[.val (.int x1)] [])
          refine DnW.st (fun t q => XS.iloadN X0.here hx rfl (hb hby d1_24) rfl  q) ?_
          show DnW p e below s _ _ _ s₁ (mkF m 25 #[.val (.int x1)] [(.int x1)])
          refine DnW.st (fun t q => XS.bipush X0.here hx rfl (hb hby d1_25) q) ?_
          show DnW p e below s _ _ _ s₁ (mkF m 27 #[.val (.int x1)] [(.int (48 : Int32)), (.int x1)])
          by_cases c15 : x1 < (48 : Int32)
          · refine DnW.st (fun t q => XS.icmpYes X0.here hx rfl (pc0 := 27) (pc' := 36) rfl (hb hby d1_27) rfl (tlt c15).1 (by decide) (by decide) q) ?_
            show DnW p e below s _ _ _ s₁ (mkF m 36 #[.val (.int x1)] [])
            exact jl (by rw [own_tok, if_neg c3, if_pos c10, if_neg c11, if_pos c14, if_pos c15])
          · refine DnW.st (fun t q => XS.icmpNo X0.here hx rfl (hb hby d1_27) rfl (flt c15).1 q) ?_
            show DnW p e below s _ _ _ s₁ (mkF m 30 #[.val (.int x1)] [])
            refine DnW.st (fun t q => XS.iloadN X0.here hx rfl (hb hby d1_30) rfl  q) ?_
            show DnW p e below s _ _ _ s₁ (mkF m 31 #[.val (.int x1)] [(.int x1)])
            refine DnW.st (fun t q => XS.bipush X0.here hx rfl (hb hby d1_31) q) ?_
            show DnW p e below s _ _ _ s₁ (mkF m 33 #[.val (.int x1)] [(.int (57 : Int32)), (.int x1)])
            by_cases c16 : (57 : Int32) < x1
            · refine DnW.st (fun t q => XS.icmpNo X0.here hx rfl (hb hby d1_33) rfl (tlt c16).2.2.2 q) ?_
              show DnW p e below s _ _ _ s₁ (mkF m 36 #[.val (.int x1)] [])
              exact jl (by rw [own_tok, if_neg c3, if_pos c10, if_neg c11, if_pos c14, if_neg c15, if_pos c16])
            · refine DnW.st (fun t q => XS.icmpYes X0.here hx rfl (pc0 := 33) (pc' := 45) rfl (hb hby d1_33) rfl (flt c16).2.2.2 (by decide) (by decide) q) ?_
              show DnW p e below s _ _ _ s₁ (mkF m 45 #[.val (.int x1)] [])
              refine DnW.st (fun t q => XS.iconst X0.here hx rfl (hb hby d1_45) q) ?_
              show DnW p e below s _ _ _ s₁ (mkF m 46 #[.val (.int x1)] [(.int (1 : Int32))])
              refine DnW.st (fun t q => XS.goto X0.here hx rfl (pc0 := 46) (pc' := 50) rfl (hb hby d1_46) (by decide) (by decide) q) ?_
              show DnW p e below s _ _ _ s₁ (mkF m 50 #[.val (.int x1)] [(.int (1 : Int32))])
              refine DnW.of ?_
              exact Dn.retZ X0 hx Bd.notSynchronized (t := .boolean) Bd.returns (by simp) (hb hby d1_50) (by rw [e0]; exact ⟨by show some (Value.int (1 : Int32)) = some (Value.int (own_tok x1)); rw [own_tok, if_neg c3, if_pos c10, if_neg c11, if_pos c14, if_neg c15, if_neg c16], N0⟩) (by decide) (by decide)
        · refine DnW.st (fun t q => XS.icmpYes X0.here hx rfl (pc0 := 21) (pc' := 45) rfl (hb hby d1_21) rfl (flt c14).2.2.2 (by decide) (by decide) q) ?_
          show DnW p e below s _ _ _ s₁ (mkF m 45 #[.val (.int x1)] [])
          refine DnW.st (fun t q => XS.iconst X0.here hx rfl (hb hby d1_45) q) ?_
          show DnW p e below s _ _ _ s₁ (mkF m 46 #[.val (.int x1)] [(.int (1 : Int32))])
          refine DnW.st (fun t q => XS.goto X0.here hx rfl (pc0 := 46) (pc' := 50) rfl (hb hby d1_46) (by decide) (by decide) q) ?_
          show DnW p e below s _ _ _ s₁ (mkF m 50 #[.val (.int x1)] [(.int (1 : Int32))])
          refine DnW.of ?_
          exact Dn.retZ X0 hx Bd.notSynchronized (t := .boolean) Bd.returns (by simp) (hb hby d1_50) (by rw [e0]; exact ⟨by show some (Value.int (1 : Int32)) = some (Value.int (own_tok x1)); rw [own_tok, if_neg c3, if_pos c10, if_neg c11, if_neg c14], N0⟩) (by decide) (by decide)
    · refine DnW.st (fun t q => XS.icmpYes X0.here hx rfl (pc0 := 9) (pc' := 45) rfl (hb hby d1_9) rfl (flt c10).2.2.2 (by decide) (by decide) q) ?_
      show DnW p e below s _ _ _ s₁ (mkF m 45 #[.val (.int x1)] [])
      refine DnW.st (fun t q => XS.iconst X0.here hx rfl (hb hby d1_45) q) ?_
      show DnW p e below s _ _ _ s₁ (mkF m 46 #[.val (.int x1)] [(.int (1 : Int32))])
      refine DnW.st (fun t q => XS.goto X0.here hx rfl (pc0 := 46) (pc' := 50) rfl (hb hby d1_46) (by decide) (by decide) q) ?_
      show DnW p e below s _ _ _ s₁ (mkF m 50 #[.val (.int x1)] [(.int (1 : Int32))])
      refine DnW.of ?_
      exact Dn.retZ X0 hx Bd.notSynchronized (t := .boolean) Bd.returns (by simp) (hb hby d1_50) (by rw [e0]; exact ⟨by show some (Value.int (1 : Int32)) = some (Value.int (own_tok x1)); rw [own_tok, if_neg c3, if_neg c10], N0⟩) (by decide) (by decide)
theorem own_lawN : ∀ n : Fin 256, own_tok (Int32.ofNat n.val) = own_exp (Int32.ofNat n.val) := by decide +kernel
theorem own_ch (x : Int32) : ∃ n : Nat, n < 65536 ∧ (x.toUInt32.toUInt16.toUInt32.toInt32) = Int32.ofNat n := by
  refine ⟨x.toUInt32.toUInt16.toNat, x.toUInt32.toUInt16.toNat_lt, ?_⟩
  have h1 : x.toUInt32.toUInt16.toUInt32 = UInt32.ofNat x.toUInt32.toUInt16.toNat := by
    apply UInt32.toNat_inj.mp
    have := x.toUInt32.toUInt16.toNat_lt
    rw [UInt32.toNat_ofNat_of_lt' (by show _ < 4294967296; omega)]
    exact UInt16.toNat_toUInt32 _
  rw [h1]; rfl
theorem own_law (x : Int32) : own_tok (x.toUInt32.toUInt16.toUInt32.toInt32) = own_exp (x.toUInt32.toUInt16.toUInt32.toInt32) := by
  obtain ⟨n, hn, e⟩ := own_ch x
  rw [e]
  by_cases q : n < 256
  · exact own_lawN ⟨n, q⟩
  · have e1 : (Int32.ofNat n).toInt = (n : Int) := Int32.toInt_ofNat_of_lt (by omega)
    generalize Int32.ofNat n = z at e1
    have hc : own_can z = 0 := by
      unfold own_can
      rw [if_neg (by rw [Int32.lt_iff_toInt_lt, e1, show (0 : Int32).toInt = 0 from rfl]; omega), if_pos (by rw [Int32.lt_iff_toInt_lt, e1, show (255 : Int32).toInt = 255 from rfl]; omega)]
    have h36 : own_t36 z = 0 := by unfold own_t36 own_idx; rw [if_pos hc]; decide
    have l1 : ¬ (z < (97 : Int32)) := by rw [Int32.lt_iff_toInt_lt, e1, show (97 : Int32).toInt = 97 from rfl]; omega
    have l2 : (122 : Int32) < z := by rw [Int32.lt_iff_toInt_lt, e1, show (122 : Int32).toInt = 122 from rfl]; omega
    have l3 : ¬ (z < (65 : Int32)) := by rw [Int32.lt_iff_toInt_lt, e1, show (65 : Int32).toInt = 65 from rfl]; omega
    have l4 : (90 : Int32) < z := by rw [Int32.lt_iff_toInt_lt, e1, show (90 : Int32).toInt = 90 from rfl]; omega
    have l5 : ¬ (z < (48 : Int32)) := by rw [Int32.lt_iff_toInt_lt, e1, show (48 : Int32).toInt = 48 from rfl]; omega
    have l6 : (57 : Int32) < z := by rw [Int32.lt_iff_toInt_lt, e1, show (57 : Int32).toInt = 57 from rfl]; omega
    have l7 : (32 : Int32) < z := by rw [Int32.lt_iff_toInt_lt, e1, show (32 : Int32).toInt = 32 from rfl]; omega
    have l8 : ¬ (z < (127 : Int32)) := by rw [Int32.lt_iff_toInt_lt, e1, show (127 : Int32).toInt = 127 from rfl]; omega
    have a : own_tok z = 0 := by rw [own_tok, if_neg l1, if_pos l2, if_neg l3, if_pos l4, if_neg l5, if_pos l6]; exact h36
    have b : own_exp z = 0 := by rw [own_exp, if_pos l7, if_neg l8]
    rw [a, b]
theorem pd_7 : parseMethodDescriptor "(C)Z" = some ⟨[.char], some .boolean⟩ := by decide +kernel
theorem ef_rm0 (m : MethodId) (x0 : Int32) : entryFrame m #[(.int x0)] maxLocals = mkF m 0 #[.val (.int x0), .unset] [] := by first | (simp [entryFrame, mkF, argsToLocals, Value.category, maxLocals]; done) | rfl
def Q0 (Z : State) (x0 : Int32) (xcs : Int32) (h0 : Heap) (n0 : Nat) (v : Option Value) (h : Heap) (L : List Loc) : Prop := v = some (.int 1) ∧ Fr n0 L
set_option maxRecDepth 65536 in
set_option maxHeartbeats 40000000 in
theorem rm0 (l : Launch) (Z : State) (a0 : Array Value) (hw : ∀ d ∈ tables_1, d.before a0 Z = true) (ws : List Jvm.Cond) (x0 : Int32) (xcs : Int32) (h0 : Heap) (n0 : Nat) (Z0 : n0 ≤ h0.size) (St : Sta Z h0 "java/lang/String" "COMPACT_STRINGS" "Z" (.int xcs)) (hcs : ¬ (xcs = (0 : Int32))) :
    MetFree l x (head1 (Jvm.Cond.code x code maxLocals ret :: ws) room_1) (fun a U => a = #[(.int x0)] ∧ Z.Warmed39 U.vm ∧ U.heap = h0 ∧ CHv Z own_EL U.vm h0) (fun _ _ _ _ _ => True) (fun _ U o U' => ∃ v L, o = .returned v ∧ Q0 Z x0 xcs h0 n0 v U'.heap L ∧ ReturnedEndW U o U' L 2 64) := by
  refine MetFree.of_bodySF (plainFor_of_name pn_1) hisR ?_
  intro p e s m args below meth c s₁ Bd hml0 hP hK
  obtain ⟨rfl, hZ, hh, hCH⟩ := hP
  have hx := Bd.exec
  have hby := Bd.bytes
  have hml : c.maxLocals = 2 := hml0
  have hown : s.vm.findClass "com/example/lyrebird/lyrebird/core/header/HeaderSyntaxIsTokenCharPinLaw" = some m.cls := findClass_of_methodNamed Bd.named
  have hnm := (name_of_methodNamed Bd.named Bd.method).1
  have X0 : Stand p l e room_1 s m #[(.int x0)] below meth c s₁ [] 0 0 := Stand.of_body Bd
  have e0 : s₁.heap = h0 := by rw [← hh, Bd.state]; rfl
  have N0 := Fr.nil n0
  have K0 := Keep.refl h0 []
  suffices hD : DnW p e below s (Q0 Z x0 xcs h0 n0) 2 64 s₁ (mkF m 0 #[.val (.int x0), .unset] []) from by
    obtain ⟨s₂, o, q1, q2⟩ := hD
    exact ⟨s₂, o, castTop (ef_rm0 m x0) q1, q2⟩
  refine DnW.st (fun t q => XS.iloadN X0.here hx rfl (hb hby at_0) rfl  q) ?_
  show DnW p e below s _ _ _ s₁ (mkF m 1 #[.val (.int x0), .unset] [(.int x0)])
  refine DnW.st (fun t q => XS.i2c X0.here hx rfl (hb hby at_1) rfl q) ?_
  show DnW p e below s _ _ _ s₁ (mkF m 2 #[.val (.int x0), .unset] [(.int (x0.toUInt32.toUInt16.toUInt32.toInt32))])
  refine DnW.st (fun t q => XS.istoreN X0.here hx rfl (hb hby at_2) rfl (l' := #[.val (.int x0), .val (.int (x0.toUInt32.toUInt16.toUInt32.toInt32))]) rfl q) ?_
  show DnW p e below s _ _ _ s₁ (mkF m 3 #[.val (.int x0), .val (.int (x0.toUInt32.toUInt16.toUInt32.toInt32))] [])
  refine DnW.st (fun t q => XS.iloadN X0.here hx rfl (hb hby at_3) rfl  q) ?_
  show DnW p e below s _ _ _ s₁ (mkF m 4 #[.val (.int x0), .val (.int (x0.toUInt32.toUInt16.toUInt32.toInt32))] [(.int (x0.toUInt32.toUInt16.toUInt32.toInt32))])
  obtain ⟨_, _, ⟨T1, Lq1, kq_1, nq_1⟩, -, X1, S1, gr1, ⟨Lc1, hQ1, lq1, yq1, zq1⟩, st1⟩ := Jvm.RoadKit.callSS (s := s) X0 hx (y := (⟨"com/example/lyrebird/lyrebird/core/header/HeaderSyntax", "isTokenChar", "(C)Z"⟩ : MethodName)) hown (mvT hZ (hw _ (List.mem_of_getElem? (i := 0) rfl))) (mvT hZ (hw _ (List.mem_of_getElem? (i := 1) rfl))) (mvT hZ (hw _ (List.mem_of_getElem? (i := 2) rfl))) (mvT hZ (hw _ (List.mem_of_getElem? (i := 3) rfl))) (by decide) (own_backS (s := s) (vm0 := s.vm) (W := 0) (rm1 l Z a0 hw [] (x0.toUInt32.toUInt16.toUInt32.toInt32) xcs h0 n0 Z0 St hcs) hZ (hw _ (List.mem_of_getElem? (i := 3) rfl)) (hw _ (List.mem_of_getElem? (i := 2) rfl)) (by decide) (by decide) (own_EW hw) hCH) (g := (mkF m 4 #[.val (.int x0), .val (.int (x0.toUInt32.toUInt16.toUInt32.toInt32))] [(.int (x0.toUInt32.toUInt16.toUInt32.toInt32))])) rfl (by rw [hml]; rfl) (argsL := [(.int (x0.toUInt32.toUInt16.toUInt32.toInt32))]) (rest := []) (lenOf pd_7 rfl) rfl (by show 2 * 0 + _ ≤ _; exact Nat.le_of_eq rfl) (hb hby at_4) (fun _ _ => ⟨rfl, e0, (by decide : 0 + 2 ≤ _), (by decide : 0 + 64 ≤ _)⟩)
  dsimp only [Pt.U, Pt.locs, Pt.cells, Pt.slots] at X1 S1 gr1 lq1 yq1 zq1 st1 hQ1
  subst lq1 yq1 zq1
  obtain ⟨rfl, N1q⟩ := hQ1
  have N0 := Fr.app N0 N1q
  refine DnW.tr st1 ?_
  have Z0 : n0 ≤ T1.heap.size := Nat.le_trans (by rw [e0]; exact Z0) gr1
  refine DnW.reb S1 ?_
  have hZ := (State.Warmed39.trans (t := s) hZ S1.1 : Z.Warmed39 (s.setVm T1.vm).vm)
  have hown := (show (s.setVm T1.vm).vm.findClass "com/example/lyrebird/lyrebird/core/header/HeaderSyntaxIsTokenCharPinLaw" = some m.cls by rw [show (s.setVm T1.vm).vm = T1.vm from rfl, S1.1.alike.findClass]; exact hown)
  obtain ⟨s1, hs1⟩ : ∃ z, z = s.setVm T1.vm := ⟨_, rfl⟩
  rw [← hs1] at X1 hZ hown ⊢
  show Dn p e below s1 _ _ _ T1 (mkF m 7 #[.val (.int x0), .val (.int (x0.toUInt32.toUInt16.toUInt32.toInt32))] [(.int (own_tok (x0.toUInt32.toUInt16.toUInt32.toInt32)))])
  refine Dn.st (fun t q => XS.iloadN X1.here hx rfl (hb hby at_7) rfl  q) ?_
  show Dn p e below s1 _ _ _ T1 (mkF m 8 #[.val (.int x0), .val (.int (x0.toUInt32.toUInt16.toUInt32.toInt32))] [(.int (x0.toUInt32.toUInt16.toUInt32.toInt32)), (.int (own_tok (x0.toUInt32.toUInt16.toUInt32.toInt32)))])
  have hlaw := own_law x0
  obtain ⟨_, _, ⟨T2, Lq2, kq_2, nq_2⟩, -, X2, ⟨Lc2, hQ2, lq2, yq2, zq2⟩, st2⟩ := Jvm.LawKit.callS X1 hx (y := (⟨"com/example/lyrebird/lyrebird/core/header/HeaderSyntaxIsTokenCharPinLaw", "expected", "(C)Z"⟩ : MethodName)) hown (mvT hZ (hw _ (List.mem_of_getElem? (i := 57) rfl))) (mvT hZ (hw _ (List.mem_of_getElem? (i := 58) rfl))) (mvT hZ (hw _ (List.mem_of_getElem? (i := 59) rfl))) (mvT hZ (hw _ (List.mem_of_getElem? (i := 60) rfl))) (by decide) (backOf (W := 1) (rm12 l Z a0 hw [] (x0.toUInt32.toUInt16.toUInt32.toInt32)  T1.heap n0 Z0 ) hZ (hw _ (List.mem_of_getElem? (i := 60) rfl)) (hw _ (List.mem_of_getElem? (i := 59) rfl)) (by decide) (by decide)) (g := (mkF m 8 #[.val (.int x0), .val (.int (x0.toUInt32.toUInt16.toUInt32.toInt32))] [(.int (x0.toUInt32.toUInt16.toUInt32.toInt32)), (.int (own_tok (x0.toUInt32.toUInt16.toUInt32.toInt32)))])) rfl (by rw [hml]; rfl) (argsL := [(.int (x0.toUInt32.toUInt16.toUInt32.toInt32))]) (rest := [(.int (own_tok (x0.toUInt32.toUInt16.toUInt32.toInt32)))]) (lenOf pd_7 rfl) rfl (by show 2 * 0 + _ ≤ _; exact Nat.le_of_eq rfl) (hb hby at_8) (fun _ _ => ⟨rfl, rfl, (by decide : 2 + 0 ≤ _), (by decide : 64 + 0 ≤ _)⟩)
  dsimp only [Pt.U, Pt.locs, Pt.cells, Pt.slots] at X2 lq2 yq2 zq2 st2 hQ2
  subst lq2 yq2 zq2
  obtain ⟨rfl, N2q, hq2⟩ := hQ2
  have N0 := Fr.app N0 N2q
  have e2 : T2.heap = T1.heap := hq2
  refine Dn.st st2 ?_
  show Dn p e below s1 _ _ _ T2 (mkF m 11 #[.val (.int x0), .val (.int (x0.toUInt32.toUInt16.toUInt32.toInt32))] [(.int (own_exp (x0.toUInt32.toUInt16.toUInt32.toInt32))), (.int (own_tok (x0.toUInt32.toUInt16.toUInt32.toInt32)))])
  refine Dn.st (fun t q => XS.icmpNo X2.here hx rfl (hb hby at_11) rfl (teq hlaw).2 q) ?_
  show Dn p e below s1 _ _ _ T2 (mkF m 14 #[.val (.int x0), .val (.int (x0.toUInt32.toUInt16.toUInt32.toInt32))] [])
  refine Dn.st (fun t q => XS.iconst X2.here hx rfl (hb hby at_14) q) ?_
  show Dn p e below s1 _ _ _ T2 (mkF m 15 #[.val (.int x0), .val (.int (x0.toUInt32.toUInt16.toUInt32.toInt32))] [(.int (1 : Int32))])
  refine Dn.st (fun t q => XS.goto X2.here hx rfl (pc0 := 15) (pc' := 19) rfl (hb hby at_15) (by decide) (by decide) q) ?_
  show Dn p e below s1 _ _ _ T2 (mkF m 19 #[.val (.int x0), .val (.int (x0.toUInt32.toUInt16.toUInt32.toInt32))] [(.int (1 : Int32))])
  exact Dn.retZ X2 hx Bd.notSynchronized (t := .boolean) Bd.returns (by simp) (hb hby at_19) (by rw [e2]; exact ⟨⟨rfl, N0⟩, Nat.le_refl _⟩) (by decide) (by decide)
set_option maxRecDepth 65536 in
set_option maxHeartbeats 40000000 in
theorem comes_1 {Post : Tables → Env → Array Value → State → Outcome → State → Prop} (hpost : ∀ tb e args s v u, (limb_1_1.after args s (.returned v) u = true ∧ limb_1_2.after args s (.returned v) u = true ∧ True) → ReturnedEndW s (.returned v) u (Jvm.fieldLocs frame_1_writes args s ++ Jvm.arrayLocs frame_1_arrays args s ++ Jvm.staticLocs frame_1_statics s) 8 1088 → Post tb e args s (.returned v) u) :
    ArmFor flags0 classFile x code maxLocals ret World_1 tables_1 room_1 Calls_1 rest_1 Pre_1 Post := by
  intro l hfl _ _ p e ha hc hk s m args below hf hA hF happ hP
  obtain ⟨hcalls, hrest, hpre⟩ := hP
  obtain ⟨-, -, -, hnamed, -, -, -, hat⟩ := (Spec.applies_iff hf).mp happ
  obtain ⟨hg, hn⟩ := and_e (Cond.before_iff.mp (show (Jvm.Cond.and given_1 narrow_1).before args s = true from hpre))
  obtain ⟨g1, g2⟩ := and_e hg
  obtain ⟨w0, rfl⟩ : ∃ w0 : Value, args = #[w0] := by
    have hs : args.size = 1 := by simpa [Cond.value, given_1] using g1
    obtain ⟨L⟩ := args
    match L, hs with
    | [w0], _ => exact ⟨w0, rfl⟩
  have hw := fun d (hd : d ∈ tables_1) => atoms_spec (ws := Jvm.Cond.code x code maxLocals ret :: tables_1) hat d (List.mem_cons_of_mem _ hd)
  obtain ⟨r1, r2⟩ := and_e (Cond.before_iff.mp (show rest_1_c.before _ s = true from hrest))
  obtain ⟨r2, r3⟩ := and_e r2
  obtain ⟨r3, -⟩ := and_e r3
  obtain ⟨xcs, exc⟩ := is_v r2
  have hcw : Jvm.Lit.compactW.before #[w0] s = true := Cond.before_iff.mpr r3
  have hcs : ¬ (xcs = (0 : Int32)) := fun q => by
    subst q
    have hh := r3
    simp only [Cond.value, exc] at hh
    simp [Term.eval] at hh
  have St : Sta s s.heap "java/lang/String" "COMPACT_STRINGS" "Z" (.int xcs) := Sta.start exc (Or.inl (Cond.before_iff.mpr r1))
  have hCH : CHv s own_EL s.vm s.heap := CHv.start (own_EW hw) (fun p hp => hcalls.1 p hp) hcw (hw _ (List.mem_of_getElem? (i := 7) rfl)) (hw _ (List.mem_of_getElem? (i := 6) rfl))
  obtain ⟨i0, ei0⟩ := is_v g2
  obtain rfl : w0 = (.int i0) := Option.some.inj ei0
  obtain ⟨n, o, h1, h2, h3, _, L, rfl, ⟨rfl, N⟩, hq⟩ := rm0 l s _ hw tables_1 i0 xcs s.heap s.heap.size (Nat.le_refl _) St hcs p e ha hc hk s m _ below hf ((Spec.applies_iff_loose hf).mp happ).1 ⟨rfl, State.Warmed39.refl s, rfl, hCH⟩ trivial
  refine ⟨n, _, h1, h2, h3, hpost _ _ _ _ _ _ ⟨Cond.after_iff.mpr rfl, Cond.after_iff.mpr (eq_i res_at (Term.int_eval (1)) rfl), trivial⟩ ⟨hq.1, hq.2.1, hq.2.2.1, (hq.2.2.2.sift fun y hy => Or.inr (N y hy)).mono (by decide) (by decide)⟩⟩
theorem main_1_1 : Claimed_1_1 := comes_1 fun _ _ _ _ _ _ h hF => ⟨h.1, hF⟩
theorem main_1_2 : Claimed_1_2 := comes_1 fun _ _ _ _ _ _ h hF => ⟨h.2.1, hF⟩
end Jvm.Pilot.@@N@@
namespace Jvm.Pilot.@@N@@
open Jvm Jvm.ClassFile Sem Op Lib Jvm.Free Jvm.Stand Jvm.Pilot.@@N@@.Jvm.D
/-! MADE BY PROGRAM (witnessworld.py) out of the Statement's table words and the real class files: 18 classes; the members and pool entries that the words name. The judged class is class 1, her method 1. -/
namespace start1
open Jvm.ClassFile
def u (s : String) : CpInfo := .utf8 (stringToUtf16 s)
/-- a pool by its gaps: so many unusable entries, then the entry; so many at the end -/
def gap : Nat → List CpInfo → List CpInfo
  | 0, r => r
  | n + 1, r => .unusable :: gap n r
def poolList (es : List (Nat × CpInfo)) (last : Nat) : List CpInfo := es.foldr (fun e r => gap e.1 (e.2 :: r)) (gap last [])
def pool (es : List (Nat × CpInfo)) (last : Nat) : Array CpInfo := ⟨poolList es last⟩
def fileOf (pool : Array CpInfo) (this : Nat) (attrs : Array Attribute := #[]) (ms : Array MethodInfo := #[]) (fl : Nat := 33) (sup : Nat := 0) (ifs : Array Nat := #[]) (fds : Array FieldInfo := #[]) : ClassFile where
  minorVersion := 0
  majorVersion := 65
  constantPool := pool
  accessFlags := fl
  thisClass := this
  superClass := sup
  interfaces := ifs
  fields := fds
  methods := ms
  attributes := attrs
def plain (name : String) (sup : Option ClassId) : Class where
  name := name
  kind := .ordinary
  loader := none
  accessFlags := 33
  super := sup
  interfaces := #[]
  cf := none
  fields := #[]
  methods := #[]
  instanceTypes := #[]
  staticTypes := #[]
  resolved := #[]
  callSites := []
  init := .initialized
  statics := none
  mirror := none

def pool0 : Array CpInfo := pool [(5, u "<init>"), (0, u "()V"), (1, .class_ 10), (1, u "java/lang/Object")] 113

def k0m0 : Method := { name := "<init>", desc := "()V", sig := { parameters := [], returnType := none }, accessFlags := 1, code := none }
/-- java/lang/Object -/
def k0 : Class := { plain "java/lang/Object" none with
  accessFlags := 33
  interfaces := #[]
  cf := some (fileOf pool0 8 #[] #[{ accessFlags := 1, nameIndex := 5, descriptorIndex := 6, attributes := #[] }] 33 0 #[] #[])
  fields := #[]
  methods := #[k0m0]
  instanceTypes := #[]
  staticTypes := #[]
  resolved := Array.replicate 124 none
  statics := none }

def pool1 : Array CpInfo := pool [(2, .class_ 4), (1, u "java/lang/Object"), (0, u "<init>"), (0, u "()V"), (0, .methodref 8 9), (0, .class_ 10), (0, .nameAndType 11 12), (0, u "com/example/lyrebird/lyrebird/core/header/HeaderSyntax"), (0, u "isTokenChar"), (0, u "(C)Z"), (0, .methodref 14 15), (0, .class_ 16), (0, .nameAndType 17 12), (0, u "com/example/lyrebird/lyrebird/core/header/HeaderSyntaxIsTokenCharPinLaw"), (0, u "expected"), (2, u "law"), (0, u "(I)Z")] 3

def k1m0 : Method := { name := "<init>", desc := "()V", sig := { parameters := [], returnType := none }, accessFlags := 2, code := none }
def k1c1 : Code := { maxStack := 2, maxLocals := 2, code := code, exceptionTable := #[], attributes := #[] }
def k1m1 : Method := { name := "law", desc := "(I)Z", sig := { parameters := [.int], returnType := some .boolean }, accessFlags := 9, code := some k1c1 }
def k1c2 : Code := { maxStack := 2, maxLocals := 2, code := method_3_code, exceptionTable := #[], attributes := #[] }
def k1m2 : Method := { name := "expected", desc := "(C)Z", sig := { parameters := [.char], returnType := some .boolean }, accessFlags := 10, code := some k1c2 }
/-- com/example/lyrebird/lyrebird/core/header/HeaderSyntaxIsTokenCharPinLaw -/
def k1 : Class := { plain "com/example/lyrebird/lyrebird/core/header/HeaderSyntaxIsTokenCharPinLaw" (some 0) with
  accessFlags := 49
  interfaces := #[]
  cf := some (fileOf pool1 14 #[] #[{ accessFlags := 2, nameIndex := 5, descriptorIndex := 6, attributes := #[] }, { accessFlags := 9, nameIndex := 20, descriptorIndex := 21, attributes := #[] }, { accessFlags := 10, nameIndex := 17, descriptorIndex := 12, attributes := #[] }] 49 2 #[] #[])
  fields := #[]
  methods := #[k1m0, k1m1, k1m2]
  instanceTypes := #[]
  staticTypes := #[]
  resolved := Array.replicate 25 none
  statics := none }

def pool2 : Array CpInfo := pool [(2, .class_ 4), (1, u "java/lang/Object"), (0, u "<init>"), (0, u "()V"), (1, .class_ 10), (1, u "java/lang/String"), (11, .class_ 24), (1, u "com/example/lyrebird/lyrebird/core/header/HeaderSyntax"), (0, u "isTokenChar"), (0, u "(C)Z"), (0, .string 28), (0, u "!#$%&'*+-.^_`|~"), (0, .methodref 8 30), (0, .nameAndType 31 32), (0, u "indexOf"), (0, u "(I)I")] 59

def k2m0 : Method := { name := "<init>", desc := "()V", sig := { parameters := [], returnType := none }, accessFlags := 2, code := none }
def k2c1 : Code := { maxStack := 2, maxLocals := 1, code := prog_7_method_3_code, exceptionTable := #[], attributes := #[] }
def k2m1 : Method := { name := "isTokenChar", desc := "(C)Z", sig := { parameters := [.char], returnType := some .boolean }, accessFlags := 8, code := some k2c1 }
/-- com/example/lyrebird/lyrebird/core/header/HeaderSyntax -/
def k2 : Class := { plain "com/example/lyrebird/lyrebird/core/header/HeaderSyntax" (some 0) with
  accessFlags := 32
  interfaces := #[]
  cf := some (fileOf pool2 22 #[] #[{ accessFlags := 2, nameIndex := 5, descriptorIndex := 6, attributes := #[] }, { accessFlags := 8, nameIndex := 25, descriptorIndex := 26, attributes := #[] }] 32 2 #[] #[])
  fields := #[]
  methods := #[k2m0, k2m1]
  instanceTypes := #[]
  staticTypes := #[]
  resolved := Array.replicate 92 none
  statics := none }

def pool3 : Array CpInfo := pool [(1, .class_ 2), (0, u "java/io/Serializable"), (0, .class_ 4), (0, u "java/lang/Object")] 2

/-- java/io/Serializable -/
def k3 : Class := { plain "java/io/Serializable" (some 0) with
  accessFlags := 1537
  interfaces := #[]
  cf := some (fileOf pool3 1 #[] #[] 1537 3 #[] #[])
  fields := #[]
  methods := #[]
  instanceTypes := #[]
  staticTypes := #[]
  resolved := Array.replicate 7 none
  statics := none }

def pool4 : Array CpInfo := pool [(1, .class_ 2), (0, u "java/lang/Comparable"), (0, .class_ 4), (0, u "java/lang/Object")] 7

/-- java/lang/Comparable -/
def k4 : Class := { plain "java/lang/Comparable" (some 0) with
  accessFlags := 1537
  interfaces := #[]
  cf := some (fileOf pool4 1 #[] #[] 1537 3 #[] #[])
  fields := #[]
  methods := #[]
  instanceTypes := #[]
  staticTypes := #[]
  resolved := Array.replicate 12 none
  statics := none }

def pool5 : Array CpInfo := pool [(2, .class_ 4), (1, u "java/lang/CharSequence"), (42, .class_ 48), (0, u "java/lang/CharSequence$1CodePointIterator"), (10, .class_ 60), (0, u "java/lang/CharSequence$1CharIterator"), (5, .class_ 67), (0, u "java/lang/Object")] 63

/-- java/lang/CharSequence -/
def k5 : Class := { plain "java/lang/CharSequence" (some 0) with
  accessFlags := 1537
  interfaces := #[]
  cf := some (fileOf pool5 2 #[.nestMembers #[47, 59]] #[] 1537 66 #[] #[])
  fields := #[]
  methods := #[]
  instanceTypes := #[]
  staticTypes := #[]
  resolved := Array.replicate 131 none
  statics := none }

def pool6 : Array CpInfo := pool [(1, .class_ 2), (0, u "java/lang/constant/Constable"), (0, .class_ 4), (0, u "java/lang/Object")] 6

/-- java/lang/constant/Constable -/
def k6 : Class := { plain "java/lang/constant/Constable" (some 0) with
  accessFlags := 1537
  interfaces := #[]
  cf := some (fileOf pool6 1 #[] #[] 1537 3 #[] #[])
  fields := #[]
  methods := #[]
  instanceTypes := #[]
  staticTypes := #[]
  resolved := Array.replicate 11 none
  statics := none }

def pool7 : Array CpInfo := pool [(1, .class_ 2), (0, u "java/lang/constant/ConstantDesc"), (0, .class_ 4), (0, u "java/lang/Object")] 32

/-- java/lang/constant/ConstantDesc -/
def k7 : Class := { plain "java/lang/constant/ConstantDesc" (some 0) with
  accessFlags := 1537
  interfaces := #[]
  cf := some (fileOf pool7 1 #[] #[] 1537 3 #[] #[])
  fields := #[]
  methods := #[]
  instanceTypes := #[]
  staticTypes := #[]
  resolved := Array.replicate 37 none
  statics := none }

def pool8 : Array CpInfo := pool [(2, .class_ 4), (1, u "java/lang/Object"), (0, u "<init>"), (0, u "()V"), (2, .fieldref 10 11), (0, .class_ 12), (0, .nameAndType 13 14), (0, u "java/lang/String"), (0, u "value"), (0, u "[B"), (0, .fieldref 10 16), (0, .nameAndType 17 18), (0, u "coder"), (0, u "B"), (2, u "hash"), (0, u "I"), (2, u "hashIsZero"), (0, u "Z"), (11, .fieldref 10 39), (0, .nameAndType 40 26), (0, u "COMPACT_STRINGS"), (66, .class_ 109), (1, u "java/lang/StringLatin1"), (32, u "()Z"), (191, u "()I"), (0, .methodref 10 336), (0, .nameAndType 17 337), (0, u "()B"), (154, .methodref 10 493), (0, .nameAndType 494 142), (0, u "isLatin1"), (10, .methodref 10 506), (0, .nameAndType 507 334), (0, u "length"), (67, .class_ 576), (0, u "java/lang/CharSequence"), (22, u "CASE_INSENSITIVE_ORDER"), (0, u "Ljava/util/Comparator;"), (32, .methodref 10 634), (0, .nameAndType 635 636), (0, u "indexOf"), (0, u "(II)I"), (0, .methodref 107 638), (0, .nameAndType 635 639), (0, u "([BIII)I"), (125, u "(I)I"), (335, u "serialPersistentFields"), (0, u "[Ljava/io/ObjectStreamField;"), (0, .class_ 1104), (0, u "java/lang/String$CaseInsensitiveComparator"), (1, .class_ 1107), (0, u "java/io/Serializable"), (0, .class_ 1109), (0, u "java/lang/Comparable"), (0, .class_ 1111), (0, u "java/lang/constant/Constable"), (0, .class_ 1113), (0, u "java/lang/constant/ConstantDesc"), (2, u "serialVersionUID"), (0, u "J"), (3, u "REPL"), (0, u "C"), (2, u "LATIN1"), (1, u "UTF16")] 323

def k8m0 : Method := { name := "<init>", desc := "()V", sig := { parameters := [], returnType := none }, accessFlags := 1, code := none }
def k8c1 : Code := { maxStack := 2, maxLocals := 1, code := jdk_42_method_54_code, exceptionTable := #[], attributes := #[] }
def k8m1 : Method := { name := "length", desc := "()I", sig := { parameters := [], returnType := some .int }, accessFlags := 1, code := some k8c1 }
def k8c2 : Code := { maxStack := 3, maxLocals := 2, code := jdk_42_method_79_code, exceptionTable := #[], attributes := #[] }
def k8m2 : Method := { name := "indexOf", desc := "(I)I", sig := { parameters := [.int], returnType := some .int }, accessFlags := 1, code := some k8c2 }
def k8c3 : Code := { maxStack := 4, maxLocals := 3, code := jdk_42_method_80_code, exceptionTable := #[], attributes := #[] }
def k8m3 : Method := { name := "indexOf", desc := "(II)I", sig := { parameters := [.int, .int], returnType := some .int }, accessFlags := 1, code := some k8c3 }
def k8c4 : Code := { maxStack := 1, maxLocals := 1, code := jdk_42_method_152_code, exceptionTable := #[], attributes := #[] }
def k8m4 : Method := { name := "coder", desc := "()B", sig := { parameters := [], returnType := some .byte }, accessFlags := 0, code := some k8c4 }
def k8c5 : Code := { maxStack := 1, maxLocals := 1, code := jdk_42_method_154_code, exceptionTable := #[], attributes := #[] }
def k8m5 : Method := { name := "isLatin1", desc := "()Z", sig := { parameters := [], returnType := some .boolean }, accessFlags := 0, code := some k8c5 }
/-- java/lang/String -/
def k8 : Class := { plain "java/lang/String" (some 0) with
  accessFlags := 49
  interfaces := #[3, 4, 5, 6, 7]
  cf := some (fileOf pool8 10 #[.nestMembers #[1103]] #[{ accessFlags := 1, nameIndex := 5, descriptorIndex := 6, attributes := #[] }, { accessFlags := 1, nameIndex := 507, descriptorIndex := 334, attributes := #[] }, { accessFlags := 1, nameIndex := 635, descriptorIndex := 765, attributes := #[] }, { accessFlags := 1, nameIndex := 635, descriptorIndex := 636, attributes := #[] }, { accessFlags := 0, nameIndex := 17, descriptorIndex := 337, attributes := #[] }, { accessFlags := 0, nameIndex := 494, descriptorIndex := 142, attributes := #[] }] 49 2 #[1106, 1108, 575, 1110, 1112] #[{ accessFlags := 18, nameIndex := 13, descriptorIndex := 14, attributes := #[] }, { accessFlags := 18, nameIndex := 17, descriptorIndex := 18, attributes := #[] }, { accessFlags := 2, nameIndex := 21, descriptorIndex := 22, attributes := #[] }, { accessFlags := 2, nameIndex := 25, descriptorIndex := 26, attributes := #[] }, { accessFlags := 26, nameIndex := 1116, descriptorIndex := 1117, attributes := #[] }, { accessFlags := 24, nameIndex := 40, descriptorIndex := 26, attributes := #[] }, { accessFlags := 26, nameIndex := 1101, descriptorIndex := 1102, attributes := #[] }, { accessFlags := 26, nameIndex := 1121, descriptorIndex := 1122, attributes := #[] }, { accessFlags := 25, nameIndex := 599, descriptorIndex := 600, attributes := #[] }, { accessFlags := 24, nameIndex := 1125, descriptorIndex := 18, attributes := #[] }, { accessFlags := 24, nameIndex := 1127, descriptorIndex := 18, attributes := #[] }])
  fields := #[{ name := "value", type := (.array .byte), accessFlags := 18, slot := 0, constantValue := 0 }, { name := "coder", type := .byte, accessFlags := 18, slot := 1, constantValue := 0 }, { name := "hash", type := .int, accessFlags := 2, slot := 2, constantValue := 0 }, { name := "hashIsZero", type := .boolean, accessFlags := 2, slot := 3, constantValue := 0 }, { name := "serialVersionUID", type := .long, accessFlags := 26, slot := 0, constantValue := 0 }, { name := "COMPACT_STRINGS", type := .boolean, accessFlags := 24, slot := 1, constantValue := 0 }, { name := "serialPersistentFields", type := (.array (.object "java/io/ObjectStreamField")), accessFlags := 26, slot := 2, constantValue := 0 }, { name := "REPL", type := .char, accessFlags := 26, slot := 3, constantValue := 0 }, { name := "CASE_INSENSITIVE_ORDER", type := (.object "java/util/Comparator"), accessFlags := 25, slot := 4, constantValue := 0 }, { name := "LATIN1", type := .byte, accessFlags := 24, slot := 5, constantValue := 0 }, { name := "UTF16", type := .byte, accessFlags := 24, slot := 6, constantValue := 0 }]
  methods := #[k8m0, k8m1, k8m2, k8m3, k8m4, k8m5]
  instanceTypes := #[(.array .byte), .byte, .int, .boolean]
  staticTypes := #[.long, .boolean, (.array (.object "java/io/ObjectStreamField")), .char, (.object "java/util/Comparator"), .byte, .byte]
  resolved := Array.replicate 1451 none
  statics := some 0 }

def pool9 : Array CpInfo := pool [(4, .class_ 6), (1, u "java/lang/Object"), (0, u "<init>"), (0, u "()V"), (5, .class_ 16), (1, u "java/lang/StringLatin1"), (21, .methodref 39 40), (0, .class_ 41), (0, .nameAndType 42 43), (0, u "java/lang/Math"), (0, u "min"), (0, u "(II)I"), (44, .methodref 14 89), (0, .nameAndType 90 91), (0, u "canEncode"), (0, u "(I)Z"), (0, .methodref 39 93), (0, .nameAndType 94 43), (0, u "max"), (0, .methodref 14 96), (0, .nameAndType 97 98), (0, u "indexOfChar"), (0, u "([BIII)I"), (2, u "indexOf"), (19, u "$assertionsDisabled"), (0, u "Z"), (98, .class_ 223), (1, u "java/lang/StringLatin1$LinesSpliterator"), (166, .class_ 391), (0, u "java/lang/StringLatin1$CharsSpliterator")] 3

def k9m0 : Method := { name := "<init>", desc := "()V", sig := { parameters := [], returnType := none }, accessFlags := 0, code := none }
def k9c1 : Code := { maxStack := 2, maxLocals := 1, code := jdk_43_method_4_code, exceptionTable := #[], attributes := #[] }
def k9m1 : Method := { name := "canEncode", desc := "(I)Z", sig := { parameters := [.int], returnType := some .boolean }, accessFlags := 9, code := some k9c1 }
def k9c2 : Code := { maxStack := 4, maxLocals := 4, code := jdk_43_method_22_code, exceptionTable := #[], attributes := #[] }
def k9m2 : Method := { name := "indexOf", desc := "([BIII)I", sig := { parameters := [(.array .byte), .int, .int, .int], returnType := some .int }, accessFlags := 9, code := some k9c2 }
def k9c3 : Code := { maxStack := 2, maxLocals := 6, code := jdk_43_method_23_code, exceptionTable := #[], attributes := #[] }
def k9m3 : Method := { name := "indexOfChar", desc := "([BIII)I", sig := { parameters := [(.array .byte), .int, .int, .int], returnType := some .int }, accessFlags := 10, code := some k9c3 }
/-- java/lang/StringLatin1 -/
def k9 : Class := { plain "java/lang/StringLatin1" (some 0) with
  accessFlags := 48
  interfaces := #[]
  cf := some (fileOf pool9 14 #[.nestMembers #[390, 221]] #[{ accessFlags := 0, nameIndex := 7, descriptorIndex := 8, attributes := #[] }, { accessFlags := 9, nameIndex := 90, descriptorIndex := 91, attributes := #[] }, { accessFlags := 9, nameIndex := 101, descriptorIndex := 98, attributes := #[] }, { accessFlags := 10, nameIndex := 97, descriptorIndex := 98, attributes := #[] }] 48 4 #[] #[{ accessFlags := 4120, nameIndex := 121, descriptorIndex := 122, attributes := #[] }])
  fields := #[{ name := "$assertionsDisabled", type := .boolean, accessFlags := 4120, slot := 0, constantValue := 0 }]
  methods := #[k9m0, k9m1, k9m2, k9m3]
  instanceTypes := #[]
  staticTypes := #[.boolean]
  resolved := Array.replicate 395 none
  statics := none }

def pool10 : Array CpInfo := pool [(1, .class_ 2), (0, u "java/lang/Math"), (1, .class_ 6), (1, u "java/lang/Object"), (0, u "<init>"), (0, u "()V"), (89, .class_ 100), (1, u "java/lang/Math$RandomNumberGeneratorHolder"), (71, u "negativeZeroFloatBits"), (0, u "J"), (2, u "negativeZeroDoubleBits"), (21, u "max"), (2, u "min"), (43, u "$assertionsDisabled"), (0, u "Z"), (88, u "(II)I"), (2, u "twoToTheDoubleScaleDown"), (0, u "D"), (4, u "twoToTheDoubleScaleUp"), (9, u "E"), (3, u "PI"), (2, u "TAU"), (2, u "DEGREES_TO_RADIANS"), (0, u "RADIANS_TO_DEGREES")] 94

def k10m0 : Method := { name := "<init>", desc := "()V", sig := { parameters := [], returnType := none }, accessFlags := 2, code := none }
def k10c1 : Code := { maxStack := 2, maxLocals := 2, code := jdk_29_method_65_code, exceptionTable := #[], attributes := #[] }
def k10m1 : Method := { name := "max", desc := "(II)I", sig := { parameters := [.int, .int], returnType := some .int }, accessFlags := 9, code := some k10c1 }
def k10c2 : Code := { maxStack := 2, maxLocals := 2, code := jdk_29_method_69_code, exceptionTable := #[], attributes := #[] }
def k10m2 : Method := { name := "min", desc := "(II)I", sig := { parameters := [.int, .int], returnType := some .int }, accessFlags := 9, code := some k10c2 }
/-- java/lang/Math -/
def k10 : Class := { plain "java/lang/Math" (some 0) with
  accessFlags := 49
  interfaces := #[]
  cf := some (fileOf pool10 1 #[.nestMembers #[98]] #[{ accessFlags := 2, nameIndex := 7, descriptorIndex := 8, attributes := #[] }, { accessFlags := 9, nameIndex := 198, descriptorIndex := 335, attributes := #[] }, { accessFlags := 9, nameIndex := 201, descriptorIndex := 335, attributes := #[] }] 49 4 #[] #[{ accessFlags := 25, nameIndex := 354, descriptorIndex := 339, attributes := #[] }, { accessFlags := 25, nameIndex := 358, descriptorIndex := 339, attributes := #[] }, { accessFlags := 25, nameIndex := 361, descriptorIndex := 339, attributes := #[] }, { accessFlags := 26, nameIndex := 364, descriptorIndex := 339, attributes := #[] }, { accessFlags := 26, nameIndex := 365, descriptorIndex := 339, attributes := #[] }, { accessFlags := 26, nameIndex := 172, descriptorIndex := 173, attributes := #[] }, { accessFlags := 26, nameIndex := 176, descriptorIndex := 173, attributes := #[] }, { accessFlags := 8, nameIndex := 344, descriptorIndex := 339, attributes := #[] }, { accessFlags := 8, nameIndex := 338, descriptorIndex := 339, attributes := #[] }, { accessFlags := 4120, nameIndex := 245, descriptorIndex := 246, attributes := #[] }])
  fields := #[{ name := "E", type := .double, accessFlags := 25, slot := 0, constantValue := 0 }, { name := "PI", type := .double, accessFlags := 25, slot := 1, constantValue := 0 }, { name := "TAU", type := .double, accessFlags := 25, slot := 2, constantValue := 0 }, { name := "DEGREES_TO_RADIANS", type := .double, accessFlags := 26, slot := 3, constantValue := 0 }, { name := "RADIANS_TO_DEGREES", type := .double, accessFlags := 26, slot := 4, constantValue := 0 }, { name := "negativeZeroFloatBits", type := .long, accessFlags := 26, slot := 5, constantValue := 0 }, { name := "negativeZeroDoubleBits", type := .long, accessFlags := 26, slot := 6, constantValue := 0 }, { name := "twoToTheDoubleScaleUp", type := .double, accessFlags := 8, slot := 7, constantValue := 0 }, { name := "twoToTheDoubleScaleDown", type := .double, accessFlags := 8, slot := 8, constantValue := 0 }, { name := "$assertionsDisabled", type := .boolean, accessFlags := 4120, slot := 9, constantValue := 0 }]
  methods := #[k10m0, k10m1, k10m2]
  instanceTypes := #[]
  staticTypes := #[.double, .double, .double, .double, .double, .long, .long, .double, .double, .boolean]
  resolved := Array.replicate 460 none
  statics := none }

def pool11 : Array CpInfo := pool [(2, .class_ 4), (1, u "java/lang/Object"), (0, u "<init>"), (0, u "()V"), (17, .class_ 26), (1, u "jdk/internal/util/Preconditions"), (28, .class_ 56), (0, u "jdk/internal/util/Preconditions$4"), (57, .class_ 115), (0, u "jdk/internal/util/Preconditions$1"), (7, u "SIOOBE_FORMATTER"), (0, u "Ljava/util/function/BiFunction;"), (0, .class_ 126), (0, u "jdk/internal/util/Preconditions$2"), (3, u "AIOOBE_FORMATTER"), (0, .class_ 132), (0, u "jdk/internal/util/Preconditions$3"), (3, u "IOOBE_FORMATTER")] 57

def k11m0 : Method := { name := "<init>", desc := "()V", sig := { parameters := [], returnType := none }, accessFlags := 1, code := none }
/-- jdk/internal/util/Preconditions -/
def k11 : Class := { plain "jdk/internal/util/Preconditions" (some 0) with
  accessFlags := 33
  interfaces := #[]
  cf := some (fileOf pool11 24 #[.nestMembers #[55, 131, 125, 114]] #[{ accessFlags := 1, nameIndex := 5, descriptorIndex := 6, attributes := #[] }] 33 2 #[] #[{ accessFlags := 25, nameIndex := 123, descriptorIndex := 124, attributes := #[] }, { accessFlags := 25, nameIndex := 130, descriptorIndex := 124, attributes := #[] }, { accessFlags := 25, nameIndex := 136, descriptorIndex := 124, attributes := #[] }])
  fields := #[{ name := "SIOOBE_FORMATTER", type := (.object "java/util/function/BiFunction"), accessFlags := 25, slot := 0, constantValue := 0 }, { name := "AIOOBE_FORMATTER", type := (.object "java/util/function/BiFunction"), accessFlags := 25, slot := 1, constantValue := 0 }, { name := "IOOBE_FORMATTER", type := (.object "java/util/function/BiFunction"), accessFlags := 25, slot := 2, constantValue := 0 }]
  methods := #[k11m0]
  instanceTypes := #[]
  staticTypes := #[(.object "java/util/function/BiFunction"), (.object "java/util/function/BiFunction"), (.object "java/util/function/BiFunction")]
  resolved := Array.replicate 194 none
  statics := some 1 }

def pool12 : Array CpInfo := pool [(9, u "<init>"), (6, .class_ 18), (1, u "java/lang/Object"), (0, u "()V"), (1, .class_ 23), (1, u "jdk/internal/util/ArraysSupport"), (0, u "LOG2_ARRAY_LONG_INDEX_SCALE"), (0, u "I"), (2, u "U"), (0, u "Ljdk/internal/misc/Unsafe;"), (8, u "BIG_ENDIAN"), (0, u "Z"), (8, u "LOG2_BYTE_BIT_SIZE"), (4, u "LOG2_ARRAY_INT_INDEX_SCALE"), (54, u "JLA"), (0, u "Ljdk/internal/access/JavaLangAccess;"), (11, u "LOG2_ARRAY_BOOLEAN_INDEX_SCALE"), (9, u "LOG2_ARRAY_BYTE_INDEX_SCALE"), (5, u "LOG2_ARRAY_CHAR_INDEX_SCALE"), (5, u "LOG2_ARRAY_SHORT_INDEX_SCALE"), (18, u "LOG2_ARRAY_FLOAT_INDEX_SCALE"), (24, u "LOG2_ARRAY_DOUBLE_INDEX_SCALE"), (89, u "T_BOOLEAN"), (2, u "T_CHAR"), (1, u "T_FLOAT"), (1, u "T_DOUBLE"), (1, u "T_BYTE"), (1, u "T_SHORT"), (1, u "T_INT"), (1, u "T_LONG"), (1, u "SOFT_MAX_ARRAY_LENGTH")] 83

def k12m0 : Method := { name := "<init>", desc := "()V", sig := { parameters := [], returnType := none }, accessFlags := 2, code := none }
/-- jdk/internal/util/ArraysSupport -/
def k12 : Class := { plain "jdk/internal/util/ArraysSupport" (some 0) with
  accessFlags := 33
  interfaces := #[]
  cf := some (fileOf pool12 21 #[] #[{ accessFlags := 2, nameIndex := 9, descriptorIndex := 19, attributes := #[] }] 33 16 #[] #[{ accessFlags := 24, nameIndex := 28, descriptorIndex := 29, attributes := #[] }, { accessFlags := 26, nameIndex := 38, descriptorIndex := 39, attributes := #[] }, { accessFlags := 25, nameIndex := 121, descriptorIndex := 25, attributes := #[] }, { accessFlags := 25, nameIndex := 131, descriptorIndex := 25, attributes := #[] }, { accessFlags := 25, nameIndex := 137, descriptorIndex := 25, attributes := #[] }, { accessFlags := 25, nameIndex := 143, descriptorIndex := 25, attributes := #[] }, { accessFlags := 25, nameIndex := 53, descriptorIndex := 25, attributes := #[] }, { accessFlags := 25, nameIndex := 24, descriptorIndex := 25, attributes := #[] }, { accessFlags := 25, nameIndex := 162, descriptorIndex := 25, attributes := #[] }, { accessFlags := 25, nameIndex := 187, descriptorIndex := 25, attributes := #[] }, { accessFlags := 26, nameIndex := 48, descriptorIndex := 25, attributes := #[] }, { accessFlags := 25, nameIndex := 277, descriptorIndex := 25, attributes := #[] }, { accessFlags := 25, nameIndex := 280, descriptorIndex := 25, attributes := #[] }, { accessFlags := 25, nameIndex := 282, descriptorIndex := 25, attributes := #[] }, { accessFlags := 25, nameIndex := 284, descriptorIndex := 25, attributes := #[] }, { accessFlags := 25, nameIndex := 286, descriptorIndex := 25, attributes := #[] }, { accessFlags := 25, nameIndex := 288, descriptorIndex := 25, attributes := #[] }, { accessFlags := 25, nameIndex := 290, descriptorIndex := 25, attributes := #[] }, { accessFlags := 25, nameIndex := 292, descriptorIndex := 25, attributes := #[] }, { accessFlags := 26, nameIndex := 108, descriptorIndex := 109, attributes := #[] }, { accessFlags := 25, nameIndex := 294, descriptorIndex := 25, attributes := #[] }])
  fields := #[{ name := "U", type := (.object "jdk/internal/misc/Unsafe"), accessFlags := 24, slot := 0, constantValue := 0 }, { name := "BIG_ENDIAN", type := .boolean, accessFlags := 26, slot := 1, constantValue := 0 }, { name := "LOG2_ARRAY_BOOLEAN_INDEX_SCALE", type := .int, accessFlags := 25, slot := 2, constantValue := 0 }, { name := "LOG2_ARRAY_BYTE_INDEX_SCALE", type := .int, accessFlags := 25, slot := 3, constantValue := 0 }, { name := "LOG2_ARRAY_CHAR_INDEX_SCALE", type := .int, accessFlags := 25, slot := 4, constantValue := 0 }, { name := "LOG2_ARRAY_SHORT_INDEX_SCALE", type := .int, accessFlags := 25, slot := 5, constantValue := 0 }, { name := "LOG2_ARRAY_INT_INDEX_SCALE", type := .int, accessFlags := 25, slot := 6, constantValue := 0 }, { name := "LOG2_ARRAY_LONG_INDEX_SCALE", type := .int, accessFlags := 25, slot := 7, constantValue := 0 }, { name := "LOG2_ARRAY_FLOAT_INDEX_SCALE", type := .int, accessFlags := 25, slot := 8, constantValue := 0 }, { name := "LOG2_ARRAY_DOUBLE_INDEX_SCALE", type := .int, accessFlags := 25, slot := 9, constantValue := 0 }, { name := "LOG2_BYTE_BIT_SIZE", type := .int, accessFlags := 26, slot := 10, constantValue := 0 }, { name := "T_BOOLEAN", type := .int, accessFlags := 25, slot := 11, constantValue := 0 }, { name := "T_CHAR", type := .int, accessFlags := 25, slot := 12, constantValue := 0 }, { name := "T_FLOAT", type := .int, accessFlags := 25, slot := 13, constantValue := 0 }, { name := "T_DOUBLE", type := .int, accessFlags := 25, slot := 14, constantValue := 0 }, { name := "T_BYTE", type := .int, accessFlags := 25, slot := 15, constantValue := 0 }, { name := "T_SHORT", type := .int, accessFlags := 25, slot := 16, constantValue := 0 }, { name := "T_INT", type := .int, accessFlags := 25, slot := 17, constantValue := 0 }, { name := "T_LONG", type := .int, accessFlags := 25, slot := 18, constantValue := 0 }, { name := "JLA", type := (.object "jdk/internal/access/JavaLangAccess"), accessFlags := 26, slot := 19, constantValue := 0 }, { name := "SOFT_MAX_ARRAY_LENGTH", type := .int, accessFlags := 25, slot := 20, constantValue := 0 }]
  methods := #[k12m0]
  instanceTypes := #[]
  staticTypes := #[(.object "jdk/internal/misc/Unsafe"), .boolean, .int, .int, .int, .int, .int, .int, .int, .int, .int, .int, .int, .int, .int, .int, .int, .int, .int, (.object "jdk/internal/access/JavaLangAccess"), .int]
  resolved := Array.replicate 378 none
  statics := none }

def pool13 : Array CpInfo := pool [(1, u "java/lang/Cloneable"), (0, .class_ 1), (0, u "java/lang/Object"), (0, .class_ 3)] 3

/-- java/lang/Cloneable -/
def k13 : Class := { plain "java/lang/Cloneable" (some 0) with
  accessFlags := 1537
  interfaces := #[]
  cf := some (fileOf pool13 2 #[] #[] 1537 4 #[] #[])
  fields := #[]
  methods := #[]
  instanceTypes := #[]
  staticTypes := #[]
  resolved := Array.replicate 8 none
  statics := none }

/-- the primitive byte -/
def k14 : Class := { plain "byte" none with kind := .primitive 'B', accessFlags := 0x411 }
/-- [B -/
def k15 : Class := { plain "[B" (some 0) with kind := .array 14 .byte, interfaces := #[13, 3], accessFlags := 1041 }

/-- the primitive int -/
def k16 : Class := { plain "int" none with kind := .primitive 'I', accessFlags := 0x411 }
/-- [I -/
def k17 : Class := { plain "[I" (some 0) with kind := .array 16 .int, interfaces := #[13, 3], accessFlags := 1041 }

def heap : Heap := #[{ cls := 8, slots := #[.long 0, .int 1, .null, .int 0, .null, .int 0, .int 0], vm := .statics 8 },
  { cls := 11, slots := #[.null, .null, .null], vm := .statics 11 }]
def classes : Array Class := #[k0, k1, k2, k3, k4, k5, k6, k7, k8, k9, k10, k11, k12, k13, k14, k15, k16, k17]
def interned : List (Array UInt16 × Addr) := []
def slotsUsed : Nat := 10
def theMethod : MethodId := ⟨1, 1⟩
def args0 : Array Value := #[.int 5]
def aboutOver (below : List Frame) : State where
  vm := { classes := classes, interned := interned.toArray }
  heap := heap
  slotsUsed := slotsUsed
  threads := #[{ frames := .invoking theMethod args0 :: below }]
def below0 : List Frame := [.native { method := ⟨0, 0⟩, args := #[] }]
def about1 : State := aboutOver below0
def p0 : Program := .bare "" "" ""
def e0 : Env := launch0.env 0 0 0
theorem w_frames : about1.frames = Frame.invoking theMethod args0 :: below0 := rfl
set_option maxRecDepth 65536 in
theorem w_args : argsFit about1.vm theMethod args0 = true := by decide +kernel
set_option maxRecDepth 65536 in
theorem w_heap : heapFits about1 = true := by decide +kernel
set_option maxRecDepth 65536 in
theorem w_runnable : about1.curStatus? = some .runnable := by decide +kernel
set_option maxRecDepth 65536 in
theorem w_alone : about1.alone = true := by decide +kernel
set_option maxRecDepth 65536 in
theorem w_named : about1.methodNamed? x = some theMethod := by decide +kernel
set_option maxRecDepth 65536 in
theorem w_hears : about1.hears theMethod below0 = true := by decide +kernel
set_option maxRecDepth 65536 in
theorem w_ripe : about1.ripe theMethod args0 below0 = true := by decide +kernel
theorem w_running : about1.status = .running := rfl
set_option maxRecDepth 65536 in
theorem w_room : about1.hasRoom e0.platform room_1 = true :=
  launch0.hasRoom_least _ room_1 (by decide +kernel) (by decide +kernel) (by decide +kernel) (by decide +kernel) (by decide +kernel) (by decide +kernel)
theorem allAtoms_all (ts : List Jvm.Cond) (a : Array Jvm.Value) (st : Jvm.State) : (allAtoms ts).before a st = ts.all (fun c => c.before a st) := by
  induction ts with
  | nil => rfl
  | cons c t ih =>
    show (Jvm.Cond.and c (allAtoms t)).before a st = _
    rw [Jvm.Cond.before_and, ih, List.all_cons]
def words1 : List Jvm.Cond := Jvm.Cond.code x code maxLocals ret :: tables_1
/-- a 'code' word, met by the world's own term for the bytes: nothing is compared byte by byte -/
theorem code_word {y : MethodName} {bytes : ByteArray} {mx : Nat} {rt : Option FieldType} {a : Array Value} {s : State} {m : MethodId} {meth : Method} {c : Code} (h1 : s.methodNamed? y = some m) (h2 : s.vm.method? m = some meth) (h3 : meth.code = some c) (h4 : c.code = bytes)
    (h5 : (c.maxLocals == mx && c.exceptionTable.isEmpty && decide (c.maxStack ≤ mostOperands) && decide (meth.sig.returnType = rt) && !meth.locks && decide (parseMethodDescriptor y.desc = some meth.sig)) = true) : (Jvm.Cond.code y bytes mx rt).before a s = true := by
  simp only [Bool.and_eq_true, beq_iff_eq, Bool.not_eq_true', decide_eq_true_eq] at h5
  obtain ⟨⟨⟨⟨⟨g1, g2⟩, g3⟩, g4⟩, g5⟩, g6⟩ := h5
  simp [Cond.before, Cond.holds, Cond.value, h1, h2, h3, h4, g1, g2, g3, g4, g5, g6]
def isCode : Jvm.Cond → Bool
  | .code _ _ _ _ => true
  | _ => false
theorem all_split {L : List Jvm.Cond} {P : Jvm.Cond → Bool} (h1 : L.all (fun c => isCode c || P c) = true) (h2 : ∀ c ∈ L.filter isCode, P c = true) : L.all P = true := by
  refine List.all_eq_true.mpr fun c hc => ?_
  have h := List.all_eq_true.mp h1 c hc
  rcases Bool.eq_false_or_eq_true (isCode c) with hi | hi
  · exact h2 c (List.mem_filter.mpr ⟨hc, hi⟩)
  · simpa [hi] using h
set_option maxRecDepth 65536 in
theorem w_c0 : (Jvm.Cond.code x code maxLocals ret).before args0 about1 = true := code_word (m := ⟨1, 1⟩) (meth := k1m1) (c := k1c1) (by decide +kernel) rfl rfl rfl (by decide +kernel)
set_option maxRecDepth 65536 in
theorem w_c1 : (Jvm.Cond.code ({ cls := "com/example/lyrebird/lyrebird/core/header/HeaderSyntax", name := "isTokenChar", desc := "(C)Z" } : Jvm.MethodName) prog_7_method_3_code (1 : Nat) (Option.some Jvm.ClassFile.FieldType.boolean)).before args0 about1 = true := code_word (m := ⟨2, 1⟩) (meth := k2m1) (c := k2c1) (by decide +kernel) rfl rfl rfl (by decide +kernel)
set_option maxRecDepth 65536 in
theorem w_c2 : (Jvm.Cond.code ({ cls := "java/lang/String", name := "indexOf", desc := "(I)I" } : Jvm.MethodName) jdk_42_method_79_code (2 : Nat) (Option.some Jvm.ClassFile.FieldType.int)).before args0 about1 = true := code_word (m := ⟨8, 2⟩) (meth := k8m2) (c := k8c2) (by decide +kernel) rfl rfl rfl (by decide +kernel)
set_option maxRecDepth 65536 in
theorem w_c3 : (Jvm.Cond.code ({ cls := "java/lang/String", name := "indexOf", desc := "(II)I" } : Jvm.MethodName) jdk_42_method_80_code (3 : Nat) (Option.some Jvm.ClassFile.FieldType.int)).before args0 about1 = true := code_word (m := ⟨8, 3⟩) (meth := k8m3) (c := k8c3) (by decide +kernel) rfl rfl rfl (by decide +kernel)
set_option maxRecDepth 65536 in
theorem w_c4 : (Jvm.Cond.code ({ cls := "java/lang/String", name := "isLatin1", desc := "()Z" } : Jvm.MethodName) jdk_42_method_154_code (1 : Nat) (Option.some Jvm.ClassFile.FieldType.boolean)).before args0 about1 = true := code_word (m := ⟨8, 5⟩) (meth := k8m5) (c := k8c5) (by decide +kernel) rfl rfl rfl (by decide +kernel)
set_option maxRecDepth 65536 in
theorem w_c5 : (Jvm.Cond.code ({ cls := "java/lang/String", name := "length", desc := "()I" } : Jvm.MethodName) jdk_42_method_54_code (1 : Nat) (Option.some Jvm.ClassFile.FieldType.int)).before args0 about1 = true := code_word (m := ⟨8, 1⟩) (meth := k8m1) (c := k8c1) (by decide +kernel) rfl rfl rfl (by decide +kernel)
set_option maxRecDepth 65536 in
theorem w_c6 : (Jvm.Cond.code ({ cls := "java/lang/String", name := "coder", desc := "()B" } : Jvm.MethodName) jdk_42_method_152_code (1 : Nat) (Option.some Jvm.ClassFile.FieldType.byte)).before args0 about1 = true := code_word (m := ⟨8, 4⟩) (meth := k8m4) (c := k8c4) (by decide +kernel) rfl rfl rfl (by decide +kernel)
set_option maxRecDepth 65536 in
theorem w_c7 : (Jvm.Cond.code ({ cls := "java/lang/StringLatin1", name := "indexOf", desc := "([BIII)I" } : Jvm.MethodName) jdk_43_method_22_code (4 : Nat) (Option.some Jvm.ClassFile.FieldType.int)).before args0 about1 = true := code_word (m := ⟨9, 2⟩) (meth := k9m2) (c := k9c2) (by decide +kernel) rfl rfl rfl (by decide +kernel)
set_option maxRecDepth 65536 in
theorem w_c8 : (Jvm.Cond.code ({ cls := "java/lang/StringLatin1", name := "canEncode", desc := "(I)Z" } : Jvm.MethodName) jdk_43_method_4_code (1 : Nat) (Option.some Jvm.ClassFile.FieldType.boolean)).before args0 about1 = true := code_word (m := ⟨9, 1⟩) (meth := k9m1) (c := k9c1) (by decide +kernel) rfl rfl rfl (by decide +kernel)
set_option maxRecDepth 65536 in
theorem w_c9 : (Jvm.Cond.code ({ cls := "java/lang/Math", name := "max", desc := "(II)I" } : Jvm.MethodName) jdk_29_method_65_code (2 : Nat) (Option.some Jvm.ClassFile.FieldType.int)).before args0 about1 = true := code_word (m := ⟨10, 1⟩) (meth := k10m1) (c := k10c1) (by decide +kernel) rfl rfl rfl (by decide +kernel)
set_option maxRecDepth 65536 in
theorem w_c10 : (Jvm.Cond.code ({ cls := "java/lang/Math", name := "min", desc := "(II)I" } : Jvm.MethodName) jdk_29_method_69_code (2 : Nat) (Option.some Jvm.ClassFile.FieldType.int)).before args0 about1 = true := code_word (m := ⟨10, 2⟩) (meth := k10m2) (c := k10c2) (by decide +kernel) rfl rfl rfl (by decide +kernel)
set_option maxRecDepth 65536 in
theorem w_c11 : (Jvm.Cond.code ({ cls := "java/lang/StringLatin1", name := "indexOfChar", desc := "([BIII)I" } : Jvm.MethodName) jdk_43_method_23_code (6 : Nat) (Option.some Jvm.ClassFile.FieldType.int)).before args0 about1 = true := code_word (m := ⟨9, 3⟩) (meth := k9m3) (c := k9c3) (by decide +kernel) rfl rfl rfl (by decide +kernel)
set_option maxRecDepth 65536 in
theorem w_c12 : (Jvm.Cond.code ({ cls := "com/example/lyrebird/lyrebird/core/header/HeaderSyntaxIsTokenCharPinLaw", name := "expected", desc := "(C)Z" } : Jvm.MethodName) method_3_code (2 : Nat) (Option.some Jvm.ClassFile.FieldType.boolean)).before args0 about1 = true := code_word (m := ⟨1, 2⟩) (meth := k1m2) (c := k1c2) (by decide +kernel) rfl rfl rfl (by decide +kernel)
def codes1 : List Jvm.Cond := [Jvm.Cond.code x code maxLocals ret, Jvm.Cond.code ({ cls := "com/example/lyrebird/lyrebird/core/header/HeaderSyntax", name := "isTokenChar", desc := "(C)Z" } : Jvm.MethodName) prog_7_method_3_code (1 : Nat) (Option.some Jvm.ClassFile.FieldType.boolean), Jvm.Cond.code ({ cls := "java/lang/String", name := "indexOf", desc := "(I)I" } : Jvm.MethodName) jdk_42_method_79_code (2 : Nat) (Option.some Jvm.ClassFile.FieldType.int), Jvm.Cond.code ({ cls := "java/lang/String", name := "indexOf", desc := "(II)I" } : Jvm.MethodName) jdk_42_method_80_code (3 : Nat) (Option.some Jvm.ClassFile.FieldType.int), Jvm.Cond.code ({ cls := "java/lang/String", name := "isLatin1", desc := "()Z" } : Jvm.MethodName) jdk_42_method_154_code (1 : Nat) (Option.some Jvm.ClassFile.FieldType.boolean), Jvm.Cond.code ({ cls := "java/lang/String", name := "length", desc := "()I" } : Jvm.MethodName) jdk_42_method_54_code (1 : Nat) (Option.some Jvm.ClassFile.FieldType.int), Jvm.Cond.code ({ cls := "java/lang/String", name := "coder", desc := "()B" } : Jvm.MethodName) jdk_42_method_152_code (1 : Nat) (Option.some Jvm.ClassFile.FieldType.byte), Jvm.Cond.code ({ cls := "java/lang/StringLatin1", name := "indexOf", desc := "([BIII)I" } : Jvm.MethodName) jdk_43_method_22_code (4 : Nat) (Option.some Jvm.ClassFile.FieldType.int), Jvm.Cond.code ({ cls := "java/lang/StringLatin1", name := "canEncode", desc := "(I)Z" } : Jvm.MethodName) jdk_43_method_4_code (1 : Nat) (Option.some Jvm.ClassFile.FieldType.boolean), Jvm.Cond.code ({ cls := "java/lang/Math", name := "max", desc := "(II)I" } : Jvm.MethodName) jdk_29_method_65_code (2 : Nat) (Option.some Jvm.ClassFile.FieldType.int), Jvm.Cond.code ({ cls := "java/lang/Math", name := "min", desc := "(II)I" } : Jvm.MethodName) jdk_29_method_69_code (2 : Nat) (Option.some Jvm.ClassFile.FieldType.int), Jvm.Cond.code ({ cls := "java/lang/StringLatin1", name := "indexOfChar", desc := "([BIII)I" } : Jvm.MethodName) jdk_43_method_23_code (6 : Nat) (Option.some Jvm.ClassFile.FieldType.int), Jvm.Cond.code ({ cls := "com/example/lyrebird/lyrebird/core/header/HeaderSyntaxIsTokenCharPinLaw", name := "expected", desc := "(C)Z" } : Jvm.MethodName) method_3_code (2 : Nat) (Option.some Jvm.ClassFile.FieldType.boolean)]
set_option maxRecDepth 65536 in
theorem codes_eq : words1.filter isCode = codes1 := rfl
theorem w_codes : ∀ c ∈ words1.filter isCode, c.before args0 about1 = true := by
  rw [codes_eq]
  intro c hc
  simp only [codes1, List.mem_cons, List.not_mem_nil, or_false] at hc
  rcases hc with rfl | rfl | rfl | rfl | rfl | rfl | rfl | rfl | rfl | rfl | rfl | rfl | rfl
  · exact w_c0
  · exact w_c1
  · exact w_c2
  · exact w_c3
  · exact w_c4
  · exact w_c5
  · exact w_c6
  · exact w_c7
  · exact w_c8
  · exact w_c9
  · exact w_c10
  · exact w_c11
  · exact w_c12
set_option maxRecDepth 65536 in
theorem w_t1 : (words1.take 24).all (fun c => isCode c || c.before args0 about1) = true := by decide +kernel
set_option maxRecDepth 65536 in
theorem w_t2 : ((words1.drop 24).take 24).all (fun c => isCode c || c.before args0 about1) = true := by decide +kernel
set_option maxRecDepth 65536 in
theorem w_t3 : ((words1.drop 24).drop 24).all (fun c => isCode c || c.before args0 about1) = true := by decide +kernel
theorem w_tables : (allAtoms (Jvm.Cond.code x code maxLocals ret :: tables_1)).before args0 about1 = true := by
  rw [allAtoms_all]
  show words1.all (fun c => c.before args0 about1) = true
  refine all_split ?_ w_codes
  rw [← List.take_append_drop 24 words1, List.all_append, w_t1, ← List.take_append_drop 24 (words1.drop 24), List.all_append, w_t2, w_t3]
  rfl
set_option maxRecDepth 65536 in
theorem w_rest : rest_1_c.before args0 about1 = true := by decide +kernel
set_option maxRecDepth 65536 in
theorem w_case : (Jvm.Cond.and given_1 narrow_1).before args0 about1 = true := by decide +kernel
set_option maxRecDepth 65536 in
theorem w_consts : constsHeld consts_1 about1 := Jvm.Lit.constsHeldB_iff.mp (by decide +kernel)
theorem w_applies : (headSpec (Jvm.Cond.code x code maxLocals ret :: tables_1) room_1).applies x e0.platform about1 = true :=
  (Spec.applies_iff w_frames).mpr ⟨w_running, w_runnable, w_alone, w_named, w_hears, w_ripe, w_room, w_tables⟩
theorem atStart : AtStart classFile x code maxLocals ret World_1 tables_1 room_1 Calls_1 rest_1 Pre_1 launch0 p0 e0 about1 theMethod args0 below0 :=
  ⟨lists_1, trivial, launch0.admits_env _ _ _, launch0.least_env, fairChoices_fair.cas, fairChoices_fair.clock, w_frames, w_args, w_heap, w_applies, ⟨w_consts, trivial⟩, w_rest, w_case⟩
end start1
theorem witness_1 : WitnessClaimed_1 := ⟨start1.p0, start1.e0, start1.about1, start1.theMethod, start1.args0, start1.below0, start1.atStart⟩
end Jvm.Pilot.@@N@@
