import JvmDerived
import JvmDerived.Pilot.@@N@@Statement
import JvmDerived.Pilot.@@N@@Code
set_option linter.unusedVariables false
set_option linter.unusedSimpArgs false
@@BLOCK:NumsL.lean.txt@@
namespace Jvm.Pilot.@@N@@
open Jvm Jvm.ClassFile Sem Op Lib Jvm.Free Jvm.Stand Jvm.LawKit Jvm.RoadKit Bundle Jvm.Pilot.@@N@@.Jvm.D
/-! THE OWN KIT: a walk in small steps to the body's end -/
/-- from T with the frame g on top the body comes to its end, and what it leaves fulfils Q -/
def Dn (p : Program) (e : Env) (below : List Frame) (s : State) (Q : Option Value → Heap → List Loc → Prop) (k n : Nat) (T : State) (g : JFrame) : Prop :=
  ∃ s₂ o, Steps p.tables e below (T.setTop g) s₂ ∧ s₂.status = .running ∧ Ended s₂ below o ∧ ∃ v L, o = .returned v ∧ Q v s₂.heap L ∧ FrameEnd s o s₂ L k n
section OwnKit
variable {p : Program} {l : Launch} {e : Env} {R : Room} {s : State} {m : MethodId} {args : Array Value} {below : List Frame} {meth : Method} {c : Code} {T T' : State} {locs : List Loc} {cells slots : Nat} {Z : State} {h h' : Heap} {g g' : JFrame} {k n : Nat} {Q : Option Value → Heap → List Loc → Prop}
theorem Dn.st (f : ∀ t, Steps p.tables e below (T'.setTop g') t → Steps p.tables e below (T.setTop g) t) (d : Dn p e below s Q k n T' g') : Dn p e below s Q k n T g := by
  obtain ⟨s₂, o, h1, h2⟩ := d
  exact ⟨s₂, o, f _ h1, h2⟩
theorem Dn.tr (f : Steps p.tables e below (T.setTop g) (T'.setTop g')) (d : Dn p e below s Q k n T' g') : Dn p e below s Q k n T g := by
  obtain ⟨s₂, o, h1, h2⟩ := d
  exact ⟨s₂, o, f.trans h1, h2⟩
theorem Dn.cast (q : g = g') (d : Dn p e below s Q k n T g') : Dn p e below s Q k n T g := q ▸ d
theorem Dn.retI (X : Stand p l e R s m args below meth c T locs cells slots) (hx : p.tables.exec = Jvm.exec) (hk : meth.locks = false) {pc : Nat} {Ls : Array Slot} {z : Int32} {rest : List Value} (hret : meth.sig.returnType = some .int) (hd : decode c.code pc = .ok (.ireturn, 1)) (hQ : Q (some (.int z)) T.heap locs) (hc : cells ≤ k) (hs : slots ≤ n) :
    Dn p e below s Q k n T (mkF m pc Ls (.int z :: rest)) := by
  obtain ⟨fs, hr, hrun, hended, hW, hsame⟩ := X.leave (v := some (.int z)) (fun q => by rw [hret] at q; cases q) hk
  exact ⟨_, _, retOut X hx hret rfl (Or.inl ⟨rfl, Or.inl rfl, z, rfl⟩) hd hr, hrun, hended, _, _, rfl, hQ, ⟨_, rfl⟩, hW, hsame.mono hc hs⟩
theorem Dn.retZ (X : Stand p l e R s m args below meth c T locs cells slots) (hx : p.tables.exec = Jvm.exec) (hk : meth.locks = false) {pc : Nat} {Ls : Array Slot} {z : Int32} {t : FieldType} {rest : List Value} (hret : meth.sig.returnType = some t) (ht : t = .boolean ∨ t = .byte ∨ t = .char ∨ t = .short) (hd : decode c.code pc = .ok (.ireturn, 1)) (hQ : Q (some (.int (nar t z))) T.heap locs) (hc : cells ≤ k) (hs : slots ≤ n) :
    Dn p e below s Q k n T (mkF m pc Ls (.int z :: rest)) := by
  obtain ⟨fs, hr, hrun, hended, hW, hsame⟩ := X.leave (v := some (.int (nar t z))) (fun q => by rw [hret] at q; cases q) hk
  exact ⟨_, _, retN X hx hret ht hd hr, hrun, hended, _, _, rfl, hQ, ⟨_, rfl⟩, hW, hsame.mono hc hs⟩
theorem Dn.retJ (X : Stand p l e R s m args below meth c T locs cells slots) (hx : p.tables.exec = Jvm.exec) (hk : meth.locks = false) {pc : Nat} {Ls : Array Slot} {z : Int64} {rest : List Value} (hret : meth.sig.returnType = some .long) (hd : decode c.code pc = .ok (.lreturn, 1)) (hQ : Q (some (.long z)) T.heap locs) (hc : cells ≤ k) (hs : slots ≤ n) :
    Dn p e below s Q k n T (mkF m pc Ls (.long z :: rest)) := by
  obtain ⟨fs, hr, hrun, hended, hW, hsame⟩ := X.leave (v := some (.long z)) (fun q => by rw [hret] at q; cases q) hk
  exact ⟨_, _, retOut X hx hret rfl (Or.inr (Or.inl ⟨rfl, rfl, z, rfl⟩)) hd hr, hrun, hended, _, _, rfl, hQ, ⟨_, rfl⟩, hW, hsame.mono hc hs⟩
theorem Dn.retA (X : Stand p l e R s m args below meth c T locs cells slots) (hx : p.tables.exec = Jvm.exec) (hk : meth.locks = false) {pc : Nat} {Ls : Array Slot} {a : Addr} {t : FieldType} {rest : List Value} (hret : meth.sig.returnType = some t) (ht : t.isReference = true) (hn : narrow t (.ref a) = .ref a) (hd : decode c.code pc = .ok (.areturn, 1)) (hQ : Q (some (.ref a)) T.heap locs) (hc : cells ≤ k) (hs : slots ≤ n) :
    Dn p e below s Q k n T (mkF m pc Ls (.ref a :: rest)) := by
  obtain ⟨fs, hr, hrun, hended, hW, hsame⟩ := X.leave (v := some (.ref a)) (fun q => by rw [hret] at q; cases q) hk
  exact ⟨_, _, retOut X hx hret hn (Or.inr (Or.inr (Or.inr (Or.inr ⟨rfl, ht, rfl⟩)))) hd hr, hrun, hended, _, _, rfl, hQ, ⟨_, rfl⟩, hW, hsame.mono hc hs⟩
theorem Dn.retV (X : Stand p l e R s m args below meth c T locs cells slots) (hx : p.tables.exec = Jvm.exec) (hk : meth.locks = false) {pc : Nat} {Ls : Array Slot} (hret : meth.sig.returnType = none) (hd : decode c.code pc = .ok (.return_, 1)) (hQ : Q none T.heap locs) (hc : cells ≤ k) (hs : slots ≤ n) :
    Dn p e below s Q k n T (mkF m pc Ls []) := by
  obtain ⟨fs, hr, hrun, hended, hW, hsame⟩ := X.leave (v := none) (fun _ => rfl) hk
  exact ⟨_, _, X.returnOut hx hret hd hr, hrun, hended, _, _, rfl, hQ, ⟨_, rfl⟩, hW, hsame.mono hc hs⟩
theorem own_ne {a b : Addr} {j : Nat} (q : a < j) (r : b = j) : a ≠ b := fun e => absurd (e.trans r) (Nat.ne_of_lt q)
theorem own_ne' {a b : Addr} {j : Nat} (q : a < j) (r : j ≤ b) : a ≠ b := Nat.ne_of_lt (Nat.lt_of_lt_of_le q r)
theorem own_self {s : State} {args : Array Value} {y : MethodName} {n : Nat} (wi : (Jvm.Cond.instantiable y.cls n).before args s = true) (wp : (Jvm.Cond.privateMethod y).before args s = true) (hinst : (Jvm.Cond.instanceMethod y).before args s = true) (hy : y.cls ≠ "java/lang/invoke/MethodHandle" ∧ y.cls ≠ "java/lang/invoke/VarHandle") : (Jvm.Cond.selects y.cls y y).before args s = true := by
  obtain ⟨c, k, h1, h2, -, h4, -⟩ := Jvm.Cond.instantiable_spec wi
  exact selects_self_of_private h1 h2 (Bool.or_eq_false_iff.mp h4).1 (Jvm.Cond.privateMethod_at wp) hinst hy
end OwnKit
/-! ARRAYS BY A FUNCTION: the array at a has n places, place j holds f j -/
def Ary (Z : State) (h : Heap) (a : Addr) (ty : FieldType) (n : Nat) (f : Nat → Value) : Prop := ∃ c : Cell, Arr Z h a c ty ∧ c.slots.size = n ∧ ∀ j, j < n → c.slots[j]? = some (f j)
section OwnAry
variable {p : Program} {l : Launch} {e : Env} {R : Room} {s : State} {m : MethodId} {args : Array Value} {below : List Frame} {meth : Method} {c : Code} {T T' : State} {locs : List Loc} {cells slots : Nat} {Z : State} {h h' : Heap} {a b : Addr} {ty : FieldType} {n i sl : Nat} {f f' : Nat → Value} {v : Value} {ws : List Addr} {j : Int32}
theorem Ary.lt (F : Ary Z h a ty n f) : a < h.size := by obtain ⟨c, A, -⟩ := F; exact A.lt
theorem Ary.ext (F : Ary Z h a ty n f) (E : Ext h h') : Ary Z h' a ty n f := by obtain ⟨c, A, r⟩ := F; exact ⟨c, A.ext E, r⟩
theorem Ary.other (F : Ary Z h b ty n f) (W : Wr h h' a sl v) (q : b ≠ a) : Ary Z h' b ty n f := by obtain ⟨c, A, r⟩ := F; exact ⟨c, A.other W q, r⟩
theorem Ary.keep (F : Ary Z h a ty n f) (K : Keep h h' ws) (q : a ∉ ws) : Ary Z h' a ty n f := by obtain ⟨c, A, r⟩ := F; exact ⟨c, ⟨K.2.1 a c A.1 q, A.2⟩, r⟩
theorem Ary.congr (F : Ary Z h a ty n f) (q : ∀ j, j < n → f' j = f j) : Ary Z h a ty n f' := by obtain ⟨c, A, S, H⟩ := F; exact ⟨c, A, S, fun j hj => by rw [q j hj]; exact H j hj⟩
theorem Ary.new {k : ClassId} {z : Int32} (A : Arr Z h a (newA k ty z) ty) (q : z.toInt = n) : Ary Z h a ty n (fun _ => defaultValue ty) := by
  have e1 : z.toNatClampNeg = n := by simp only [Int32.toNatClampNeg, q]; rfl
  refine ⟨_, A, by rw [sz_new]; exact e1, fun i hi => ?_⟩
  simp [newA, e1, hi]
theorem own_clamp (q : j.toInt = (i : Int)) : j.toNatClampNeg = i := by simp only [Int32.toNatClampNeg, q]; rfl
theorem own_nneg (q : j.toInt = (i : Int)) : ¬ j < 0 := by rw [Int32.lt_iff_toInt_lt, q]; show ¬ (i : Int) < 0; omega
theorem Ary.set (F : Ary Z h a ty n f) (W : Wr h h' a j.toNatClampNeg v) (q : j.toInt = (i : Int)) (hi : i < n) : Ary Z h' a ty n (fun x => if x = i then v else f x) := by
  obtain ⟨c, A, S, H⟩ := F
  rw [own_clamp q] at W
  refine ⟨_, A.same W, by rw [sz_set]; exact S, fun x hx => ?_⟩
  by_cases u : x = i
  · subst u; simp [Cell.setSlot, S, hx]
  · have := H x hx; simp only [Cell.setSlot, u, if_false]
    rw [Array.getElem?_setIfInBounds_ne (Ne.symm u)]; exact this
theorem own_inb {cl : Cell} (S : cl.slots.size = n) (q : j.toInt = (i : Int)) (hi : i < n) : ¬ (j < 0 ∨ cl.slots.size ≤ j.toNatClampNeg) := by
  rw [own_clamp q, S]; exact fun r => r.elim (own_nneg q) (fun z => absurd hi (Nat.not_lt.mpr z))
theorem aLen (X : Stand p l e R s m args below meth c T locs cells slots) (hx : p.tables.exec = Jvm.exec) (hZ : Z.Warmed39 s.vm) (eT : T.heap = h) (F : Ary Z h a ty n f) {g : JFrame} (hg : g.method = m) {rest : List Value} (hs : g.stack = .ref a :: rest) (hd : decode c.code g.pc = .ok (.arraylength, 1)) :
    ∀ t, Steps p.tables e below (T.setTop { g with pc := g.pc + 1, stack := .int (n.toInt32) :: rest }) t → Steps p.tables e below (T.setTop g) t := by
  obtain ⟨cl, A, S, H⟩ := F
  intro t q
  refine X.arraylength hx (by rw [eT]; exact A.1) (State.isArrayOf_alike hZ.alike A.2.1) hg hs hd t ?_
  rw [S]; exact q
theorem aLoadI {w : Nat → Int32} (X : Stand p l e R s m args below meth c T locs cells slots) (hx : p.tables.exec = Jvm.exec) (hZ : Z.Warmed39 s.vm) (eT : T.heap = h) (F : Ary Z h a .int n (fun x => .int (w x))) (q : j.toInt = (i : Int)) (hi : i < n) {g : JFrame} (hg : g.method = m) {rest : List Value} (hs : g.stack = .int j :: .ref a :: rest) (hd : decode c.code g.pc = .ok (.iaload, 1)) :
    ∀ t, Steps p.tables e below (T.setTop { g with pc := g.pc + 1, stack := .int (w i) :: rest }) t → Steps p.tables e below (T.setTop g) t := by
  obtain ⟨cl, A, S, H⟩ := F
  exact X.iaload hx (by rw [eT]; exact A.1) (State.isArrayOf_alike hZ.alike A.2.1) A.2.2 (own_inb S q hi) (by rw [own_clamp q]; exact H i hi) hg hs hd
theorem aLoadJ {w : Nat → Int64} (X : Stand p l e R s m args below meth c T locs cells slots) (hx : p.tables.exec = Jvm.exec) (hZ : Z.Warmed39 s.vm) (eT : T.heap = h) (F : Ary Z h a .long n (fun x => .long (w x))) (q : j.toInt = (i : Int)) (hi : i < n) {g : JFrame} (hg : g.method = m) {rest : List Value} (hs : g.stack = .int j :: .ref a :: rest) (hd : decode c.code g.pc = .ok (.laload, 1)) :
    ∀ t, Steps p.tables e below (T.setTop { g with pc := g.pc + 1, stack := .long (w i) :: rest }) t → Steps p.tables e below (T.setTop g) t := by
  obtain ⟨cl, A, S, H⟩ := F
  exact X.laload hx (by rw [eT]; exact A.1) (State.isArrayOf_alike hZ.alike A.2.1) A.2.2 (own_inb S q hi) (by rw [own_clamp q]; exact H i hi) hg hs hd
theorem aLoadB {w : Nat → Int32} (X : Stand p l e R s m args below meth c T locs cells slots) (hx : p.tables.exec = Jvm.exec) (hZ : Z.Warmed39 s.vm) (eT : T.heap = h) (F : Ary Z h a .byte n (fun x => .int (w x))) (q : j.toInt = (i : Int)) (hi : i < n) {g : JFrame} (hg : g.method = m) {rest : List Value} (hs : g.stack = .int j :: .ref a :: rest) (hd : decode c.code g.pc = .ok (.baload, 1)) :
    ∀ t, Steps p.tables e below (T.setTop { g with pc := g.pc + 1, stack := .int (w i) :: rest }) t → Steps p.tables e below (T.setTop g) t := by
  obtain ⟨cl, A, S, H⟩ := F
  exact X.baloadBytes hx (by rw [eT]; exact A.1) (State.isArrayOf_alike hZ.alike A.2.1) A.2.2 (own_inb S q hi) (by rw [own_clamp q]; exact H i hi) hg hs hd
theorem aStoI (X : Stand p l e R s m args below meth c T locs cells slots) (hx : p.tables.exec = Jvm.exec) (hZ : Z.Warmed39 s.vm) (eT : T.heap = h) (F : Ary Z h a .int n f) {x : Int32} (q : j.toInt = (i : Int)) (hi : i < n) {g : JFrame} (hg : g.method = m) {rest : List Value} (hs : g.stack = .int x :: .int j :: .ref a :: rest) (hd : decode c.code g.pc = .ok (.iastore, 1)) :
    ∃ T' h', Stand p l e R s m args below meth c T' (locs ++ [⟨a, j.toNatClampNeg⟩]) cells slots ∧ T'.heap = h' ∧ Wr h h' a j.toNatClampNeg (.int x) ∧ Ary Z h' a .int n (fun y => if y = i then .int x else f y) ∧ ∀ t, Steps p.tables e below (T'.setTop { g with pc := g.pc + 1, stack := rest }) t → Steps p.tables e below (T.setTop g) t := by
  obtain ⟨cl, A, S, H⟩ := id F
  obtain ⟨T', h', X', e', W, st⟩ := stI X hx hZ eT A (own_inb S q hi) hg hs hd
  exact ⟨T', h', X', e', W, F.set W q hi, st⟩
theorem aStoJ (X : Stand p l e R s m args below meth c T locs cells slots) (hx : p.tables.exec = Jvm.exec) (hZ : Z.Warmed39 s.vm) (eT : T.heap = h) (F : Ary Z h a .long n f) {x : Int64} (q : j.toInt = (i : Int)) (hi : i < n) {g : JFrame} (hg : g.method = m) {rest : List Value} (hs : g.stack = .long x :: .int j :: .ref a :: rest) (hd : decode c.code g.pc = .ok (.lastore, 1)) :
    ∃ T' h', Stand p l e R s m args below meth c T' (locs ++ [⟨a, j.toNatClampNeg⟩]) cells slots ∧ T'.heap = h' ∧ Wr h h' a j.toNatClampNeg (.long x) ∧ Ary Z h' a .long n (fun y => if y = i then .long x else f y) ∧ ∀ t, Steps p.tables e below (T'.setTop { g with pc := g.pc + 1, stack := rest }) t → Steps p.tables e below (T.setTop g) t := by
  obtain ⟨cl, A, S, H⟩ := id F
  obtain ⟨T', h', X', e', W, st⟩ := stJ X hx hZ eT A (own_inb S q hi) hg hs hd
  exact ⟨T', h', X', e', W, F.set W q hi, st⟩
theorem aStoB (X : Stand p l e R s m args below meth c T locs cells slots) (hx : p.tables.exec = Jvm.exec) (hZ : Z.Warmed39 s.vm) (eT : T.heap = h) (F : Ary Z h a .byte n f) {x : Int32} (q : j.toInt = (i : Int)) (hi : i < n) {g : JFrame} (hg : g.method = m) {rest : List Value} (hs : g.stack = .int x :: .int j :: .ref a :: rest) (hd : decode c.code g.pc = .ok (.bastore, 1)) :
    ∃ T' h', Stand p l e R s m args below meth c T' (locs ++ [⟨a, j.toNatClampNeg⟩]) cells slots ∧ T'.heap = h' ∧ Wr h h' a j.toNatClampNeg (.int (nar .byte x)) ∧ Ary Z h' a .byte n (fun y => if y = i then .int (nar .byte x) else f y) ∧ ∀ t, Steps p.tables e below (T'.setTop { g with pc := g.pc + 1, stack := rest }) t → Steps p.tables e below (T.setTop g) t := by
  obtain ⟨cl, A, S, H⟩ := id F
  obtain ⟨T', h', X', e', W, st⟩ := stB X hx hZ eT A (own_inb S q hi) hg hs hd
  exact ⟨T', h', X', e', W, F.set W q hi, st⟩
theorem aCloneI {w : Nat → Int32} {a0 : Array Value} {own : String} {index : Nat} (X : Stand p l e R s m args below meth c T locs cells slots) (hx : p.tables.exec = Jvm.exec) (hZ : Z.Warmed39 s.vm) (hown : s.vm.findClass own = some m.cls)
    (w1 : (Jvm.Cond.methodLink own index ⟨"[I", "clone", "()Ljava/lang/Object;"⟩).before a0 Z = true) (w2 : (Jvm.Cond.sameMethod "[I" "java/lang/Object" "clone" "()Ljava/lang/Object;").before a0 Z = true) (w3 : (Jvm.Cond.native ⟨"java/lang/Object", "clone", "()Ljava/lang/Object;"⟩).before a0 Z = true)
    (w4 : (Jvm.Cond.instanceMethod ⟨"java/lang/Object", "clone", "()Ljava/lang/Object;"⟩).before a0 Z = true) (w5 : (Jvm.Cond.selects "[I" ⟨"[I", "clone", "()Ljava/lang/Object;"⟩ ⟨"java/lang/Object", "clone", "()Ljava/lang/Object;"⟩).before a0 Z = true) (w6 : (Jvm.Cond.castable "[I" "java/lang/Cloneable").before a0 Z = true)
    (eT : T.heap = h) (F : Ary Z h a .int n (fun x => .int (w x))) (E : Exa Z h a "[I") {g : JFrame} (hg : g.method = m) (hsize : g.locals.size = c.maxLocals) {rest : List Value} (hs : g.stack = .ref a :: rest) (hd : decode c.code g.pc = .ok (.invokevirtual index, 3))
    (hf : 1 ≤ R.frames) {W cap : Nat} (hW : 2 * g.monitorRoom + (rest.map fun v => v.category).sum ≤ W) (hl : W + 14 ≤ R.locals) (hcap : n ≤ cap) (hc : cells + 1 ≤ R.cells) (hsl : slots + cap ≤ R.slots) :
    ∃ T' h', Stand p l e R s m args below meth c T' locs (cells + 1) (slots + cap) ∧ T'.heap = h' ∧ Ext h h' ∧ Ary Z h' h.size .int n (fun x => .int (w x)) ∧ Exa Z h' h.size "[I" ∧
      ∀ t, Steps p.tables e below (T'.setTop { g with pc := g.pc + 3, stack := .ref h.size :: rest }) t → Steps p.tables e below (T.setTop g) t := by
  obtain ⟨cl, A, S, H⟩ := F
  have FC : FitC Z cl := fitC_of A fun i hi v hv => by rw [H i (by rw [← S]; exact hi)] at hv; cases hv; rfl
  obtain ⟨T', h', X', e', ex, A', E', st⟩ := cloneA X hx hZ hown w1 w2 w3 w4 w5 w6 eT A E FC hg hsize hs hd hf hW hl (by rw [S]; exact hcap) hc hsl
  exact ⟨T', h', X', e', ex, ⟨cloneOf cl, A', S, H⟩, E', st⟩
end OwnAry
theorem own_ix {x k : Int32} {o i : Nat} (hx : x.toInt = (o : Int)) (hk : k.toInt = (i : Int)) (hb : o + i < 2147483648) : (x + k).toInt = ((o + i : Nat) : Int) := by
  rw [Jvm.Kit.i32_add (by omega) (by omega), hx, hk]; omega
theorem own_neg {i : Int32} (h : i.toInt = ((0 : Nat) : Int) - 1) : i < 0 := by
  rw [Int32.lt_iff_toInt_lt, h]; decide
theorem own_pred {i : Int32} {k : Nat} (h : i.toInt = ((k + 1 : Nat) : Int) - 1) : i.toInt = (k : Int) := by omega
theorem own_dec {i : Int32} {k : Nat} (h : i.toInt = ((k + 1 : Nat) : Int) - 1) : (i + (-1 : Int32)).toInt = (k : Int) - 1 := by
  have a := i.toInt_lt; have b := i.le_toInt
  have e1 : (-1 : Int32).toInt = -1 := rfl
  rw [Jvm.Kit.i32_add (by omega) (by omega), h, e1]; omega
theorem own_dec0 {i : Int32} {k : Nat} (h : i.toInt = (k : Int)) : (i - (1 : Int32)).toInt = (k : Int) - 1 := by
  have a := i.toInt_lt; have b := i.le_toInt
  have e1 : (1 : Int32).toInt = 1 := rfl
  rw [Jvm.Kit.i32_sub (by omega) (by omega), h, e1]
theorem own_rem (x d : Int32) (D : Nat) (hd : d.toInt = (D : Int)) (hD : 0 < D) : ∃ k : Nat, ((x &&& 2147483647) % d).toInt = (k : Int) ∧ k < D := by
  have e : (x &&& 2147483647).toInt = x.toInt % 2 ^ 31 := Jvm.Kit.i32_mask x 2147483647 (k := 31) (by decide) (by decide)
  have h0 : 0 ≤ (x &&& 2147483647).toInt := by rw [e]; omega
  have r : ((x &&& 2147483647) % d).toInt = (x &&& 2147483647).toInt % (D : Int) := by rw [Jvm.Kit.i32_rem_nonneg h0, hd]
  have h1 := Int.emod_nonneg (x &&& 2147483647).toInt (show (D : Int) ≠ 0 by omega)
  have h2 := Int.emod_lt_of_pos (x &&& 2147483647).toInt (show (0 : Int) < D by omega)
  exact ⟨((x &&& 2147483647).toInt % (D : Int)).toNat, by rw [r]; omega, by omega⟩
theorem own_17 {x : Int32} {k : Nat} (h : x.toInt = (k : Int)) (hk : k ≤ 8) : ((17 : Int32) - x).toInt = ((17 - k : Nat) : Int) := by
  have e1 : (17 : Int32).toInt = 17 := rfl
  rw [Jvm.Kit.i32_sub (by omega) (by omega), h, e1]; omega
theorem own_nz {x : Int32} {k : Nat} (h : x.toInt = (k : Int)) (hk : 0 < k) : x ≠ 0 := fun e => by
  rw [e] at h; have e0 : (0 : Int32).toInt = 0 := rfl
  omega
def own_sh (y : Int64) : Nat → Int64
  | 0 => y
  | 1 => ((y.toUInt64 >>> ((8 : Int32) &&& 0x3f).toInt64.toUInt64).toInt64)
  | 2 => ((y.toUInt64 >>> ((16 : Int32) &&& 0x3f).toInt64.toUInt64).toInt64)
  | 3 => ((y.toUInt64 >>> ((24 : Int32) &&& 0x3f).toInt64.toUInt64).toInt64)
  | 4 => ((y.toUInt64 >>> ((32 : Int32) &&& 0x3f).toInt64.toUInt64).toInt64)
  | 5 => ((y.toUInt64 >>> ((40 : Int32) &&& 0x3f).toInt64.toUInt64).toInt64)
  | 6 => ((y.toUInt64 >>> ((48 : Int32) &&& 0x3f).toInt64.toUInt64).toInt64)
  | _ => ((y.toUInt64 >>> ((56 : Int32) &&& 0x3f).toInt64.toUInt64).toInt64)
def own_by (y : Int64) (i : Nat) : Int32 := nar .byte ((own_sh y i).toInt32.toInt8.toInt32)
def own_fl (o : Nat) (y : Int64) (u : Nat → Int32) (k : Nat) (x : Nat) : Int32 := if o ≤ x ∧ x < o + k then own_by y (x - o) else u x
theorem own_fl_step0 {o : Nat} {y : Int64} {u : Nat → Int32} {z : Int32} (hv : own_by y 0 = z) : ∀ j, j < 16 → Value.int (own_fl o y u 1 j) = if j = o + 0 then Value.int z else Value.int (u j) := fun j _ => by
  unfold own_fl
  by_cases q : j = o
  · subst q; rw [if_pos ⟨Nat.le_refl _, by omega⟩, if_pos (Nat.add_zero j).symm, Nat.sub_self, hv]
  · rw [if_neg (by omega), if_neg (by omega)]
theorem own_fl_step {o k : Nat} {y : Int64} {u : Nat → Int32} {z : Int32} (hv : own_by y k = z) : ∀ j, j < 16 → Value.int (own_fl o y u (k + 1) j) = if j = o + k then Value.int z else Value.int (own_fl o y u k j) := fun j _ => by
  by_cases q : j = o + k
  · subst q; rw [if_pos rfl]; unfold own_fl; rw [if_pos ⟨by omega, by omega⟩, Nat.add_sub_cancel_left, hv]
  · rw [if_neg q]; unfold own_fl
    by_cases r : o ≤ j ∧ j < o + k
    · rw [if_pos r, if_pos ⟨r.1, by omega⟩]
    · rw [if_neg r, if_neg (by omega)]
def own_le (u : Nat → Int32) (o : Nat) : Nat → Int64 → Int64
  | 0, acc => acc
  | k + 1, acc => own_le u o k ((acc <<< ((8 : Int32) &&& 0x3f).toInt64) ||| ((u (o + k)) &&& (255 : Int32)).toInt64)
theorem d1_0 : decode method_3_code 0 = .ok (.aload_n 0, 1) := by decide +kernel
theorem d1_1 : decode method_3_code 1 = .ok (.iload_n 1, 1) := by decide +kernel
theorem d1_2 : decode method_3_code 2 = .ok (.lload_n 2, 1) := by decide +kernel
theorem d1_3 : decode method_3_code 3 = .ok (.l2i, 1) := by decide +kernel
theorem d1_4 : decode method_3_code 4 = .ok (.i2b, 1) := by decide +kernel
theorem d1_5 : decode method_3_code 5 = .ok (.bastore, 1) := by decide +kernel
theorem d1_6 : decode method_3_code 6 = .ok (.aload_n 0, 1) := by decide +kernel
theorem d1_7 : decode method_3_code 7 = .ok (.iload_n 1, 1) := by decide +kernel
theorem d1_8 : decode method_3_code 8 = .ok (.iconst 1, 1) := by decide +kernel
theorem d1_9 : decode method_3_code 9 = .ok (.iadd, 1) := by decide +kernel
theorem d1_10 : decode method_3_code 10 = .ok (.lload_n 2, 1) := by decide +kernel
theorem d1_11 : decode method_3_code 11 = .ok (.bipush 8, 2) := by decide +kernel
theorem d1_13 : decode method_3_code 13 = .ok (.lushr, 1) := by decide +kernel
theorem d1_14 : decode method_3_code 14 = .ok (.l2i, 1) := by decide +kernel
theorem d1_15 : decode method_3_code 15 = .ok (.i2b, 1) := by decide +kernel
theorem d1_16 : decode method_3_code 16 = .ok (.bastore, 1) := by decide +kernel
theorem d1_17 : decode method_3_code 17 = .ok (.aload_n 0, 1) := by decide +kernel
theorem d1_18 : decode method_3_code 18 = .ok (.iload_n 1, 1) := by decide +kernel
theorem d1_19 : decode method_3_code 19 = .ok (.iconst 2, 1) := by decide +kernel
theorem d1_20 : decode method_3_code 20 = .ok (.iadd, 1) := by decide +kernel
theorem d1_21 : decode method_3_code 21 = .ok (.lload_n 2, 1) := by decide +kernel
theorem d1_22 : decode method_3_code 22 = .ok (.bipush 16, 2) := by decide +kernel
theorem d1_24 : decode method_3_code 24 = .ok (.lushr, 1) := by decide +kernel
theorem d1_25 : decode method_3_code 25 = .ok (.l2i, 1) := by decide +kernel
theorem d1_26 : decode method_3_code 26 = .ok (.i2b, 1) := by decide +kernel
theorem d1_27 : decode method_3_code 27 = .ok (.bastore, 1) := by decide +kernel
theorem d1_28 : decode method_3_code 28 = .ok (.aload_n 0, 1) := by decide +kernel
theorem d1_29 : decode method_3_code 29 = .ok (.iload_n 1, 1) := by decide +kernel
theorem d1_30 : decode method_3_code 30 = .ok (.iconst 3, 1) := by decide +kernel
theorem d1_31 : decode method_3_code 31 = .ok (.iadd, 1) := by decide +kernel
theorem d1_32 : decode method_3_code 32 = .ok (.lload_n 2, 1) := by decide +kernel
theorem d1_33 : decode method_3_code 33 = .ok (.bipush 24, 2) := by decide +kernel
theorem d1_35 : decode method_3_code 35 = .ok (.lushr, 1) := by decide +kernel
theorem d1_36 : decode method_3_code 36 = .ok (.l2i, 1) := by decide +kernel
theorem d1_37 : decode method_3_code 37 = .ok (.i2b, 1) := by decide +kernel
theorem d1_38 : decode method_3_code 38 = .ok (.bastore, 1) := by decide +kernel
theorem d1_39 : decode method_3_code 39 = .ok (.aload_n 0, 1) := by decide +kernel
theorem d1_40 : decode method_3_code 40 = .ok (.iload_n 1, 1) := by decide +kernel
theorem d1_41 : decode method_3_code 41 = .ok (.iconst 4, 1) := by decide +kernel
theorem d1_42 : decode method_3_code 42 = .ok (.iadd, 1) := by decide +kernel
theorem d1_43 : decode method_3_code 43 = .ok (.lload_n 2, 1) := by decide +kernel
theorem d1_44 : decode method_3_code 44 = .ok (.bipush 32, 2) := by decide +kernel
theorem d1_46 : decode method_3_code 46 = .ok (.lushr, 1) := by decide +kernel
theorem d1_47 : decode method_3_code 47 = .ok (.l2i, 1) := by decide +kernel
theorem d1_48 : decode method_3_code 48 = .ok (.i2b, 1) := by decide +kernel
theorem d1_49 : decode method_3_code 49 = .ok (.bastore, 1) := by decide +kernel
theorem d1_50 : decode method_3_code 50 = .ok (.aload_n 0, 1) := by decide +kernel
theorem d1_51 : decode method_3_code 51 = .ok (.iload_n 1, 1) := by decide +kernel
theorem d1_52 : decode method_3_code 52 = .ok (.iconst 5, 1) := by decide +kernel
theorem d1_53 : decode method_3_code 53 = .ok (.iadd, 1) := by decide +kernel
theorem d1_54 : decode method_3_code 54 = .ok (.lload_n 2, 1) := by decide +kernel
theorem d1_55 : decode method_3_code 55 = .ok (.bipush 40, 2) := by decide +kernel
theorem d1_57 : decode method_3_code 57 = .ok (.lushr, 1) := by decide +kernel
theorem d1_58 : decode method_3_code 58 = .ok (.l2i, 1) := by decide +kernel
theorem d1_59 : decode method_3_code 59 = .ok (.i2b, 1) := by decide +kernel
theorem d1_60 : decode method_3_code 60 = .ok (.bastore, 1) := by decide +kernel
theorem d1_61 : decode method_3_code 61 = .ok (.aload_n 0, 1) := by decide +kernel
theorem d1_62 : decode method_3_code 62 = .ok (.iload_n 1, 1) := by decide +kernel
theorem d1_63 : decode method_3_code 63 = .ok (.bipush 6, 2) := by decide +kernel
theorem d1_65 : decode method_3_code 65 = .ok (.iadd, 1) := by decide +kernel
theorem d1_66 : decode method_3_code 66 = .ok (.lload_n 2, 1) := by decide +kernel
theorem d1_67 : decode method_3_code 67 = .ok (.bipush 48, 2) := by decide +kernel
theorem d1_69 : decode method_3_code 69 = .ok (.lushr, 1) := by decide +kernel
theorem d1_70 : decode method_3_code 70 = .ok (.l2i, 1) := by decide +kernel
theorem d1_71 : decode method_3_code 71 = .ok (.i2b, 1) := by decide +kernel
theorem d1_72 : decode method_3_code 72 = .ok (.bastore, 1) := by decide +kernel
theorem d1_73 : decode method_3_code 73 = .ok (.aload_n 0, 1) := by decide +kernel
theorem d1_74 : decode method_3_code 74 = .ok (.iload_n 1, 1) := by decide +kernel
theorem d1_75 : decode method_3_code 75 = .ok (.bipush 7, 2) := by decide +kernel
theorem d1_77 : decode method_3_code 77 = .ok (.iadd, 1) := by decide +kernel
theorem d1_78 : decode method_3_code 78 = .ok (.lload_n 2, 1) := by decide +kernel
theorem d1_79 : decode method_3_code 79 = .ok (.bipush 56, 2) := by decide +kernel
theorem d1_81 : decode method_3_code 81 = .ok (.lushr, 1) := by decide +kernel
theorem d1_82 : decode method_3_code 82 = .ok (.l2i, 1) := by decide +kernel
theorem d1_83 : decode method_3_code 83 = .ok (.i2b, 1) := by decide +kernel
theorem d1_84 : decode method_3_code 84 = .ok (.bastore, 1) := by decide +kernel
theorem d1_85 : decode method_3_code 85 = .ok (.return_, 1) := by decide +kernel
theorem pn_0 : plainName "keyfold/ZstdBlockLittleEndianPinLaw" = true := by first | (simp [plainName, overriddenIn]; done) | decide +kernel
theorem ef_rm1 (m : MethodId) (x0 : Addr) (x1 : Int32) (x2 : Int64) : entryFrame m #[(.ref x0), (.int x1), (.long x2)] 4 = mkF m 0 #[.val (.ref x0), .val (.int x1), .val (.long x2), .second] [] := by first | (simp [entryFrame, mkF, argsToLocals, Value.category]; done) | rfl
def Q1 (Z : State) (a1 : Addr) (x1 : Int32) (y1 : Int64) (u : Nat → Int32) (oo : Nat) (h0 : Heap) (n0 : Nat) (v : Option Value) (h : Heap) (L : List Loc) : Prop := v = none ∧ Fr n0 L ∧ Keep h0 h [a1] ∧ Ary Z h a1 .byte 16 (fun x => .int (own_fl oo y1 u 8 x))
set_option maxRecDepth 65536 in
set_option maxHeartbeats 40000000 in
theorem rm1 (l : Launch) (Z : State) (a0 : Array Value) (hw : ∀ d ∈ tables_1, d.before a0 Z = true) (ws : List Jvm.Cond) (a1 : Addr) (x1 : Int32) (y1 : Int64) (u : Nat → Int32) (oo : Nat) (h0 : Heap) (n0 : Nat) (Z0 : n0 ≤ h0.size) (A : Ary Z h0 a1 .byte 16 (fun x => .int (u x))) (g_a1 : n0 ≤ a1) (hx1 : x1.toInt = (oo : Int)) (ho : oo ≤ 8) :
    MetFree l (⟨"keyfold/ZstdBlockLittleEndianPinLaw", "fill", "([BIJ)V"⟩ : MethodName) (head1 (Jvm.Cond.code (⟨"keyfold/ZstdBlockLittleEndianPinLaw", "fill", "([BIJ)V"⟩ : MethodName) method_3_code 4 none :: ws) ({ frames := 0, cells := 0, slots := 0, locals := 0 } : Room)) (fun a U => a = #[(.ref a1), (.int x1), (.long y1)] ∧ Z.Warmed39 U.vm ∧ U.heap = h0) (fun _ _ _ _ _ => True) (fun _ U o U' => ∃ v L, o = .returned v ∧ Q1 Z a1 x1 y1 u oo h0 n0 v U'.heap L ∧ FrameEnd U o U' L ({ frames := 0, cells := 0, slots := 0, locals := 0 } : Room).cells ({ frames := 0, cells := 0, slots := 0, locals := 0 } : Room).slots) := by
  refine MetFree.of_bodySF (plainFor_of_name pn_0) hisR ?_
  intro p e s m args below meth c s₁ Bd hml0 hP hK
  obtain ⟨rfl, hZ, hh⟩ := hP
  have hx := Bd.exec
  have hby := Bd.bytes
  have hml : c.maxLocals = 4 := hml0
  have hown : s.vm.findClass "keyfold/ZstdBlockLittleEndianPinLaw" = some m.cls := findClass_of_methodNamed Bd.named
  have hnm := (name_of_methodNamed Bd.named Bd.method).1
  have X0 : Stand p l e ({ frames := 0, cells := 0, slots := 0, locals := 0 } : Room) s m #[(.ref a1), (.int x1), (.long y1)] below meth c s₁ [] 0 0 := Stand.of_body Bd
  have e0 : s₁.heap = h0 := by rw [← hh, Bd.state]; rfl
  have N0 := Fr.nil n0
  have K0 := Keep.refl h0 [a1]
  suffices hD : Dn p e below s (Q1 Z a1 x1 y1 u oo h0 n0) ({ frames := 0, cells := 0, slots := 0, locals := 0 } : Room).cells ({ frames := 0, cells := 0, slots := 0, locals := 0 } : Room).slots s₁ (mkF m 0 #[.val (.ref a1), .val (.int x1), .val (.long y1), .second] []) from by
    obtain ⟨s₂, o, q1, q2⟩ := hD
    exact ⟨s₂, o, castTop (ef_rm1 m a1 x1 y1) q1, q2⟩
  refine Dn.st (fun t q => XS.aloadN X0.here hx rfl (hb hby d1_0) rfl rfl  q) ?_
  show Dn p e below s _ _ _ s₁ (mkF m 1 #[.val (.ref a1), .val (.int x1), .val (.long y1), .second] [(.ref a1)])
  refine Dn.st (fun t q => XS.iloadN X0.here hx rfl (hb hby d1_1) rfl  q) ?_
  show Dn p e below s _ _ _ s₁ (mkF m 2 #[.val (.ref a1), .val (.int x1), .val (.long y1), .second] [(.int x1), (.ref a1)])
  refine Dn.st (fun t q => XS.lloadN X0.here hx rfl (hb hby d1_2) rfl  q) ?_
  show Dn p e below s _ _ _ s₁ (mkF m 3 #[.val (.ref a1), .val (.int x1), .val (.long y1), .second] [(.long y1), (.int x1), (.ref a1)])
  refine Dn.st (fun t q => XS.l2i X0.here hx rfl (hb hby d1_3) rfl q) ?_
  show Dn p e below s _ _ _ s₁ (mkF m 4 #[.val (.ref a1), .val (.int x1), .val (.long y1), .second] [(.int (y1.toInt32)), (.int x1), (.ref a1)])
  refine Dn.st (fun t q => XS.i2b X0.here hx rfl (hb hby d1_4) rfl q) ?_
  show Dn p e below s _ _ _ s₁ (mkF m 5 #[.val (.ref a1), .val (.int x1), .val (.long y1), .second] [(.int ((y1.toInt32).toInt8.toInt32)), (.int x1), (.ref a1)])
  obtain ⟨T1, h1, X1, e1, W1, B1, st1⟩ := aStoB X0 hx hZ e0 A (i := (oo + 0)) hx1 (by omega) (g := (mkF m 5 #[.val (.ref a1), .val (.int x1), .val (.long y1), .second] [(.int ((y1.toInt32).toInt8.toInt32)), (.int x1), (.ref a1)])) rfl rfl (hb hby d1_5)
  have N0 := Fr.snoc X1 N0 g_a1
  have Z0 := Nat.le_trans Z0 (Keep.of_wr W1).1
  have K0 := K0.wr W1 (Or.inl (List.mem_of_getElem? (i := 0) rfl))
  have A : Ary Z h1 a1 .byte 16 (fun x => .int (own_fl oo y1 u 1 x)) := B1.congr (own_fl_step0 rfl)
  refine Dn.st st1 ?_
  show Dn p e below s _ _ _ T1 (mkF m 6 #[.val (.ref a1), .val (.int x1), .val (.long y1), .second] [])
  refine Dn.st (fun t q => XS.aloadN X1.here hx rfl (hb hby d1_6) rfl rfl  q) ?_
  show Dn p e below s _ _ _ T1 (mkF m 7 #[.val (.ref a1), .val (.int x1), .val (.long y1), .second] [(.ref a1)])
  refine Dn.st (fun t q => XS.iloadN X1.here hx rfl (hb hby d1_7) rfl  q) ?_
  show Dn p e below s _ _ _ T1 (mkF m 8 #[.val (.ref a1), .val (.int x1), .val (.long y1), .second] [(.int x1), (.ref a1)])
  refine Dn.st (fun t q => XS.iconst X1.here hx rfl (hb hby d1_8) q) ?_
  show Dn p e below s _ _ _ T1 (mkF m 9 #[.val (.ref a1), .val (.int x1), .val (.long y1), .second] [(.int (1 : Int32)), (.int x1), (.ref a1)])
  refine Dn.st (fun t q => XS.iadd X1.here hx rfl (hb hby d1_9) rfl q) ?_
  show Dn p e below s _ _ _ T1 (mkF m 10 #[.val (.ref a1), .val (.int x1), .val (.long y1), .second] [(.int (x1 + (1 : Int32))), (.ref a1)])
  refine Dn.st (fun t q => XS.lloadN X1.here hx rfl (hb hby d1_10) rfl  q) ?_
  show Dn p e below s _ _ _ T1 (mkF m 11 #[.val (.ref a1), .val (.int x1), .val (.long y1), .second] [(.long y1), (.int (x1 + (1 : Int32))), (.ref a1)])
  refine Dn.st (fun t q => XS.bipush X1.here hx rfl (hb hby d1_11) q) ?_
  show Dn p e below s _ _ _ T1 (mkF m 13 #[.val (.ref a1), .val (.int x1), .val (.long y1), .second] [(.int (8 : Int32)), (.long y1), (.int (x1 + (1 : Int32))), (.ref a1)])
  refine Dn.st (fun t q => XS.lushr X1.here hx rfl (hb hby d1_13) rfl q) ?_
  show Dn p e below s _ _ _ T1 (mkF m 14 #[.val (.ref a1), .val (.int x1), .val (.long y1), .second] [(.long ((y1.toUInt64 >>> ((8 : Int32) &&& 0x3f).toInt64.toUInt64).toInt64)), (.int (x1 + (1 : Int32))), (.ref a1)])
  refine Dn.st (fun t q => XS.l2i X1.here hx rfl (hb hby d1_14) rfl q) ?_
  show Dn p e below s _ _ _ T1 (mkF m 15 #[.val (.ref a1), .val (.int x1), .val (.long y1), .second] [(.int (((y1.toUInt64 >>> ((8 : Int32) &&& 0x3f).toInt64.toUInt64).toInt64).toInt32)), (.int (x1 + (1 : Int32))), (.ref a1)])
  refine Dn.st (fun t q => XS.i2b X1.here hx rfl (hb hby d1_15) rfl q) ?_
  show Dn p e below s _ _ _ T1 (mkF m 16 #[.val (.ref a1), .val (.int x1), .val (.long y1), .second] [(.int ((((y1.toUInt64 >>> ((8 : Int32) &&& 0x3f).toInt64.toUInt64).toInt64).toInt32).toInt8.toInt32)), (.int (x1 + (1 : Int32))), (.ref a1)])
  obtain ⟨T2, h2, X2, e2, W2, B2, st2⟩ := aStoB X1 hx hZ e1 A (i := (oo + 1)) (own_ix hx1 (i := 1) (by decide) (by omega)) (by omega) (g := (mkF m 16 #[.val (.ref a1), .val (.int x1), .val (.long y1), .second] [(.int ((((y1.toUInt64 >>> ((8 : Int32) &&& 0x3f).toInt64.toUInt64).toInt64).toInt32).toInt8.toInt32)), (.int (x1 + (1 : Int32))), (.ref a1)])) rfl rfl (hb hby d1_16)
  have N0 := Fr.snoc X2 N0 g_a1
  have Z0 := Nat.le_trans Z0 (Keep.of_wr W2).1
  have K0 := K0.wr W2 (Or.inl (List.mem_of_getElem? (i := 0) rfl))
  have A : Ary Z h2 a1 .byte 16 (fun x => .int (own_fl oo y1 u 2 x)) := B2.congr (own_fl_step (k := 1) rfl)
  refine Dn.st st2 ?_
  show Dn p e below s _ _ _ T2 (mkF m 17 #[.val (.ref a1), .val (.int x1), .val (.long y1), .second] [])
  refine Dn.st (fun t q => XS.aloadN X2.here hx rfl (hb hby d1_17) rfl rfl  q) ?_
  show Dn p e below s _ _ _ T2 (mkF m 18 #[.val (.ref a1), .val (.int x1), .val (.long y1), .second] [(.ref a1)])
  refine Dn.st (fun t q => XS.iloadN X2.here hx rfl (hb hby d1_18) rfl  q) ?_
  show Dn p e below s _ _ _ T2 (mkF m 19 #[.val (.ref a1), .val (.int x1), .val (.long y1), .second] [(.int x1), (.ref a1)])
  refine Dn.st (fun t q => XS.iconst X2.here hx rfl (hb hby d1_19) q) ?_
  show Dn p e below s _ _ _ T2 (mkF m 20 #[.val (.ref a1), .val (.int x1), .val (.long y1), .second] [(.int (2 : Int32)), (.int x1), (.ref a1)])
  refine Dn.st (fun t q => XS.iadd X2.here hx rfl (hb hby d1_20) rfl q) ?_
  show Dn p e below s _ _ _ T2 (mkF m 21 #[.val (.ref a1), .val (.int x1), .val (.long y1), .second] [(.int (x1 + (2 : Int32))), (.ref a1)])
  refine Dn.st (fun t q => XS.lloadN X2.here hx rfl (hb hby d1_21) rfl  q) ?_
  show Dn p e below s _ _ _ T2 (mkF m 22 #[.val (.ref a1), .val (.int x1), .val (.long y1), .second] [(.long y1), (.int (x1 + (2 : Int32))), (.ref a1)])
  refine Dn.st (fun t q => XS.bipush X2.here hx rfl (hb hby d1_22) q) ?_
  show Dn p e below s _ _ _ T2 (mkF m 24 #[.val (.ref a1), .val (.int x1), .val (.long y1), .second] [(.int (16 : Int32)), (.long y1), (.int (x1 + (2 : Int32))), (.ref a1)])
  refine Dn.st (fun t q => XS.lushr X2.here hx rfl (hb hby d1_24) rfl q) ?_
  show Dn p e below s _ _ _ T2 (mkF m 25 #[.val (.ref a1), .val (.int x1), .val (.long y1), .second] [(.long ((y1.toUInt64 >>> ((16 : Int32) &&& 0x3f).toInt64.toUInt64).toInt64)), (.int (x1 + (2 : Int32))), (.ref a1)])
  refine Dn.st (fun t q => XS.l2i X2.here hx rfl (hb hby d1_25) rfl q) ?_
  show Dn p e below s _ _ _ T2 (mkF m 26 #[.val (.ref a1), .val (.int x1), .val (.long y1), .second] [(.int (((y1.toUInt64 >>> ((16 : Int32) &&& 0x3f).toInt64.toUInt64).toInt64).toInt32)), (.int (x1 + (2 : Int32))), (.ref a1)])
  refine Dn.st (fun t q => XS.i2b X2.here hx rfl (hb hby d1_26) rfl q) ?_
  show Dn p e below s _ _ _ T2 (mkF m 27 #[.val (.ref a1), .val (.int x1), .val (.long y1), .second] [(.int ((((y1.toUInt64 >>> ((16 : Int32) &&& 0x3f).toInt64.toUInt64).toInt64).toInt32).toInt8.toInt32)), (.int (x1 + (2 : Int32))), (.ref a1)])
  obtain ⟨T3, h3, X3, e3, W3, B3, st3⟩ := aStoB X2 hx hZ e2 A (i := (oo + 2)) (own_ix hx1 (i := 2) (by decide) (by omega)) (by omega) (g := (mkF m 27 #[.val (.ref a1), .val (.int x1), .val (.long y1), .second] [(.int ((((y1.toUInt64 >>> ((16 : Int32) &&& 0x3f).toInt64.toUInt64).toInt64).toInt32).toInt8.toInt32)), (.int (x1 + (2 : Int32))), (.ref a1)])) rfl rfl (hb hby d1_27)
  have N0 := Fr.snoc X3 N0 g_a1
  have Z0 := Nat.le_trans Z0 (Keep.of_wr W3).1
  have K0 := K0.wr W3 (Or.inl (List.mem_of_getElem? (i := 0) rfl))
  have A : Ary Z h3 a1 .byte 16 (fun x => .int (own_fl oo y1 u 3 x)) := B3.congr (own_fl_step (k := 2) rfl)
  refine Dn.st st3 ?_
  show Dn p e below s _ _ _ T3 (mkF m 28 #[.val (.ref a1), .val (.int x1), .val (.long y1), .second] [])
  refine Dn.st (fun t q => XS.aloadN X3.here hx rfl (hb hby d1_28) rfl rfl  q) ?_
  show Dn p e below s _ _ _ T3 (mkF m 29 #[.val (.ref a1), .val (.int x1), .val (.long y1), .second] [(.ref a1)])
  refine Dn.st (fun t q => XS.iloadN X3.here hx rfl (hb hby d1_29) rfl  q) ?_
  show Dn p e below s _ _ _ T3 (mkF m 30 #[.val (.ref a1), .val (.int x1), .val (.long y1), .second] [(.int x1), (.ref a1)])
  refine Dn.st (fun t q => XS.iconst X3.here hx rfl (hb hby d1_30) q) ?_
  show Dn p e below s _ _ _ T3 (mkF m 31 #[.val (.ref a1), .val (.int x1), .val (.long y1), .second] [(.int (3 : Int32)), (.int x1), (.ref a1)])
  refine Dn.st (fun t q => XS.iadd X3.here hx rfl (hb hby d1_31) rfl q) ?_
  show Dn p e below s _ _ _ T3 (mkF m 32 #[.val (.ref a1), .val (.int x1), .val (.long y1), .second] [(.int (x1 + (3 : Int32))), (.ref a1)])
  refine Dn.st (fun t q => XS.lloadN X3.here hx rfl (hb hby d1_32) rfl  q) ?_
  show Dn p e below s _ _ _ T3 (mkF m 33 #[.val (.ref a1), .val (.int x1), .val (.long y1), .second] [(.long y1), (.int (x1 + (3 : Int32))), (.ref a1)])
  refine Dn.st (fun t q => XS.bipush X3.here hx rfl (hb hby d1_33) q) ?_
  show Dn p e below s _ _ _ T3 (mkF m 35 #[.val (.ref a1), .val (.int x1), .val (.long y1), .second] [(.int (24 : Int32)), (.long y1), (.int (x1 + (3 : Int32))), (.ref a1)])
  refine Dn.st (fun t q => XS.lushr X3.here hx rfl (hb hby d1_35) rfl q) ?_
  show Dn p e below s _ _ _ T3 (mkF m 36 #[.val (.ref a1), .val (.int x1), .val (.long y1), .second] [(.long ((y1.toUInt64 >>> ((24 : Int32) &&& 0x3f).toInt64.toUInt64).toInt64)), (.int (x1 + (3 : Int32))), (.ref a1)])
  refine Dn.st (fun t q => XS.l2i X3.here hx rfl (hb hby d1_36) rfl q) ?_
  show Dn p e below s _ _ _ T3 (mkF m 37 #[.val (.ref a1), .val (.int x1), .val (.long y1), .second] [(.int (((y1.toUInt64 >>> ((24 : Int32) &&& 0x3f).toInt64.toUInt64).toInt64).toInt32)), (.int (x1 + (3 : Int32))), (.ref a1)])
  refine Dn.st (fun t q => XS.i2b X3.here hx rfl (hb hby d1_37) rfl q) ?_
  show Dn p e below s _ _ _ T3 (mkF m 38 #[.val (.ref a1), .val (.int x1), .val (.long y1), .second] [(.int ((((y1.toUInt64 >>> ((24 : Int32) &&& 0x3f).toInt64.toUInt64).toInt64).toInt32).toInt8.toInt32)), (.int (x1 + (3 : Int32))), (.ref a1)])
  obtain ⟨T4, h4, X4, e4, W4, B4, st4⟩ := aStoB X3 hx hZ e3 A (i := (oo + 3)) (own_ix hx1 (i := 3) (by decide) (by omega)) (by omega) (g := (mkF m 38 #[.val (.ref a1), .val (.int x1), .val (.long y1), .second] [(.int ((((y1.toUInt64 >>> ((24 : Int32) &&& 0x3f).toInt64.toUInt64).toInt64).toInt32).toInt8.toInt32)), (.int (x1 + (3 : Int32))), (.ref a1)])) rfl rfl (hb hby d1_38)
  have N0 := Fr.snoc X4 N0 g_a1
  have Z0 := Nat.le_trans Z0 (Keep.of_wr W4).1
  have K0 := K0.wr W4 (Or.inl (List.mem_of_getElem? (i := 0) rfl))
  have A : Ary Z h4 a1 .byte 16 (fun x => .int (own_fl oo y1 u 4 x)) := B4.congr (own_fl_step (k := 3) rfl)
  refine Dn.st st4 ?_
  show Dn p e below s _ _ _ T4 (mkF m 39 #[.val (.ref a1), .val (.int x1), .val (.long y1), .second] [])
  refine Dn.st (fun t q => XS.aloadN X4.here hx rfl (hb hby d1_39) rfl rfl  q) ?_
  show Dn p e below s _ _ _ T4 (mkF m 40 #[.val (.ref a1), .val (.int x1), .val (.long y1), .second] [(.ref a1)])
  refine Dn.st (fun t q => XS.iloadN X4.here hx rfl (hb hby d1_40) rfl  q) ?_
  show Dn p e below s _ _ _ T4 (mkF m 41 #[.val (.ref a1), .val (.int x1), .val (.long y1), .second] [(.int x1), (.ref a1)])
  refine Dn.st (fun t q => XS.iconst X4.here hx rfl (hb hby d1_41) q) ?_
  show Dn p e below s _ _ _ T4 (mkF m 42 #[.val (.ref a1), .val (.int x1), .val (.long y1), .second] [(.int (4 : Int32)), (.int x1), (.ref a1)])
  refine Dn.st (fun t q => XS.iadd X4.here hx rfl (hb hby d1_42) rfl q) ?_
  show Dn p e below s _ _ _ T4 (mkF m 43 #[.val (.ref a1), .val (.int x1), .val (.long y1), .second] [(.int (x1 + (4 : Int32))), (.ref a1)])
  refine Dn.st (fun t q => XS.lloadN X4.here hx rfl (hb hby d1_43) rfl  q) ?_
  show Dn p e below s _ _ _ T4 (mkF m 44 #[.val (.ref a1), .val (.int x1), .val (.long y1), .second] [(.long y1), (.int (x1 + (4 : Int32))), (.ref a1)])
  refine Dn.st (fun t q => XS.bipush X4.here hx rfl (hb hby d1_44) q) ?_
  show Dn p e below s _ _ _ T4 (mkF m 46 #[.val (.ref a1), .val (.int x1), .val (.long y1), .second] [(.int (32 : Int32)), (.long y1), (.int (x1 + (4 : Int32))), (.ref a1)])
  refine Dn.st (fun t q => XS.lushr X4.here hx rfl (hb hby d1_46) rfl q) ?_
  show Dn p e below s _ _ _ T4 (mkF m 47 #[.val (.ref a1), .val (.int x1), .val (.long y1), .second] [(.long ((y1.toUInt64 >>> ((32 : Int32) &&& 0x3f).toInt64.toUInt64).toInt64)), (.int (x1 + (4 : Int32))), (.ref a1)])
  refine Dn.st (fun t q => XS.l2i X4.here hx rfl (hb hby d1_47) rfl q) ?_
  show Dn p e below s _ _ _ T4 (mkF m 48 #[.val (.ref a1), .val (.int x1), .val (.long y1), .second] [(.int (((y1.toUInt64 >>> ((32 : Int32) &&& 0x3f).toInt64.toUInt64).toInt64).toInt32)), (.int (x1 + (4 : Int32))), (.ref a1)])
  refine Dn.st (fun t q => XS.i2b X4.here hx rfl (hb hby d1_48) rfl q) ?_
  show Dn p e below s _ _ _ T4 (mkF m 49 #[.val (.ref a1), .val (.int x1), .val (.long y1), .second] [(.int ((((y1.toUInt64 >>> ((32 : Int32) &&& 0x3f).toInt64.toUInt64).toInt64).toInt32).toInt8.toInt32)), (.int (x1 + (4 : Int32))), (.ref a1)])
  obtain ⟨T5, h5, X5, e5, W5, B5, st5⟩ := aStoB X4 hx hZ e4 A (i := (oo + 4)) (own_ix hx1 (i := 4) (by decide) (by omega)) (by omega) (g := (mkF m 49 #[.val (.ref a1), .val (.int x1), .val (.long y1), .second] [(.int ((((y1.toUInt64 >>> ((32 : Int32) &&& 0x3f).toInt64.toUInt64).toInt64).toInt32).toInt8.toInt32)), (.int (x1 + (4 : Int32))), (.ref a1)])) rfl rfl (hb hby d1_49)
  have N0 := Fr.snoc X5 N0 g_a1
  have Z0 := Nat.le_trans Z0 (Keep.of_wr W5).1
  have K0 := K0.wr W5 (Or.inl (List.mem_of_getElem? (i := 0) rfl))
  have A : Ary Z h5 a1 .byte 16 (fun x => .int (own_fl oo y1 u 5 x)) := B5.congr (own_fl_step (k := 4) rfl)
  refine Dn.st st5 ?_
  show Dn p e below s _ _ _ T5 (mkF m 50 #[.val (.ref a1), .val (.int x1), .val (.long y1), .second] [])
  refine Dn.st (fun t q => XS.aloadN X5.here hx rfl (hb hby d1_50) rfl rfl  q) ?_
  show Dn p e below s _ _ _ T5 (mkF m 51 #[.val (.ref a1), .val (.int x1), .val (.long y1), .second] [(.ref a1)])
  refine Dn.st (fun t q => XS.iloadN X5.here hx rfl (hb hby d1_51) rfl  q) ?_
  show Dn p e below s _ _ _ T5 (mkF m 52 #[.val (.ref a1), .val (.int x1), .val (.long y1), .second] [(.int x1), (.ref a1)])
  refine Dn.st (fun t q => XS.iconst X5.here hx rfl (hb hby d1_52) q) ?_
  show Dn p e below s _ _ _ T5 (mkF m 53 #[.val (.ref a1), .val (.int x1), .val (.long y1), .second] [(.int (5 : Int32)), (.int x1), (.ref a1)])
  refine Dn.st (fun t q => XS.iadd X5.here hx rfl (hb hby d1_53) rfl q) ?_
  show Dn p e below s _ _ _ T5 (mkF m 54 #[.val (.ref a1), .val (.int x1), .val (.long y1), .second] [(.int (x1 + (5 : Int32))), (.ref a1)])
  refine Dn.st (fun t q => XS.lloadN X5.here hx rfl (hb hby d1_54) rfl  q) ?_
  show Dn p e below s _ _ _ T5 (mkF m 55 #[.val (.ref a1), .val (.int x1), .val (.long y1), .second] [(.long y1), (.int (x1 + (5 : Int32))), (.ref a1)])
  refine Dn.st (fun t q => XS.bipush X5.here hx rfl (hb hby d1_55) q) ?_
  show Dn p e below s _ _ _ T5 (mkF m 57 #[.val (.ref a1), .val (.int x1), .val (.long y1), .second] [(.int (40 : Int32)), (.long y1), (.int (x1 + (5 : Int32))), (.ref a1)])
  refine Dn.st (fun t q => XS.lushr X5.here hx rfl (hb hby d1_57) rfl q) ?_
  show Dn p e below s _ _ _ T5 (mkF m 58 #[.val (.ref a1), .val (.int x1), .val (.long y1), .second] [(.long ((y1.toUInt64 >>> ((40 : Int32) &&& 0x3f).toInt64.toUInt64).toInt64)), (.int (x1 + (5 : Int32))), (.ref a1)])
  refine Dn.st (fun t q => XS.l2i X5.here hx rfl (hb hby d1_58) rfl q) ?_
  show Dn p e below s _ _ _ T5 (mkF m 59 #[.val (.ref a1), .val (.int x1), .val (.long y1), .second] [(.int (((y1.toUInt64 >>> ((40 : Int32) &&& 0x3f).toInt64.toUInt64).toInt64).toInt32)), (.int (x1 + (5 : Int32))), (.ref a1)])
  refine Dn.st (fun t q => XS.i2b X5.here hx rfl (hb hby d1_59) rfl q) ?_
  show Dn p e below s _ _ _ T5 (mkF m 60 #[.val (.ref a1), .val (.int x1), .val (.long y1), .second] [(.int ((((y1.toUInt64 >>> ((40 : Int32) &&& 0x3f).toInt64.toUInt64).toInt64).toInt32).toInt8.toInt32)), (.int (x1 + (5 : Int32))), (.ref a1)])
  obtain ⟨T6, h6, X6, e6, W6, B6, st6⟩ := aStoB X5 hx hZ e5 A (i := (oo + 5)) (own_ix hx1 (i := 5) (by decide) (by omega)) (by omega) (g := (mkF m 60 #[.val (.ref a1), .val (.int x1), .val (.long y1), .second] [(.int ((((y1.toUInt64 >>> ((40 : Int32) &&& 0x3f).toInt64.toUInt64).toInt64).toInt32).toInt8.toInt32)), (.int (x1 + (5 : Int32))), (.ref a1)])) rfl rfl (hb hby d1_60)
  have N0 := Fr.snoc X6 N0 g_a1
  have Z0 := Nat.le_trans Z0 (Keep.of_wr W6).1
  have K0 := K0.wr W6 (Or.inl (List.mem_of_getElem? (i := 0) rfl))
  have A : Ary Z h6 a1 .byte 16 (fun x => .int (own_fl oo y1 u 6 x)) := B6.congr (own_fl_step (k := 5) rfl)
  refine Dn.st st6 ?_
  show Dn p e below s _ _ _ T6 (mkF m 61 #[.val (.ref a1), .val (.int x1), .val (.long y1), .second] [])
  refine Dn.st (fun t q => XS.aloadN X6.here hx rfl (hb hby d1_61) rfl rfl  q) ?_
  show Dn p e below s _ _ _ T6 (mkF m 62 #[.val (.ref a1), .val (.int x1), .val (.long y1), .second] [(.ref a1)])
  refine Dn.st (fun t q => XS.iloadN X6.here hx rfl (hb hby d1_62) rfl  q) ?_
  show Dn p e below s _ _ _ T6 (mkF m 63 #[.val (.ref a1), .val (.int x1), .val (.long y1), .second] [(.int x1), (.ref a1)])
  refine Dn.st (fun t q => XS.bipush X6.here hx rfl (hb hby d1_63) q) ?_
  show Dn p e below s _ _ _ T6 (mkF m 65 #[.val (.ref a1), .val (.int x1), .val (.long y1), .second] [(.int (6 : Int32)), (.int x1), (.ref a1)])
  refine Dn.st (fun t q => XS.iadd X6.here hx rfl (hb hby d1_65) rfl q) ?_
  show Dn p e below s _ _ _ T6 (mkF m 66 #[.val (.ref a1), .val (.int x1), .val (.long y1), .second] [(.int (x1 + (6 : Int32))), (.ref a1)])
  refine Dn.st (fun t q => XS.lloadN X6.here hx rfl (hb hby d1_66) rfl  q) ?_
  show Dn p e below s _ _ _ T6 (mkF m 67 #[.val (.ref a1), .val (.int x1), .val (.long y1), .second] [(.long y1), (.int (x1 + (6 : Int32))), (.ref a1)])
  refine Dn.st (fun t q => XS.bipush X6.here hx rfl (hb hby d1_67) q) ?_
  show Dn p e below s _ _ _ T6 (mkF m 69 #[.val (.ref a1), .val (.int x1), .val (.long y1), .second] [(.int (48 : Int32)), (.long y1), (.int (x1 + (6 : Int32))), (.ref a1)])
  refine Dn.st (fun t q => XS.lushr X6.here hx rfl (hb hby d1_69) rfl q) ?_
  show Dn p e below s _ _ _ T6 (mkF m 70 #[.val (.ref a1), .val (.int x1), .val (.long y1), .second] [(.long ((y1.toUInt64 >>> ((48 : Int32) &&& 0x3f).toInt64.toUInt64).toInt64)), (.int (x1 + (6 : Int32))), (.ref a1)])
  refine Dn.st (fun t q => XS.l2i X6.here hx rfl (hb hby d1_70) rfl q) ?_
  show Dn p e below s _ _ _ T6 (mkF m 71 #[.val (.ref a1), .val (.int x1), .val (.long y1), .second] [(.int (((y1.toUInt64 >>> ((48 : Int32) &&& 0x3f).toInt64.toUInt64).toInt64).toInt32)), (.int (x1 + (6 : Int32))), (.ref a1)])
  refine Dn.st (fun t q => XS.i2b X6.here hx rfl (hb hby d1_71) rfl q) ?_
  show Dn p e below s _ _ _ T6 (mkF m 72 #[.val (.ref a1), .val (.int x1), .val (.long y1), .second] [(.int ((((y1.toUInt64 >>> ((48 : Int32) &&& 0x3f).toInt64.toUInt64).toInt64).toInt32).toInt8.toInt32)), (.int (x1 + (6 : Int32))), (.ref a1)])
  obtain ⟨T7, h7, X7, e7, W7, B7, st7⟩ := aStoB X6 hx hZ e6 A (i := (oo + 6)) (own_ix hx1 (i := 6) (by decide) (by omega)) (by omega) (g := (mkF m 72 #[.val (.ref a1), .val (.int x1), .val (.long y1), .second] [(.int ((((y1.toUInt64 >>> ((48 : Int32) &&& 0x3f).toInt64.toUInt64).toInt64).toInt32).toInt8.toInt32)), (.int (x1 + (6 : Int32))), (.ref a1)])) rfl rfl (hb hby d1_72)
  have N0 := Fr.snoc X7 N0 g_a1
  have Z0 := Nat.le_trans Z0 (Keep.of_wr W7).1
  have K0 := K0.wr W7 (Or.inl (List.mem_of_getElem? (i := 0) rfl))
  have A : Ary Z h7 a1 .byte 16 (fun x => .int (own_fl oo y1 u 7 x)) := B7.congr (own_fl_step (k := 6) rfl)
  refine Dn.st st7 ?_
  show Dn p e below s _ _ _ T7 (mkF m 73 #[.val (.ref a1), .val (.int x1), .val (.long y1), .second] [])
  refine Dn.st (fun t q => XS.aloadN X7.here hx rfl (hb hby d1_73) rfl rfl  q) ?_
  show Dn p e below s _ _ _ T7 (mkF m 74 #[.val (.ref a1), .val (.int x1), .val (.long y1), .second] [(.ref a1)])
  refine Dn.st (fun t q => XS.iloadN X7.here hx rfl (hb hby d1_74) rfl  q) ?_
  show Dn p e below s _ _ _ T7 (mkF m 75 #[.val (.ref a1), .val (.int x1), .val (.long y1), .second] [(.int x1), (.ref a1)])
  refine Dn.st (fun t q => XS.bipush X7.here hx rfl (hb hby d1_75) q) ?_
  show Dn p e below s _ _ _ T7 (mkF m 77 #[.val (.ref a1), .val (.int x1), .val (.long y1), .second] [(.int (7 : Int32)), (.int x1), (.ref a1)])
  refine Dn.st (fun t q => XS.iadd X7.here hx rfl (hb hby d1_77) rfl q) ?_
  show Dn p e below s _ _ _ T7 (mkF m 78 #[.val (.ref a1), .val (.int x1), .val (.long y1), .second] [(.int (x1 + (7 : Int32))), (.ref a1)])
  refine Dn.st (fun t q => XS.lloadN X7.here hx rfl (hb hby d1_78) rfl  q) ?_
  show Dn p e below s _ _ _ T7 (mkF m 79 #[.val (.ref a1), .val (.int x1), .val (.long y1), .second] [(.long y1), (.int (x1 + (7 : Int32))), (.ref a1)])
  refine Dn.st (fun t q => XS.bipush X7.here hx rfl (hb hby d1_79) q) ?_
  show Dn p e below s _ _ _ T7 (mkF m 81 #[.val (.ref a1), .val (.int x1), .val (.long y1), .second] [(.int (56 : Int32)), (.long y1), (.int (x1 + (7 : Int32))), (.ref a1)])
  refine Dn.st (fun t q => XS.lushr X7.here hx rfl (hb hby d1_81) rfl q) ?_
  show Dn p e below s _ _ _ T7 (mkF m 82 #[.val (.ref a1), .val (.int x1), .val (.long y1), .second] [(.long ((y1.toUInt64 >>> ((56 : Int32) &&& 0x3f).toInt64.toUInt64).toInt64)), (.int (x1 + (7 : Int32))), (.ref a1)])
  refine Dn.st (fun t q => XS.l2i X7.here hx rfl (hb hby d1_82) rfl q) ?_
  show Dn p e below s _ _ _ T7 (mkF m 83 #[.val (.ref a1), .val (.int x1), .val (.long y1), .second] [(.int (((y1.toUInt64 >>> ((56 : Int32) &&& 0x3f).toInt64.toUInt64).toInt64).toInt32)), (.int (x1 + (7 : Int32))), (.ref a1)])
  refine Dn.st (fun t q => XS.i2b X7.here hx rfl (hb hby d1_83) rfl q) ?_
  show Dn p e below s _ _ _ T7 (mkF m 84 #[.val (.ref a1), .val (.int x1), .val (.long y1), .second] [(.int ((((y1.toUInt64 >>> ((56 : Int32) &&& 0x3f).toInt64.toUInt64).toInt64).toInt32).toInt8.toInt32)), (.int (x1 + (7 : Int32))), (.ref a1)])
  obtain ⟨T8, h8, X8, e8, W8, B8, st8⟩ := aStoB X7 hx hZ e7 A (i := (oo + 7)) (own_ix hx1 (i := 7) (by decide) (by omega)) (by omega) (g := (mkF m 84 #[.val (.ref a1), .val (.int x1), .val (.long y1), .second] [(.int ((((y1.toUInt64 >>> ((56 : Int32) &&& 0x3f).toInt64.toUInt64).toInt64).toInt32).toInt8.toInt32)), (.int (x1 + (7 : Int32))), (.ref a1)])) rfl rfl (hb hby d1_84)
  have N0 := Fr.snoc X8 N0 g_a1
  have Z0 := Nat.le_trans Z0 (Keep.of_wr W8).1
  have K0 := K0.wr W8 (Or.inl (List.mem_of_getElem? (i := 0) rfl))
  have A : Ary Z h8 a1 .byte 16 (fun x => .int (own_fl oo y1 u 8 x)) := B8.congr (own_fl_step (k := 7) rfl)
  refine Dn.st st8 ?_
  show Dn p e below s _ _ _ T8 (mkF m 85 #[.val (.ref a1), .val (.int x1), .val (.long y1), .second] [])
  exact Dn.retV X8 hx Bd.notSynchronized Bd.returns (hb hby d1_85) (by rw [e8]; exact ⟨rfl, N0, K0, A⟩) (by decide) (by decide)
theorem d2_0 : decode prog_97_method_6_code 0 = .ok (.lconst 0, 1) := by decide +kernel
theorem d2_1 : decode prog_97_method_6_code 1 = .ok (.lstore_n 3, 1) := by decide +kernel
theorem d2_2 : decode prog_97_method_6_code 2 = .ok (.iload_n 2, 1) := by decide +kernel
theorem d2_3 : decode prog_97_method_6_code 3 = .ok (.iconst 1, 1) := by decide +kernel
theorem d2_4 : decode prog_97_method_6_code 4 = .ok (.isub, 1) := by decide +kernel
theorem d2_5 : decode prog_97_method_6_code 5 = .ok (.istore 5, 2) := by decide +kernel
theorem d2_7 : decode prog_97_method_6_code 7 = .ok (.iload 5, 2) := by decide +kernel
theorem d2_9 : decode prog_97_method_6_code 9 = .ok (.ifCond .lt 26, 3) := by decide +kernel
theorem d2_35 : decode prog_97_method_6_code 35 = .ok (.lload_n 3, 1) := by decide +kernel
theorem d2_36 : decode prog_97_method_6_code 36 = .ok (.lreturn, 1) := by decide +kernel
theorem d2_12 : decode prog_97_method_6_code 12 = .ok (.lload_n 3, 1) := by decide +kernel
theorem d2_13 : decode prog_97_method_6_code 13 = .ok (.bipush 8, 2) := by decide +kernel
theorem d2_15 : decode prog_97_method_6_code 15 = .ok (.lshl, 1) := by decide +kernel
theorem d2_16 : decode prog_97_method_6_code 16 = .ok (.aload_n 0, 1) := by decide +kernel
theorem d2_17 : decode prog_97_method_6_code 17 = .ok (.iload_n 1, 1) := by decide +kernel
theorem d2_18 : decode prog_97_method_6_code 18 = .ok (.iload 5, 2) := by decide +kernel
theorem d2_20 : decode prog_97_method_6_code 20 = .ok (.iadd, 1) := by decide +kernel
theorem d2_21 : decode prog_97_method_6_code 21 = .ok (.baload, 1) := by decide +kernel
theorem d2_22 : decode prog_97_method_6_code 22 = .ok (.sipush 255, 3) := by decide +kernel
theorem d2_25 : decode prog_97_method_6_code 25 = .ok (.iand, 1) := by decide +kernel
theorem d2_26 : decode prog_97_method_6_code 26 = .ok (.i2l, 1) := by decide +kernel
theorem d2_27 : decode prog_97_method_6_code 27 = .ok (.lor, 1) := by decide +kernel
theorem d2_28 : decode prog_97_method_6_code 28 = .ok (.lstore_n 3, 1) := by decide +kernel
theorem d2_29 : decode prog_97_method_6_code 29 = .ok (.iinc 5 (-1), 3) := by decide +kernel
theorem d2_32 : decode prog_97_method_6_code 32 = .ok (.goto (-25), 3) := by decide +kernel
theorem pn_1 : plainName "keyfold/ZstdBlock" = true := by first | (simp [plainName, overriddenIn]; done) | decide +kernel
theorem ef_rm2 (m : MethodId) (x0 : Addr) (x1 : Int32) (x2 : Int32) : entryFrame m #[(.ref x0), (.int x1), (.int x2)] 6 = mkF m 0 #[.val (.ref x0), .val (.int x1), .val (.int x2), .unset, .unset, .unset] [] := by first | (simp [entryFrame, mkF, argsToLocals, Value.category]; done) | rfl
def Q2 (Z : State) (a1 : Addr) (x1 : Int32) (x2 : Int32) (u : Nat → Int32) (oo : Nat) (k : Nat) (h0 : Heap) (n0 : Nat) (v : Option Value) (h : Heap) (L : List Loc) : Prop := v = some (.long (own_le u oo k 0)) ∧ Fr n0 L ∧ h = h0
set_option maxRecDepth 65536 in
set_option maxHeartbeats 40000000 in
theorem rm2 (l : Launch) (Z : State) (a0 : Array Value) (hw : ∀ d ∈ tables_1, d.before a0 Z = true) (ws : List Jvm.Cond) (a1 : Addr) (x1 : Int32) (x2 : Int32) (u : Nat → Int32) (oo : Nat) (k : Nat) (h0 : Heap) (n0 : Nat) (Z0 : n0 ≤ h0.size) (A : Ary Z h0 a1 .byte 16 (fun x => .int (u x))) (hx1 : x1.toInt = (oo : Int)) (hx2 : x2.toInt = (k : Int)) (hok : oo + k ≤ 16) :
    MetFree l (⟨"keyfold/ZstdBlock", "littleEndian", "([BII)J"⟩ : MethodName) (head1 (Jvm.Cond.code (⟨"keyfold/ZstdBlock", "littleEndian", "([BII)J"⟩ : MethodName) prog_97_method_6_code 6 (some .long) :: ws) ({ frames := 0, cells := 0, slots := 0, locals := 0 } : Room)) (fun a U => a = #[(.ref a1), (.int x1), (.int x2)] ∧ Z.Warmed39 U.vm ∧ U.heap = h0) (fun _ _ _ _ _ => True) (fun _ U o U' => ∃ v L, o = .returned v ∧ Q2 Z a1 x1 x2 u oo k h0 n0 v U'.heap L ∧ FrameEnd U o U' L ({ frames := 0, cells := 0, slots := 0, locals := 0 } : Room).cells ({ frames := 0, cells := 0, slots := 0, locals := 0 } : Room).slots) := by
  refine MetFree.of_bodySF (plainFor_of_name pn_1) hisR ?_
  intro p e s m args below meth c s₁ Bd hml0 hP hK
  obtain ⟨rfl, hZ, hh⟩ := hP
  have hx := Bd.exec
  have hby := Bd.bytes
  have hml : c.maxLocals = 6 := hml0
  have hown : s.vm.findClass "keyfold/ZstdBlock" = some m.cls := findClass_of_methodNamed Bd.named
  have hnm := (name_of_methodNamed Bd.named Bd.method).1
  have X0 : Stand p l e ({ frames := 0, cells := 0, slots := 0, locals := 0 } : Room) s m #[(.ref a1), (.int x1), (.int x2)] below meth c s₁ [] 0 0 := Stand.of_body Bd
  have e0 : s₁.heap = h0 := by rw [← hh, Bd.state]; rfl
  have N0 := Fr.nil n0
  have K0 := Keep.refl h0 []
  suffices hD : Dn p e below s (Q2 Z a1 x1 x2 u oo k h0 n0) ({ frames := 0, cells := 0, slots := 0, locals := 0 } : Room).cells ({ frames := 0, cells := 0, slots := 0, locals := 0 } : Room).slots s₁ (mkF m 0 #[.val (.ref a1), .val (.int x1), .val (.int x2), .unset, .unset, .unset] []) from by
    obtain ⟨s₂, o, q1, q2⟩ := hD
    exact ⟨s₂, o, castTop (ef_rm2 m a1 x1 x2) q1, q2⟩
  refine Dn.st (fun t q => XS.lconst X0.here hx rfl (hb hby d2_0) q) ?_
  show Dn p e below s _ _ _ s₁ (mkF m 1 #[.val (.ref a1), .val (.int x1), .val (.int x2), .unset, .unset, .unset] [(.long (0 : Int64))])
  refine Dn.st (fun t q => XS.lstoreN X0.here hx rfl (hb hby d2_1) rfl (l' := #[.val (.ref a1), .val (.int x1), .val (.int x2), .val (.long (0 : Int64)), .second, .unset]) rfl q) ?_
  show Dn p e below s _ _ _ s₁ (mkF m 2 #[.val (.ref a1), .val (.int x1), .val (.int x2), .val (.long (0 : Int64)), .second, .unset] [])
  refine Dn.st (fun t q => XS.iloadN X0.here hx rfl (hb hby d2_2) rfl  q) ?_
  show Dn p e below s _ _ _ s₁ (mkF m 3 #[.val (.ref a1), .val (.int x1), .val (.int x2), .val (.long (0 : Int64)), .second, .unset] [(.int x2)])
  refine Dn.st (fun t q => XS.iconst X0.here hx rfl (hb hby d2_3) q) ?_
  show Dn p e below s _ _ _ s₁ (mkF m 4 #[.val (.ref a1), .val (.int x1), .val (.int x2), .val (.long (0 : Int64)), .second, .unset] [(.int (1 : Int32)), (.int x2)])
  refine Dn.st (fun t q => XS.isub X0.here hx rfl (hb hby d2_4) rfl q) ?_
  show Dn p e below s _ _ _ s₁ (mkF m 5 #[.val (.ref a1), .val (.int x1), .val (.int x2), .val (.long (0 : Int64)), .second, .unset] [(.int (x2 - (1 : Int32)))])
  refine Dn.st (fun t q => XS.istore X0.here hx rfl (hb hby d2_5) rfl (l' := #[.val (.ref a1), .val (.int x1), .val (.int x2), .val (.long (0 : Int64)), .second, .val (.int (x2 - (1 : Int32)))]) rfl q) ?_
  show Dn p e below s _ _ _ s₁ (mkF m 7 #[.val (.ref a1), .val (.int x1), .val (.int x2), .val (.long (0 : Int64)), .second, .val (.int (x2 - (1 : Int32)))] [])
  have lp : ∀ (kk : Nat) (acc : Int64) (i5 : Int32)  (hi : i5.toInt = (kk : Int) - 1) (hk : kk ≤ k) (he : own_le u oo kk acc = own_le u oo k 0), Dn p e below s (Q2 Z a1 x1 x2 u oo k h0 n0) (({ frames := 0, cells := 0, slots := 0, locals := 0 } : Room).cells) (({ frames := 0, cells := 0, slots := 0, locals := 0 } : Room).slots) s₁ (mkF m 7 #[.val (.ref a1), .val (.int x1), .val (.int x2), .val (.long acc), .second, .val (.int i5)] []) := by
    intro kk
    induction kk with
    | zero =>
      intro acc i5 hi hk he
      refine Dn.st (fun t q => XS.iload X0.here hx rfl (hb hby d2_7) rfl  q) ?_
      show Dn p e below s _ _ _ s₁ (mkF m 9 #[.val (.ref a1), .val (.int x1), .val (.int x2), .val (.long acc), .second, .val (.int i5)] [(.int i5)])
      refine Dn.st (fun t q => XS.ifYes X0.here hx rfl (pc0 := 9) (pc' := 35) rfl (hb hby d2_9) rfl ((if0 _ _).trans (tlt (own_neg hi)).1) (by decide) (by decide) q) ?_
      show Dn p e below s _ _ _ s₁ (mkF m 35 #[.val (.ref a1), .val (.int x1), .val (.int x2), .val (.long acc), .second, .val (.int i5)] [])
      refine Dn.st (fun t q => XS.lloadN X0.here hx rfl (hb hby d2_35) rfl  q) ?_
      show Dn p e below s _ _ _ s₁ (mkF m 36 #[.val (.ref a1), .val (.int x1), .val (.int x2), .val (.long acc), .second, .val (.int i5)] [(.long acc)])
      exact Dn.retJ X0 hx Bd.notSynchronized Bd.returns (hb hby d2_36) (by rw [e0]; exact ⟨by rw [← he]; rfl, N0, rfl⟩) (by decide) (by decide)
    | succ kk ih =>
      intro acc i5 hi hk he
      refine Dn.st (fun t q => XS.iload X0.here hx rfl (hb hby d2_7) rfl  q) ?_
      show Dn p e below s _ _ _ s₁ (mkF m 9 #[.val (.ref a1), .val (.int x1), .val (.int x2), .val (.long acc), .second, .val (.int i5)] [(.int i5)])
      refine Dn.st (fun t q => XS.ifNo X0.here hx rfl (hb hby d2_9) rfl ((if0 _ _).trans (flt (own_nneg (own_pred hi))).1) q) ?_
      show Dn p e below s _ _ _ s₁ (mkF m 12 #[.val (.ref a1), .val (.int x1), .val (.int x2), .val (.long acc), .second, .val (.int i5)] [])
      refine Dn.st (fun t q => XS.lloadN X0.here hx rfl (hb hby d2_12) rfl  q) ?_
      show Dn p e below s _ _ _ s₁ (mkF m 13 #[.val (.ref a1), .val (.int x1), .val (.int x2), .val (.long acc), .second, .val (.int i5)] [(.long acc)])
      refine Dn.st (fun t q => XS.bipush X0.here hx rfl (hb hby d2_13) q) ?_
      show Dn p e below s _ _ _ s₁ (mkF m 15 #[.val (.ref a1), .val (.int x1), .val (.int x2), .val (.long acc), .second, .val (.int i5)] [(.int (8 : Int32)), (.long acc)])
      refine Dn.st (fun t q => XS.lshl X0.here hx rfl (hb hby d2_15) rfl q) ?_
      show Dn p e below s _ _ _ s₁ (mkF m 16 #[.val (.ref a1), .val (.int x1), .val (.int x2), .val (.long acc), .second, .val (.int i5)] [(.long (acc <<< ((8 : Int32) &&& 0x3f).toInt64))])
      refine Dn.st (fun t q => XS.aloadN X0.here hx rfl (hb hby d2_16) rfl rfl  q) ?_
      show Dn p e below s _ _ _ s₁ (mkF m 17 #[.val (.ref a1), .val (.int x1), .val (.int x2), .val (.long acc), .second, .val (.int i5)] [(.ref a1), (.long (acc <<< ((8 : Int32) &&& 0x3f).toInt64))])
      refine Dn.st (fun t q => XS.iloadN X0.here hx rfl (hb hby d2_17) rfl  q) ?_
      show Dn p e below s _ _ _ s₁ (mkF m 18 #[.val (.ref a1), .val (.int x1), .val (.int x2), .val (.long acc), .second, .val (.int i5)] [(.int x1), (.ref a1), (.long (acc <<< ((8 : Int32) &&& 0x3f).toInt64))])
      refine Dn.st (fun t q => XS.iload X0.here hx rfl (hb hby d2_18) rfl  q) ?_
      show Dn p e below s _ _ _ s₁ (mkF m 20 #[.val (.ref a1), .val (.int x1), .val (.int x2), .val (.long acc), .second, .val (.int i5)] [(.int i5), (.int x1), (.ref a1), (.long (acc <<< ((8 : Int32) &&& 0x3f).toInt64))])
      refine Dn.st (fun t q => XS.iadd X0.here hx rfl (hb hby d2_20) rfl q) ?_
      show Dn p e below s _ _ _ s₁ (mkF m 21 #[.val (.ref a1), .val (.int x1), .val (.int x2), .val (.long acc), .second, .val (.int i5)] [(.int (x1 + i5)), (.ref a1), (.long (acc <<< ((8 : Int32) &&& 0x3f).toInt64))])
      refine Dn.st (aLoadB (w := u) X0 hx hZ e0 A (i := (oo + kk)) (own_ix hx1 (own_pred hi) (by omega)) (by omega) (g := (mkF m 21 #[.val (.ref a1), .val (.int x1), .val (.int x2), .val (.long acc), .second, .val (.int i5)] [(.int (x1 + i5)), (.ref a1), (.long (acc <<< ((8 : Int32) &&& 0x3f).toInt64))])) rfl rfl (hb hby d2_21)) ?_
      show Dn p e below s _ _ _ s₁ (mkF m 22 #[.val (.ref a1), .val (.int x1), .val (.int x2), .val (.long acc), .second, .val (.int i5)] [(.int (u (oo + kk))), (.long (acc <<< ((8 : Int32) &&& 0x3f).toInt64))])
      refine Dn.st (fun t q => XS.sipush X0.here hx rfl (hb hby d2_22) q) ?_
      show Dn p e below s _ _ _ s₁ (mkF m 25 #[.val (.ref a1), .val (.int x1), .val (.int x2), .val (.long acc), .second, .val (.int i5)] [(.int (255 : Int32)), (.int (u (oo + kk))), (.long (acc <<< ((8 : Int32) &&& 0x3f).toInt64))])
      refine Dn.st (fun t q => XS.iand X0.here hx rfl (hb hby d2_25) rfl q) ?_
      show Dn p e below s _ _ _ s₁ (mkF m 26 #[.val (.ref a1), .val (.int x1), .val (.int x2), .val (.long acc), .second, .val (.int i5)] [(.int ((u (oo + kk)) &&& (255 : Int32))), (.long (acc <<< ((8 : Int32) &&& 0x3f).toInt64))])
      refine Dn.st (fun t q => XS.i2l X0.here hx rfl (hb hby d2_26) rfl q) ?_
      show Dn p e below s _ _ _ s₁ (mkF m 27 #[.val (.ref a1), .val (.int x1), .val (.int x2), .val (.long acc), .second, .val (.int i5)] [(.long (((u (oo + kk)) &&& (255 : Int32)).toInt64)), (.long (acc <<< ((8 : Int32) &&& 0x3f).toInt64))])
      refine Dn.st (fun t q => XS.lor X0.here hx rfl (hb hby d2_27) rfl q) ?_
      show Dn p e below s _ _ _ s₁ (mkF m 28 #[.val (.ref a1), .val (.int x1), .val (.int x2), .val (.long acc), .second, .val (.int i5)] [(.long ((acc <<< ((8 : Int32) &&& 0x3f).toInt64) ||| (((u (oo + kk)) &&& (255 : Int32)).toInt64)))])
      refine Dn.st (fun t q => XS.lstoreN X0.here hx rfl (hb hby d2_28) rfl (l' := #[.val (.ref a1), .val (.int x1), .val (.int x2), .val (.long ((acc <<< ((8 : Int32) &&& 0x3f).toInt64) ||| (((u (oo + kk)) &&& (255 : Int32)).toInt64))), .second, .val (.int i5)]) rfl q) ?_
      show Dn p e below s _ _ _ s₁ (mkF m 29 #[.val (.ref a1), .val (.int x1), .val (.int x2), .val (.long ((acc <<< ((8 : Int32) &&& 0x3f).toInt64) ||| (((u (oo + kk)) &&& (255 : Int32)).toInt64))), .second, .val (.int i5)] [])
      refine Dn.st (fun t q => XS.iinc X0.here hx rfl (hb hby d2_29) rfl (l' := #[.val (.ref a1), .val (.int x1), .val (.int x2), .val (.long ((acc <<< ((8 : Int32) &&& 0x3f).toInt64) ||| (((u (oo + kk)) &&& (255 : Int32)).toInt64))), .second, .val (.int (i5 + (-1 : Int32)))]) rfl q) ?_
      show Dn p e below s _ _ _ s₁ (mkF m 32 #[.val (.ref a1), .val (.int x1), .val (.int x2), .val (.long ((acc <<< ((8 : Int32) &&& 0x3f).toInt64) ||| (((u (oo + kk)) &&& (255 : Int32)).toInt64))), .second, .val (.int (i5 + (-1 : Int32)))] [])
      refine Dn.st (fun t q => XS.goto X0.here hx rfl (pc0 := 32) (pc' := 7) rfl (hb hby d2_32) (by decide) (by decide) q) ?_
      show Dn p e below s _ _ _ s₁ (mkF m 7 #[.val (.ref a1), .val (.int x1), .val (.int x2), .val (.long ((acc <<< ((8 : Int32) &&& 0x3f).toInt64) ||| (((u (oo + kk)) &&& (255 : Int32)).toInt64))), .second, .val (.int (i5 + (-1 : Int32)))] [])
      exact ih ((acc <<< ((8 : Int32) &&& 0x3f).toInt64) ||| (((u (oo + kk)) &&& (255 : Int32)).toInt64)) (i5 + (-1 : Int32)) (own_dec hi) (by omega) he
  exact lp k (0 : Int64) (x2 - (1 : Int32)) (own_dec0 hx2) (Nat.le_refl _) rfl
theorem d3_0 : decode method_4_code 0 = .ok (.iload 4, 2) := by decide +kernel
theorem d3_2 : decode method_4_code 2 = .ok (.ifCond .ne 5, 3) := by decide +kernel
theorem d3_5 : decode method_4_code 5 = .ok (.lload_n 0, 1) := by decide +kernel
theorem d3_7 : decode method_4_code 7 = .ok (.iload 4, 2) := by decide +kernel
theorem d3_9 : decode method_4_code 9 = .ok (.bipush 16, 2) := by decide +kernel
theorem d3_11 : decode method_4_code 11 = .ok (.if_icmp .lt 5, 3) := by decide +kernel
theorem d3_16 : decode method_4_code 16 = .ok (.iload 4, 2) := by decide +kernel
theorem d3_18 : decode method_4_code 18 = .ok (.bipush 8, 2) := by decide +kernel
theorem d3_20 : decode method_4_code 20 = .ok (.if_icmp .ge 22, 3) := by decide +kernel
theorem d3_23 : decode method_4_code 23 = .ok (.lload_n 0, 1) := by decide +kernel
theorem d3_24 : decode method_4_code 24 = .ok (.bipush 8, 2) := by decide +kernel
theorem d3_26 : decode method_4_code 26 = .ok (.iload 4, 2) := by decide +kernel
theorem d3_28 : decode method_4_code 28 = .ok (.imul, 1) := by decide +kernel
theorem d3_29 : decode method_4_code 29 = .ok (.lushr, 1) := by decide +kernel
theorem d3_30 : decode method_4_code 30 = .ok (.lload_n 2, 1) := by decide +kernel
theorem d3_31 : decode method_4_code 31 = .ok (.bipush 64, 2) := by decide +kernel
theorem d3_33 : decode method_4_code 33 = .ok (.bipush 8, 2) := by decide +kernel
theorem d3_35 : decode method_4_code 35 = .ok (.iload 4, 2) := by decide +kernel
theorem d3_37 : decode method_4_code 37 = .ok (.imul, 1) := by decide +kernel
theorem d3_38 : decode method_4_code 38 = .ok (.isub, 1) := by decide +kernel
theorem d3_39 : decode method_4_code 39 = .ok (.lshl, 1) := by decide +kernel
theorem d3_40 : decode method_4_code 40 = .ok (.lor, 1) := by decide +kernel
theorem d3_42 : decode method_4_code 42 = .ok (.lload_n 2, 1) := by decide +kernel
theorem d3_43 : decode method_4_code 43 = .ok (.bipush 8, 2) := by decide +kernel
theorem d3_45 : decode method_4_code 45 = .ok (.iload 4, 2) := by decide +kernel
theorem d3_47 : decode method_4_code 47 = .ok (.bipush 8, 2) := by decide +kernel
theorem d3_49 : decode method_4_code 49 = .ok (.isub, 1) := by decide +kernel
theorem d3_50 : decode method_4_code 50 = .ok (.imul, 1) := by decide +kernel
theorem d3_51 : decode method_4_code 51 = .ok (.lushr, 1) := by decide +kernel
theorem d3_14 : decode method_4_code 14 = .ok (.lconst 0, 1) := by decide +kernel
def own_win (y1 : Int64) (y2 : Int64) (x1 : Int32) : Int64 := (if x1 = (0 : Int32) then y1 else (if x1 < (16 : Int32) then (if x1 < (8 : Int32) then (((y1.toUInt64 >>> (((8 : Int32) * x1) &&& 0x3f).toInt64.toUInt64).toInt64) ||| (y2 <<< (((64 : Int32) - ((8 : Int32) * x1)) &&& 0x3f).toInt64)) else ((y2.toUInt64 >>> (((8 : Int32) * (x1 - (8 : Int32))) &&& 0x3f).toInt64.toUInt64).toInt64)) else (0 : Int64)))
theorem d3_6 : decode method_4_code 6 = .ok (.lreturn, 1) := by decide +kernel
theorem d3_41 : decode method_4_code 41 = .ok (.lreturn, 1) := by decide +kernel
theorem d3_52 : decode method_4_code 52 = .ok (.lreturn, 1) := by decide +kernel
theorem d3_15 : decode method_4_code 15 = .ok (.lreturn, 1) := by decide +kernel
theorem ef_rm3 (m : MethodId) (x0 : Int64) (x1 : Int64) (x2 : Int32) : entryFrame m #[(.long x0), (.long x1), (.int x2)] 5 = mkF m 0 #[.val (.long x0), .second, .val (.long x1), .second, .val (.int x2)] [] := by first | (simp [entryFrame, mkF, argsToLocals, Value.category]; done) | rfl
def Q3 (Z : State) (y1 : Int64) (y2 : Int64) (x1 : Int32) (h0 : Heap) (n0 : Nat) (v : Option Value) (h : Heap) (L : List Loc) : Prop := v = some (.long (own_win y1 y2 x1)) ∧ Fr n0 L ∧ h = h0
set_option maxRecDepth 65536 in
set_option maxHeartbeats 40000000 in
theorem rm3 (l : Launch) (Z : State) (a0 : Array Value) (hw : ∀ d ∈ tables_1, d.before a0 Z = true) (ws : List Jvm.Cond) (y1 : Int64) (y2 : Int64) (x1 : Int32) (h0 : Heap) (n0 : Nat) (Z0 : n0 ≤ h0.size) :
    MetFree l (⟨"keyfold/ZstdBlockLittleEndianPinLaw", "window", "(JJI)J"⟩ : MethodName) (head1 (Jvm.Cond.code (⟨"keyfold/ZstdBlockLittleEndianPinLaw", "window", "(JJI)J"⟩ : MethodName) method_4_code 5 (some .long) :: ws) ({ frames := 0, cells := 0, slots := 0, locals := 0 } : Room)) (fun a U => a = #[(.long y1), (.long y2), (.int x1)] ∧ Z.Warmed39 U.vm ∧ U.heap = h0) (fun _ _ _ _ _ => True) (fun _ U o U' => ∃ v L, o = .returned v ∧ Q3 Z y1 y2 x1 h0 n0 v U'.heap L ∧ FrameEnd U o U' L ({ frames := 0, cells := 0, slots := 0, locals := 0 } : Room).cells ({ frames := 0, cells := 0, slots := 0, locals := 0 } : Room).slots) := by
  refine MetFree.of_bodySF (plainFor_of_name pn_0) hisR ?_
  intro p e s m args below meth c s₁ Bd hml0 hP hK
  obtain ⟨rfl, hZ, hh⟩ := hP
  have hx := Bd.exec
  have hby := Bd.bytes
  have hml : c.maxLocals = 5 := hml0
  have hown : s.vm.findClass "keyfold/ZstdBlockLittleEndianPinLaw" = some m.cls := findClass_of_methodNamed Bd.named
  have hnm := (name_of_methodNamed Bd.named Bd.method).1
  have X0 : Stand p l e ({ frames := 0, cells := 0, slots := 0, locals := 0 } : Room) s m #[(.long y1), (.long y2), (.int x1)] below meth c s₁ [] 0 0 := Stand.of_body Bd
  have e0 : s₁.heap = h0 := by rw [← hh, Bd.state]; rfl
  have N0 := Fr.nil n0
  have K0 := Keep.refl h0 []
  suffices hD : Dn p e below s (Q3 Z y1 y2 x1 h0 n0) ({ frames := 0, cells := 0, slots := 0, locals := 0 } : Room).cells ({ frames := 0, cells := 0, slots := 0, locals := 0 } : Room).slots s₁ (mkF m 0 #[.val (.long y1), .second, .val (.long y2), .second, .val (.int x1)] []) from by
    obtain ⟨s₂, o, q1, q2⟩ := hD
    exact ⟨s₂, o, castTop (ef_rm3 m y1 y2 x1) q1, q2⟩
  refine Dn.st (fun t q => XS.iload X0.here hx rfl (hb hby d3_0) rfl  q) ?_
  show Dn p e below s _ _ _ s₁ (mkF m 2 #[.val (.long y1), .second, .val (.long y2), .second, .val (.int x1)] [(.int x1)])
  by_cases c1 : x1 = (0 : Int32)
  · refine Dn.st (fun t q => XS.ifNo X0.here hx rfl (hb hby d3_2) rfl ((if0 _ _).trans (teq c1).2) q) ?_
    show Dn p e below s _ _ _ s₁ (mkF m 5 #[.val (.long y1), .second, .val (.long y2), .second, .val (.int x1)] [])
    refine Dn.st (fun t q => XS.lloadN X0.here hx rfl (hb hby d3_5) rfl  q) ?_
    show Dn p e below s _ _ _ s₁ (mkF m 6 #[.val (.long y1), .second, .val (.long y2), .second, .val (.int x1)] [(.long y1)])
    exact Dn.retJ X0 hx Bd.notSynchronized Bd.returns (hb hby d3_6) (by rw [e0]; exact ⟨by show some (Value.long y1) = some (Value.long (own_win y1 y2 x1)); rw [own_win, if_pos c1], N0, rfl⟩) (by decide) (by decide)
  · refine Dn.st (fun t q => XS.ifYes X0.here hx rfl (pc0 := 2) (pc' := 7) rfl (hb hby d3_2) rfl ((if0 _ _).trans (feq c1).2) (by decide) (by decide) q) ?_
    show Dn p e below s _ _ _ s₁ (mkF m 7 #[.val (.long y1), .second, .val (.long y2), .second, .val (.int x1)] [])
    refine Dn.st (fun t q => XS.iload X0.here hx rfl (hb hby d3_7) rfl  q) ?_
    show Dn p e below s _ _ _ s₁ (mkF m 9 #[.val (.long y1), .second, .val (.long y2), .second, .val (.int x1)] [(.int x1)])
    refine Dn.st (fun t q => XS.bipush X0.here hx rfl (hb hby d3_9) q) ?_
    show Dn p e below s _ _ _ s₁ (mkF m 11 #[.val (.long y1), .second, .val (.long y2), .second, .val (.int x1)] [(.int (16 : Int32)), (.int x1)])
    by_cases c2 : x1 < (16 : Int32)
    · refine Dn.st (fun t q => XS.icmpYes X0.here hx rfl (pc0 := 11) (pc' := 16) rfl (hb hby d3_11) rfl (tlt c2).1 (by decide) (by decide) q) ?_
      show Dn p e below s _ _ _ s₁ (mkF m 16 #[.val (.long y1), .second, .val (.long y2), .second, .val (.int x1)] [])
      refine Dn.st (fun t q => XS.iload X0.here hx rfl (hb hby d3_16) rfl  q) ?_
      show Dn p e below s _ _ _ s₁ (mkF m 18 #[.val (.long y1), .second, .val (.long y2), .second, .val (.int x1)] [(.int x1)])
      refine Dn.st (fun t q => XS.bipush X0.here hx rfl (hb hby d3_18) q) ?_
      show Dn p e below s _ _ _ s₁ (mkF m 20 #[.val (.long y1), .second, .val (.long y2), .second, .val (.int x1)] [(.int (8 : Int32)), (.int x1)])
      by_cases c3 : x1 < (8 : Int32)
      · refine Dn.st (fun t q => XS.icmpNo X0.here hx rfl (hb hby d3_20) rfl (tlt c3).2.1 q) ?_
        show Dn p e below s _ _ _ s₁ (mkF m 23 #[.val (.long y1), .second, .val (.long y2), .second, .val (.int x1)] [])
        refine Dn.st (fun t q => XS.lloadN X0.here hx rfl (hb hby d3_23) rfl  q) ?_
        show Dn p e below s _ _ _ s₁ (mkF m 24 #[.val (.long y1), .second, .val (.long y2), .second, .val (.int x1)] [(.long y1)])
        refine Dn.st (fun t q => XS.bipush X0.here hx rfl (hb hby d3_24) q) ?_
        show Dn p e below s _ _ _ s₁ (mkF m 26 #[.val (.long y1), .second, .val (.long y2), .second, .val (.int x1)] [(.int (8 : Int32)), (.long y1)])
        refine Dn.st (fun t q => XS.iload X0.here hx rfl (hb hby d3_26) rfl  q) ?_
        show Dn p e below s _ _ _ s₁ (mkF m 28 #[.val (.long y1), .second, .val (.long y2), .second, .val (.int x1)] [(.int x1), (.int (8 : Int32)), (.long y1)])
        refine Dn.st (fun t q => XS.imul X0.here hx rfl (hb hby d3_28) rfl q) ?_
        show Dn p e below s _ _ _ s₁ (mkF m 29 #[.val (.long y1), .second, .val (.long y2), .second, .val (.int x1)] [(.int ((8 : Int32) * x1)), (.long y1)])
        refine Dn.st (fun t q => XS.lushr X0.here hx rfl (hb hby d3_29) rfl q) ?_
        show Dn p e below s _ _ _ s₁ (mkF m 30 #[.val (.long y1), .second, .val (.long y2), .second, .val (.int x1)] [(.long ((y1.toUInt64 >>> (((8 : Int32) * x1) &&& 0x3f).toInt64.toUInt64).toInt64))])
        refine Dn.st (fun t q => XS.lloadN X0.here hx rfl (hb hby d3_30) rfl  q) ?_
        show Dn p e below s _ _ _ s₁ (mkF m 31 #[.val (.long y1), .second, .val (.long y2), .second, .val (.int x1)] [(.long y2), (.long ((y1.toUInt64 >>> (((8 : Int32) * x1) &&& 0x3f).toInt64.toUInt64).toInt64))])
        refine Dn.st (fun t q => XS.bipush X0.here hx rfl (hb hby d3_31) q) ?_
        show Dn p e below s _ _ _ s₁ (mkF m 33 #[.val (.long y1), .second, .val (.long y2), .second, .val (.int x1)] [(.int (64 : Int32)), (.long y2), (.long ((y1.toUInt64 >>> (((8 : Int32) * x1) &&& 0x3f).toInt64.toUInt64).toInt64))])
        refine Dn.st (fun t q => XS.bipush X0.here hx rfl (hb hby d3_33) q) ?_
        show Dn p e below s _ _ _ s₁ (mkF m 35 #[.val (.long y1), .second, .val (.long y2), .second, .val (.int x1)] [(.int (8 : Int32)), (.int (64 : Int32)), (.long y2), (.long ((y1.toUInt64 >>> (((8 : Int32) * x1) &&& 0x3f).toInt64.toUInt64).toInt64))])
        refine Dn.st (fun t q => XS.iload X0.here hx rfl (hb hby d3_35) rfl  q) ?_
        show Dn p e below s _ _ _ s₁ (mkF m 37 #[.val (.long y1), .second, .val (.long y2), .second, .val (.int x1)] [(.int x1), (.int (8 : Int32)), (.int (64 : Int32)), (.long y2), (.long ((y1.toUInt64 >>> (((8 : Int32) * x1) &&& 0x3f).toInt64.toUInt64).toInt64))])
        refine Dn.st (fun t q => XS.imul X0.here hx rfl (hb hby d3_37) rfl q) ?_
        show Dn p e below s _ _ _ s₁ (mkF m 38 #[.val (.long y1), .second, .val (.long y2), .second, .val (.int x1)] [(.int ((8 : Int32) * x1)), (.int (64 : Int32)), (.long y2), (.long ((y1.toUInt64 >>> (((8 : Int32) * x1) &&& 0x3f).toInt64.toUInt64).toInt64))])
        refine Dn.st (fun t q => XS.isub X0.here hx rfl (hb hby d3_38) rfl q) ?_
        show Dn p e below s _ _ _ s₁ (mkF m 39 #[.val (.long y1), .second, .val (.long y2), .second, .val (.int x1)] [(.int ((64 : Int32) - ((8 : Int32) * x1))), (.long y2), (.long ((y1.toUInt64 >>> (((8 : Int32) * x1) &&& 0x3f).toInt64.toUInt64).toInt64))])
        refine Dn.st (fun t q => XS.lshl X0.here hx rfl (hb hby d3_39) rfl q) ?_
        show Dn p e below s _ _ _ s₁ (mkF m 40 #[.val (.long y1), .second, .val (.long y2), .second, .val (.int x1)] [(.long (y2 <<< (((64 : Int32) - ((8 : Int32) * x1)) &&& 0x3f).toInt64)), (.long ((y1.toUInt64 >>> (((8 : Int32) * x1) &&& 0x3f).toInt64.toUInt64).toInt64))])
        refine Dn.st (fun t q => XS.lor X0.here hx rfl (hb hby d3_40) rfl q) ?_
        show Dn p e below s _ _ _ s₁ (mkF m 41 #[.val (.long y1), .second, .val (.long y2), .second, .val (.int x1)] [(.long (((y1.toUInt64 >>> (((8 : Int32) * x1) &&& 0x3f).toInt64.toUInt64).toInt64) ||| (y2 <<< (((64 : Int32) - ((8 : Int32) * x1)) &&& 0x3f).toInt64)))])
        exact Dn.retJ X0 hx Bd.notSynchronized Bd.returns (hb hby d3_41) (by rw [e0]; exact ⟨by show some (Value.long (((y1.toUInt64 >>> (((8 : Int32) * x1) &&& 0x3f).toInt64.toUInt64).toInt64) ||| (y2 <<< (((64 : Int32) - ((8 : Int32) * x1)) &&& 0x3f).toInt64))) = some (Value.long (own_win y1 y2 x1)); rw [own_win, if_neg c1, if_pos c2, if_pos c3], N0, rfl⟩) (by decide) (by decide)
      · refine Dn.st (fun t q => XS.icmpYes X0.here hx rfl (pc0 := 20) (pc' := 42) rfl (hb hby d3_20) rfl (flt c3).2.1 (by decide) (by decide) q) ?_
        show Dn p e below s _ _ _ s₁ (mkF m 42 #[.val (.long y1), .second, .val (.long y2), .second, .val (.int x1)] [])
        refine Dn.st (fun t q => XS.lloadN X0.here hx rfl (hb hby d3_42) rfl  q) ?_
        show Dn p e below s _ _ _ s₁ (mkF m 43 #[.val (.long y1), .second, .val (.long y2), .second, .val (.int x1)] [(.long y2)])
        refine Dn.st (fun t q => XS.bipush X0.here hx rfl (hb hby d3_43) q) ?_
        show Dn p e below s _ _ _ s₁ (mkF m 45 #[.val (.long y1), .second, .val (.long y2), .second, .val (.int x1)] [(.int (8 : Int32)), (.long y2)])
        refine Dn.st (fun t q => XS.iload X0.here hx rfl (hb hby d3_45) rfl  q) ?_
        show Dn p e below s _ _ _ s₁ (mkF m 47 #[.val (.long y1), .second, .val (.long y2), .second, .val (.int x1)] [(.int x1), (.int (8 : Int32)), (.long y2)])
        refine Dn.st (fun t q => XS.bipush X0.here hx rfl (hb hby d3_47) q) ?_
        show Dn p e below s _ _ _ s₁ (mkF m 49 #[.val (.long y1), .second, .val (.long y2), .second, .val (.int x1)] [(.int (8 : Int32)), (.int x1), (.int (8 : Int32)), (.long y2)])
        refine Dn.st (fun t q => XS.isub X0.here hx rfl (hb hby d3_49) rfl q) ?_
        show Dn p e below s _ _ _ s₁ (mkF m 50 #[.val (.long y1), .second, .val (.long y2), .second, .val (.int x1)] [(.int (x1 - (8 : Int32))), (.int (8 : Int32)), (.long y2)])
        refine Dn.st (fun t q => XS.imul X0.here hx rfl (hb hby d3_50) rfl q) ?_
        show Dn p e below s _ _ _ s₁ (mkF m 51 #[.val (.long y1), .second, .val (.long y2), .second, .val (.int x1)] [(.int ((8 : Int32) * (x1 - (8 : Int32)))), (.long y2)])
        refine Dn.st (fun t q => XS.lushr X0.here hx rfl (hb hby d3_51) rfl q) ?_
        show Dn p e below s _ _ _ s₁ (mkF m 52 #[.val (.long y1), .second, .val (.long y2), .second, .val (.int x1)] [(.long ((y2.toUInt64 >>> (((8 : Int32) * (x1 - (8 : Int32))) &&& 0x3f).toInt64.toUInt64).toInt64))])
        exact Dn.retJ X0 hx Bd.notSynchronized Bd.returns (hb hby d3_52) (by rw [e0]; exact ⟨by show some (Value.long ((y2.toUInt64 >>> (((8 : Int32) * (x1 - (8 : Int32))) &&& 0x3f).toInt64.toUInt64).toInt64)) = some (Value.long (own_win y1 y2 x1)); rw [own_win, if_neg c1, if_pos c2, if_neg c3], N0, rfl⟩) (by decide) (by decide)
    · refine Dn.st (fun t q => XS.icmpNo X0.here hx rfl (hb hby d3_11) rfl (flt c2).1 q) ?_
      show Dn p e below s _ _ _ s₁ (mkF m 14 #[.val (.long y1), .second, .val (.long y2), .second, .val (.int x1)] [])
      refine Dn.st (fun t q => XS.lconst X0.here hx rfl (hb hby d3_14) q) ?_
      show Dn p e below s _ _ _ s₁ (mkF m 15 #[.val (.long y1), .second, .val (.long y2), .second, .val (.int x1)] [(.long (0 : Int64))])
      exact Dn.retJ X0 hx Bd.notSynchronized Bd.returns (hb hby d3_15) (by rw [e0]; exact ⟨by show some (Value.long (0 : Int64)) = some (Value.long (own_win y1 y2 x1)); rw [own_win, if_neg c1, if_neg c2], N0, rfl⟩) (by decide) (by decide)
abbrev own_g (x : Int64) (j : Nat) : Bool := x.toBitVec.getLsbD j
theorem own_ext {x y : Int64} (h : ∀ j, j < 64 → own_g x j = own_g y j) : x = y := Int64.toBitVec_inj.mp (BitVec.eq_of_getLsbD_eq fun j hj => h j hj)
theorem own_ofNat {x : Int32} {n : Nat} (h : x.toInt = (n : Int)) : x = Int32.ofNat n := by
  have hn : n < 2 ^ 31 := by have := x.toInt_lt; omega
  exact Int32.toInt_inj.mp (h.trans (Int32.toInt_ofNat_of_lt hn).symm)
theorem own_shl (x n : Int64) {k : Nat} (hn : (n.toBitVec.smod 64).toNat = k) : (x <<< n).toBitVec = x.toBitVec <<< k := by
  have e : (x <<< n).toBitVec = x.toBitVec <<< (n.toBitVec.smod 64) := rfl
  rw [e, BitVec.shiftLeft_eq', hn]
theorem own_shr (x : Int64) (n : UInt64) {k : Nat} (hn : n.toNat = k) (hk : k < 64) : ((x.toUInt64 >>> n).toInt64).toBitVec = x.toBitVec >>> k := by
  simp only [UInt64.toBitVec_toInt64, UInt64.toBitVec_shiftRight, Int64.toBitVec_toUInt64, BitVec.ushiftRight_eq']
  congr 1
  simp [hn, Nat.mod_eq_of_lt hk]
theorem own_and (x y : Int64) (j : Nat) : own_g (x &&& y) j = (own_g x j && own_g y j) := by
  show (x.toBitVec &&& y.toBitVec).getLsbD j = _
  rw [BitVec.getLsbD_and]
theorem own_or (x y : Int64) (j : Nat) : own_g (x ||| y) j = (own_g x j || own_g y j) := by
  show (x.toBitVec ||| y.toBitVec).getLsbD j = _
  rw [BitVec.getLsbD_or]
theorem own_g0s (j : Nat) : own_g (0 : Int64) j = false := by
  show (BitVec.ofNat 64 0).getLsbD j = false
  simp
theorem own_255 : ∀ j, j < 32 → (255 : Int32).toBitVec.getLsbD j = decide (j < 8) := by decide +kernel
theorem own_low (w : Int32) {j : Nat} (hj : j < 64) : own_g ((w &&& (255 : Int32)).toInt64) j = (decide (j < 8) && w.toBitVec.getLsbD j) := by
  have e : ((w &&& (255 : Int32)).toInt64).toBitVec = (w.toBitVec &&& (255 : Int32).toBitVec).signExtend 64 := rfl
  unfold own_g
  rw [e, BitVec.getLsbD_signExtend]
  have hm : (w.toBitVec &&& (255 : Int32).toBitVec).msb = false := by
    rw [BitVec.msb_eq_getLsbD_last, BitVec.getLsbD_and, own_255 31 (by decide)]; simp
  by_cases q : j < 32
  · simp only [hj, q, if_true, decide_true, Bool.true_and]
    rw [BitVec.getLsbD_and, own_255 j q, Bool.and_comm]
  · simp only [hj, q, if_false, decide_true, Bool.true_and]
    rw [hm, BitVec.getLsbD_of_ge w.toBitVec j (by omega)]; simp
theorem own_byte (z : Int64) {j : Nat} (hj : j < 8) : (nar .byte (z.toInt32.toInt8.toInt32)).toBitVec.getLsbD j = own_g z j := by
  have e : nar .byte (z.toInt32.toInt8.toInt32) = z.toInt32.toInt8.toInt32 := by
    show z.toInt32.toInt8.toInt32.toInt8.toInt32 = _
    rw [Int8.toInt8_toInt32]
  have e2 : (z.toInt32.toInt8.toInt32).toBitVec = ((z.toBitVec.signExtend 32).signExtend 8).signExtend 32 := rfl
  rw [e, e2, BitVec.getLsbD_signExtend, BitVec.getLsbD_signExtend, BitVec.getLsbD_signExtend]
  simp [hj, show j < 32 by omega, show j < 64 by omega]
theorem own_shb (y : Int64) {i j : Nat} (hi : i < 8) : own_g (own_sh y i) j = own_g y (8 * i + j) := by
  match i, hi with
  | 0, _ => rw [Nat.mul_zero, Nat.zero_add]; rfl
  | 1, _ => show own_g ((y.toUInt64 >>> ((8 : Int32) &&& 0x3f).toInt64.toUInt64).toInt64) j = _; unfold own_g; rw [own_shr y _ (k := 8) (by decide) (by decide), BitVec.getLsbD_ushiftRight]
  | 2, _ => show own_g ((y.toUInt64 >>> ((16 : Int32) &&& 0x3f).toInt64.toUInt64).toInt64) j = _; unfold own_g; rw [own_shr y _ (k := 16) (by decide) (by decide), BitVec.getLsbD_ushiftRight]
  | 3, _ => show own_g ((y.toUInt64 >>> ((24 : Int32) &&& 0x3f).toInt64.toUInt64).toInt64) j = _; unfold own_g; rw [own_shr y _ (k := 24) (by decide) (by decide), BitVec.getLsbD_ushiftRight]
  | 4, _ => show own_g ((y.toUInt64 >>> ((32 : Int32) &&& 0x3f).toInt64.toUInt64).toInt64) j = _; unfold own_g; rw [own_shr y _ (k := 32) (by decide) (by decide), BitVec.getLsbD_ushiftRight]
  | 5, _ => show own_g ((y.toUInt64 >>> ((40 : Int32) &&& 0x3f).toInt64.toUInt64).toInt64) j = _; unfold own_g; rw [own_shr y _ (k := 40) (by decide) (by decide), BitVec.getLsbD_ushiftRight]
  | 6, _ => show own_g ((y.toUInt64 >>> ((48 : Int32) &&& 0x3f).toInt64.toUInt64).toInt64) j = _; unfold own_g; rw [own_shr y _ (k := 48) (by decide) (by decide), BitVec.getLsbD_ushiftRight]
  | 7, _ => show own_g ((y.toUInt64 >>> ((56 : Int32) &&& 0x3f).toInt64.toUInt64).toInt64) j = _; unfold own_g; rw [own_shr y _ (k := 56) (by decide) (by decide), BitVec.getLsbD_ushiftRight]
def own_bit (a b : Int64) (j : Nat) : Bool := if j < 64 then own_g a j else own_g b (j - 64)
def own_U (y1 y2 : Int64) : Nat → Int32 := own_fl 8 y2 (own_fl 0 y1 (fun _ => (0 : Int32)) 8) 8
theorem own_Ub (y1 y2 : Int64) {x j : Nat} (hx : x < 16) (hj : j < 64) : own_g (((own_U y1 y2 x) &&& (255 : Int32)).toInt64) j = (decide (j < 8) && own_bit y1 y2 (8 * x + j)) := by
  rw [own_low _ hj]
  by_cases q : j < 8
  · simp only [q, decide_true, Bool.true_and]
    unfold own_U own_bit
    by_cases r : x < 8
    · rw [if_pos (show 8 * x + j < 64 by omega)]
      have e : own_fl 8 y2 (own_fl 0 y1 (fun _ => (0 : Int32)) 8) 8 x = own_by y1 x := by
        unfold own_fl; rw [if_neg (by omega), if_pos (by omega)]; rfl
      rw [e]; unfold own_by; rw [own_byte _ q, own_shb y1 r]
    · rw [if_neg (show ¬ (8 * x + j < 64) by omega)]
      have e : own_fl 8 y2 (own_fl 0 y1 (fun _ => (0 : Int32)) 8) 8 x = own_by y2 (x - 8) := by
        unfold own_fl; rw [if_pos (by omega)]
      rw [e]; unfold own_by; rw [own_byte _ q, own_shb y2 (by omega)]; congr 1; omega
  · simp [q]
theorem own_leB (y1 y2 : Int64) (o : Nat) : ∀ (k : Nat) (acc : Int64), o + k ≤ 16 → ∀ j, j < 64 → own_g (own_le (own_U y1 y2) o k acc) j = if j < 8 * k then own_bit y1 y2 (8 * o + j) else own_g acc (j - 8 * k)
  | 0, acc, _, j, _ => by rw [if_neg (by omega)]; rfl
  | k + 1, acc, h, j, hj => by
    show own_g (own_le (own_U y1 y2) o k ((acc <<< ((8 : Int32) &&& 0x3f).toInt64) ||| ((own_U y1 y2 (o + k)) &&& (255 : Int32)).toInt64)) j = _
    rw [own_leB y1 y2 o k _ (by omega) j hj]
    by_cases q : j < 8 * k
    · rw [if_pos q, if_pos (by omega)]
    · rw [if_neg q, own_or, own_Ub y1 y2 (by omega) (by omega)]
      have e : own_g (acc <<< ((8 : Int32) &&& 0x3f).toInt64) (j - 8 * k) = (decide (j - 8 * k < 64) && !decide (j - 8 * k < 8) && own_g acc (j - 8 * k - 8)) := by
        unfold own_g; rw [own_shl acc _ (k := 8) (by decide), BitVec.getLsbD_shiftLeft]
      rw [e]
      by_cases r : j - 8 * k < 8
      · rw [if_pos (by omega)]
        simp only [r, decide_true, Bool.true_and, Bool.not_true, Bool.and_false, Bool.false_and, Bool.false_or]
        congr 1 <;> omega
      · rw [if_neg (by omega)]
        simp only [r, decide_false, Bool.false_and, Bool.not_false, Bool.and_true, Bool.or_false, show j - 8 * k < 64 by omega, decide_true, Bool.true_and]
        congr 1 <;> omega
theorem own_c17 : ∀ o, o < 17 → ((Int32.ofNat o = (0 : Int32) ↔ o = 0) ∧ (Int32.ofNat o < (16 : Int32) ↔ o < 16) ∧ (Int32.ofNat o < (8 : Int32) ↔ o < 8)) := by decide +kernel
theorem own_w1 : ∀ o, o < 8 → ((((8 : Int32) * Int32.ofNat o) &&& 0x3f).toInt64.toUInt64).toNat = 8 * o := by decide +kernel
theorem own_w2 : ∀ o, o < 8 → ((((((64 : Int32) - ((8 : Int32) * Int32.ofNat o)) &&& 0x3f).toInt64)).toBitVec.smod 64).toNat = (64 - 8 * o) % 64 := by decide +kernel
theorem own_w3 : ∀ o, o < 8 → ((((8 : Int32) * (Int32.ofNat (o + 8) - (8 : Int32))) &&& 0x3f).toInt64.toUInt64).toNat = 8 * o := by decide +kernel
theorem own_winB (y1 y2 : Int64) {o j : Nat} (ho : o < 17) (hj : j < 64) : own_g (own_win y1 y2 (Int32.ofNat o)) j = (decide (8 * o + j < 128) && own_bit y1 y2 (8 * o + j)) := by
  obtain ⟨c1, c2, c3⟩ := own_c17 o ho
  unfold own_win own_bit
  by_cases h0 : o = 0
  · rw [if_pos (c1.mpr h0)]; subst h0; simp [hj, show j < 128 by omega]
  · rw [if_neg (fun q => h0 (c1.mp q))]
    by_cases h16 : o < 16
    · rw [if_pos (c2.mpr h16)]
      by_cases h8 : o < 8
      · rw [if_pos (c3.mpr h8), own_or]
        have a1 : own_g ((y1.toUInt64 >>> (((8 : Int32) * Int32.ofNat o) &&& 0x3f).toInt64.toUInt64).toInt64) j = own_g y1 (8 * o + j) := by
          unfold own_g; rw [own_shr y1 _ (own_w1 o h8) (by omega), BitVec.getLsbD_ushiftRight]
        have a2 : own_g (y2 <<< (((64 : Int32) - ((8 : Int32) * Int32.ofNat o)) &&& 0x3f).toInt64) j = (!decide (j < 64 - 8 * o) && own_g y2 (j - (64 - 8 * o))) := by
          unfold own_g; rw [own_shl y2 _ (own_w2 o h8), BitVec.getLsbD_shiftLeft, Nat.mod_eq_of_lt (show 64 - 8 * o < 64 by omega)]; simp [hj]
        rw [a1, a2]
        by_cases q : 8 * o + j < 64
        · rw [if_pos q]; simp [show j < 64 - 8 * o by omega, show 8 * o + j < 128 by omega]
        · rw [if_neg q, show own_g y1 (8 * o + j) = false from BitVec.getLsbD_of_ge _ _ (by omega), show 8 * o + j - 64 = j - (64 - 8 * o) by omega]
          simp [show ¬ (j < 64 - 8 * o) by omega, show 8 * o + j < 128 by omega]
      · rw [if_neg (fun q => h8 (c3.mp q))]
        obtain ⟨p, rfl⟩ : ∃ p, o = p + 8 := ⟨o - 8, by omega⟩
        have a1 : own_g ((y2.toUInt64 >>> (((8 : Int32) * (Int32.ofNat (p + 8) - (8 : Int32))) &&& 0x3f).toInt64.toUInt64).toInt64) j = own_g y2 (8 * p + j) := by
          unfold own_g; rw [own_shr y2 _ (own_w3 p (by omega)) (by omega), BitVec.getLsbD_ushiftRight]
        rw [a1, if_neg (by omega), show 8 * (p + 8) + j - 64 = 8 * p + j by omega]
        by_cases q : 8 * (p + 8) + j < 128
        · simp [q]
        · rw [show own_g y2 (8 * p + j) = false from BitVec.getLsbD_of_ge _ _ (by omega)]; simp
    · rw [if_neg (fun q => h16 (c2.mp q)), own_g0s]; simp [show ¬ (8 * o + j < 128) by omega]
theorem own_fin8 (y1 y2 : Int64) {nn aa : Int32} {k o : Nat} (hk : nn.toInt = (k : Int)) (ho : aa.toInt = (o : Int)) (hok : o < 17 - k) (c8 : nn = (8 : Int32)) : own_le (own_fl 8 y2 (own_fl 0 y1 (fun _ => (0 : Int32)) 8) 8) o k 0 = own_win y1 y2 aa := by
  have k8 : k = 8 := by rw [c8, show (8 : Int32).toInt = 8 from rfl] at hk; omega
  subst k8
  rw [own_ofNat ho]
  refine own_ext fun j hj => ?_
  rw [own_winB y1 y2 (by omega) hj]
  refine (own_leB y1 y2 o 8 0 (by omega) j hj).trans ?_
  rw [if_pos (by omega)]; simp [show 8 * o + j < 128 by omega]
theorem own_maskk : ∀ k, k < 8 → ∀ j, j < 64 → own_g (((1 : Int64) <<< (((8 : Int32) * Int32.ofNat k) &&& 0x3f).toInt64) - (1 : Int64)) j = decide (j < 8 * k) := by decide +kernel
theorem own_finl (y1 y2 : Int64) {nn aa : Int32} {k o : Nat} (hk : nn.toInt = (k : Int)) (ho : aa.toInt = (o : Int)) (hok : o < 17 - k) (hk9 : k < 9) (c8 : ¬ (nn = (8 : Int32))) : own_le (own_fl 8 y2 (own_fl 0 y1 (fun _ => (0 : Int32)) 8) 8) o k 0 = ((own_win y1 y2 aa) &&& (((1 : Int64) <<< (((8 : Int32) * nn) &&& 0x3f).toInt64) - (1 : Int64))) := by
  have k8 : k ≠ 8 := fun q => c8 (Int32.toInt_inj.mp (by rw [hk, q]; rfl))
  rw [own_ofNat ho, own_ofNat hk]
  refine own_ext fun j hj => ?_
  rw [own_and, own_winB y1 y2 (by omega) hj, own_maskk k (by omega) j hj]
  refine (own_leB y1 y2 o k 0 (by omega) j hj).trans ?_
  by_cases q : j < 8 * k
  · rw [if_pos q]; simp [q, show 8 * o + j < 128 by omega]
  · rw [if_neg q, own_g0s]; simp [q]
theorem pd_0 : parseMethodDescriptor "([BIJ)V" = some ⟨[(.array .byte), .int, .long], none⟩ := by decide +kernel
theorem pd_1 : parseMethodDescriptor "([BII)J" = some ⟨[(.array .byte), .int, .int], some .long⟩ := by decide +kernel
theorem pd_2 : parseMethodDescriptor "(JJI)J" = some ⟨[.long, .long, .int], some .long⟩ := by decide +kernel
theorem ef_rm0 (m : MethodId) (x0 : Int64) (x1 : Int64) (x2 : Int32) (x3 : Int32) : entryFrame m #[(.long x0), (.long x1), (.int x2), (.int x3)] maxLocals = mkF m 0 #[.val (.long x0), .second, .val (.long x1), .second, .val (.int x2), .val (.int x3), .unset, .unset, .unset, .unset, .unset, .unset, .unset, .unset, .unset] [] := by first | (simp [entryFrame, mkF, argsToLocals, Value.category, maxLocals]; done) | rfl
def Q0 (Z : State) (y1 : Int64) (y2 : Int64) (x3 : Int32) (x4 : Int32) (h0 : Heap) (n0 : Nat) (v : Option Value) (h : Heap) (L : List Loc) : Prop := v = some (.int 1) ∧ Fr n0 L
set_option maxRecDepth 65536 in
set_option maxHeartbeats 40000000 in
theorem rm0 (l : Launch) (Z : State) (a0 : Array Value) (hw : ∀ d ∈ tables_1, d.before a0 Z = true) (ws : List Jvm.Cond) (y1 : Int64) (y2 : Int64) (x3 : Int32) (x4 : Int32) (h0 : Heap) (n0 : Nat) (Z0 : n0 ≤ h0.size) :
    MetFree l x (head1 (Jvm.Cond.code x code maxLocals ret :: ws) room_1) (fun a U => a = #[(.long y1), (.long y2), (.int x3), (.int x4)] ∧ Z.Warmed39 U.vm ∧ U.heap = h0) (fun _ _ _ _ _ => True) (fun _ U o U' => ∃ v L, o = .returned v ∧ Q0 Z y1 y2 x3 x4 h0 n0 v U'.heap L ∧ FrameEnd U o U' L 1 16) := by
  refine MetFree.of_bodySF (plainFor_of_name pn_0) hisR ?_
  intro p e s m args below meth c s₁ Bd hml0 hP hK
  obtain ⟨rfl, hZ, hh⟩ := hP
  have hx := Bd.exec
  have hby := Bd.bytes
  have hml : c.maxLocals = 15 := hml0
  have hown : s.vm.findClass "keyfold/ZstdBlockLittleEndianPinLaw" = some m.cls := findClass_of_methodNamed Bd.named
  have hnm := (name_of_methodNamed Bd.named Bd.method).1
  have X0 : Stand p l e room_1 s m #[(.long y1), (.long y2), (.int x3), (.int x4)] below meth c s₁ [] 0 0 := Stand.of_body Bd
  have e0 : s₁.heap = h0 := by rw [← hh, Bd.state]; rfl
  have N0 := Fr.nil n0
  have K0 := Keep.refl h0 []
  suffices hD : Dn p e below s (Q0 Z y1 y2 x3 x4 h0 n0) 1 16 s₁ (mkF m 0 #[.val (.long y1), .second, .val (.long y2), .second, .val (.int x3), .val (.int x4), .unset, .unset, .unset, .unset, .unset, .unset, .unset, .unset, .unset] []) from by
    obtain ⟨s₂, o, q1, q2⟩ := hD
    exact ⟨s₂, o, castTop (ef_rm0 m y1 y2 x3 x4) q1, q2⟩
  refine Dn.st (fun t q => XS.iload X0.here hx rfl (hb hby at_0) rfl  q) ?_
  show Dn p e below s _ _ _ s₁ (mkF m 2 #[.val (.long y1), .second, .val (.long y2), .second, .val (.int x3), .val (.int x4), .unset, .unset, .unset, .unset, .unset, .unset, .unset, .unset, .unset] [(.int x4)])
  refine Dn.st (X0.ldcInt hx hown (mvT hZ (hw _ (List.mem_of_getElem? (i := 0) rfl))) (g := (mkF m 2 #[.val (.long y1), .second, .val (.long y2), .second, .val (.int x3), .val (.int x4), .unset, .unset, .unset, .unset, .unset, .unset, .unset, .unset, .unset] [(.int x4)])) rfl (hb hby at_2)) ?_
  show Dn p e below s _ _ _ s₁ (mkF m 4 #[.val (.long y1), .second, .val (.long y2), .second, .val (.int x3), .val (.int x4), .unset, .unset, .unset, .unset, .unset, .unset, .unset, .unset, .unset] [(.int (2147483647 : Int32)), (.int x4)])
  refine Dn.st (fun t q => XS.iand X0.here hx rfl (hb hby at_4) rfl q) ?_
  show Dn p e below s _ _ _ s₁ (mkF m 5 #[.val (.long y1), .second, .val (.long y2), .second, .val (.int x3), .val (.int x4), .unset, .unset, .unset, .unset, .unset, .unset, .unset, .unset, .unset] [(.int (x4 &&& (2147483647 : Int32)))])
  refine Dn.st (fun t q => XS.bipush X0.here hx rfl (hb hby at_5) q) ?_
  show Dn p e below s _ _ _ s₁ (mkF m 7 #[.val (.long y1), .second, .val (.long y2), .second, .val (.int x3), .val (.int x4), .unset, .unset, .unset, .unset, .unset, .unset, .unset, .unset, .unset] [(.int (9 : Int32)), (.int (x4 &&& (2147483647 : Int32)))])
  refine Dn.st (fun t q => iremM X0 hx rfl (hb hby at_7) rfl (by decide) q) ?_
  show Dn p e below s _ _ _ s₁ (mkF m 8 #[.val (.long y1), .second, .val (.long y2), .second, .val (.int x3), .val (.int x4), .unset, .unset, .unset, .unset, .unset, .unset, .unset, .unset, .unset] [(.int ((x4 &&& (2147483647 : Int32)) % (9 : Int32)))])
  generalize hnn : ((x4 &&& (2147483647 : Int32)) % (9 : Int32)) = nn
  show Dn p e below s _ _ _ s₁ (mkF m 8 #[.val (.long y1), .second, .val (.long y2), .second, .val (.int x3), .val (.int x4), .unset, .unset, .unset, .unset, .unset, .unset, .unset, .unset, .unset] [(.int nn)])
  obtain ⟨k, hk, hk9⟩ := own_rem x4 9 9 rfl (by decide)
  rw [hnn] at hk
  refine Dn.st (fun t q => XS.istore X0.here hx rfl (hb hby at_8) rfl (l' := #[.val (.long y1), .second, .val (.long y2), .second, .val (.int x3), .val (.int x4), .val (.int nn), .unset, .unset, .unset, .unset, .unset, .unset, .unset, .unset]) rfl q) ?_
  show Dn p e below s _ _ _ s₁ (mkF m 10 #[.val (.long y1), .second, .val (.long y2), .second, .val (.int x3), .val (.int x4), .val (.int nn), .unset, .unset, .unset, .unset, .unset, .unset, .unset, .unset] [])
  refine Dn.st (fun t q => XS.iload X0.here hx rfl (hb hby at_10) rfl  q) ?_
  show Dn p e below s _ _ _ s₁ (mkF m 12 #[.val (.long y1), .second, .val (.long y2), .second, .val (.int x3), .val (.int x4), .val (.int nn), .unset, .unset, .unset, .unset, .unset, .unset, .unset, .unset] [(.int x3)])
  refine Dn.st (X0.ldcInt hx hown (mvT hZ (hw _ (List.mem_of_getElem? (i := 0) rfl))) (g := (mkF m 12 #[.val (.long y1), .second, .val (.long y2), .second, .val (.int x3), .val (.int x4), .val (.int nn), .unset, .unset, .unset, .unset, .unset, .unset, .unset, .unset] [(.int x3)])) rfl (hb hby at_12)) ?_
  show Dn p e below s _ _ _ s₁ (mkF m 14 #[.val (.long y1), .second, .val (.long y2), .second, .val (.int x3), .val (.int x4), .val (.int nn), .unset, .unset, .unset, .unset, .unset, .unset, .unset, .unset] [(.int (2147483647 : Int32)), (.int x3)])
  refine Dn.st (fun t q => XS.iand X0.here hx rfl (hb hby at_14) rfl q) ?_
  show Dn p e below s _ _ _ s₁ (mkF m 15 #[.val (.long y1), .second, .val (.long y2), .second, .val (.int x3), .val (.int x4), .val (.int nn), .unset, .unset, .unset, .unset, .unset, .unset, .unset, .unset] [(.int (x3 &&& (2147483647 : Int32)))])
  refine Dn.st (fun t q => XS.bipush X0.here hx rfl (hb hby at_15) q) ?_
  show Dn p e below s _ _ _ s₁ (mkF m 17 #[.val (.long y1), .second, .val (.long y2), .second, .val (.int x3), .val (.int x4), .val (.int nn), .unset, .unset, .unset, .unset, .unset, .unset, .unset, .unset] [(.int (17 : Int32)), (.int (x3 &&& (2147483647 : Int32)))])
  refine Dn.st (fun t q => XS.iload X0.here hx rfl (hb hby at_17) rfl  q) ?_
  show Dn p e below s _ _ _ s₁ (mkF m 19 #[.val (.long y1), .second, .val (.long y2), .second, .val (.int x3), .val (.int x4), .val (.int nn), .unset, .unset, .unset, .unset, .unset, .unset, .unset, .unset] [(.int nn), (.int (17 : Int32)), (.int (x3 &&& (2147483647 : Int32)))])
  refine Dn.st (fun t q => XS.isub X0.here hx rfl (hb hby at_19) rfl q) ?_
  show Dn p e below s _ _ _ s₁ (mkF m 20 #[.val (.long y1), .second, .val (.long y2), .second, .val (.int x3), .val (.int x4), .val (.int nn), .unset, .unset, .unset, .unset, .unset, .unset, .unset, .unset] [(.int ((17 : Int32) - nn)), (.int (x3 &&& (2147483647 : Int32)))])
  have h17 : ((17 : Int32) - nn).toInt = ((17 - k : Nat) : Int) := own_17 hk (by omega)
  refine Dn.st (fun t q => iremM X0 hx rfl (hb hby at_20) rfl (own_nz h17 (by omega)) q) ?_
  show Dn p e below s _ _ _ s₁ (mkF m 21 #[.val (.long y1), .second, .val (.long y2), .second, .val (.int x3), .val (.int x4), .val (.int nn), .unset, .unset, .unset, .unset, .unset, .unset, .unset, .unset] [(.int ((x3 &&& (2147483647 : Int32)) % ((17 : Int32) - nn)))])
  generalize haa : ((x3 &&& (2147483647 : Int32)) % ((17 : Int32) - nn)) = aa
  show Dn p e below s _ _ _ s₁ (mkF m 21 #[.val (.long y1), .second, .val (.long y2), .second, .val (.int x3), .val (.int x4), .val (.int nn), .unset, .unset, .unset, .unset, .unset, .unset, .unset, .unset] [(.int aa)])
  obtain ⟨o, ho, hok⟩ := own_rem x3 _ _ h17 (by omega)
  rw [haa] at ho
  refine Dn.st (fun t q => XS.istore X0.here hx rfl (hb hby at_21) rfl (l' := #[.val (.long y1), .second, .val (.long y2), .second, .val (.int x3), .val (.int x4), .val (.int nn), .val (.int aa), .unset, .unset, .unset, .unset, .unset, .unset, .unset]) rfl q) ?_
  show Dn p e below s _ _ _ s₁ (mkF m 23 #[.val (.long y1), .second, .val (.long y2), .second, .val (.int x3), .val (.int x4), .val (.int nn), .val (.int aa), .unset, .unset, .unset, .unset, .unset, .unset, .unset] [])
  refine Dn.st (fun t q => XS.bipush X0.here hx rfl (hb hby at_23) q) ?_
  show Dn p e below s _ _ _ s₁ (mkF m 25 #[.val (.long y1), .second, .val (.long y2), .second, .val (.int x3), .val (.int x4), .val (.int nn), .val (.int aa), .unset, .unset, .unset, .unset, .unset, .unset, .unset] [(.int (16 : Int32))])
  obtain ⟨T1, h1, k1, X1, e1, E1, A1, st1⟩ := newP X0 hx hZ (hw _ (List.mem_of_getElem? (i := 1) rfl)) e0 (g := (mkF m 25 #[.val (.long y1), .second, .val (.long y2), .second, .val (.int x3), .val (.int x4), .val (.int nn), .val (.int aa), .unset, .unset, .unset, .unset, .unset, .unset, .unset] [(.int (16 : Int32))])) rfl (hb hby at_25) rfl (by decide) (cap := 16) (by decide) (by decide) (by decide) (by decide)
  obtain ⟨b1, g1⟩ : ∃ z, z = h0.size := ⟨_, rfl⟩
  rw [← g1] at A1 st1
  have g_b1 : n0 ≤ b1 := Nat.le_trans Z0 (Nat.le_of_eq g1.symm)
  have sz_b1 : h0.size ≤ b1 := Nat.le_trans K0.1 (Nat.le_of_eq g1.symm)
  have Z0 := Nat.le_trans Z0 E1.1
  have K0 := K0.ext E1
  have A_b1 : Ary Z h1 b1 .byte 16 (fun _ => (.int (0 : Int32))) := Ary.new A1 (by decide)
  refine Dn.st st1 ?_
  show Dn p e below s _ _ _ T1 (mkF m 27 #[.val (.long y1), .second, .val (.long y2), .second, .val (.int x3), .val (.int x4), .val (.int nn), .val (.int aa), .unset, .unset, .unset, .unset, .unset, .unset, .unset] [(.ref b1)])
  refine Dn.st (fun t q => XS.astore X1.here hx rfl (hb hby at_27) rfl rfl (l' := #[.val (.long y1), .second, .val (.long y2), .second, .val (.int x3), .val (.int x4), .val (.int nn), .val (.int aa), .val (.ref b1), .unset, .unset, .unset, .unset, .unset, .unset]) rfl q) ?_
  show Dn p e below s _ _ _ T1 (mkF m 29 #[.val (.long y1), .second, .val (.long y2), .second, .val (.int x3), .val (.int x4), .val (.int nn), .val (.int aa), .val (.ref b1), .unset, .unset, .unset, .unset, .unset, .unset] [])
  refine Dn.st (fun t q => XS.aload X1.here hx rfl (hb hby at_29) rfl rfl  q) ?_
  show Dn p e below s _ _ _ T1 (mkF m 31 #[.val (.long y1), .second, .val (.long y2), .second, .val (.int x3), .val (.int x4), .val (.int nn), .val (.int aa), .val (.ref b1), .unset, .unset, .unset, .unset, .unset, .unset] [(.ref b1)])
  refine Dn.st (fun t q => XS.iconst X1.here hx rfl (hb hby at_31) q) ?_
  show Dn p e below s _ _ _ T1 (mkF m 32 #[.val (.long y1), .second, .val (.long y2), .second, .val (.int x3), .val (.int x4), .val (.int nn), .val (.int aa), .val (.ref b1), .unset, .unset, .unset, .unset, .unset, .unset] [(.int (0 : Int32)), (.ref b1)])
  refine Dn.st (fun t q => XS.lloadN X1.here hx rfl (hb hby at_32) rfl  q) ?_
  show Dn p e below s _ _ _ T1 (mkF m 33 #[.val (.long y1), .second, .val (.long y2), .second, .val (.int x3), .val (.int x4), .val (.int nn), .val (.int aa), .val (.ref b1), .unset, .unset, .unset, .unset, .unset, .unset] [(.long y1), (.int (0 : Int32)), (.ref b1)])
  obtain ⟨_, _, ⟨T2, Lq2, kq_2, nq_2⟩, -, X2, ⟨Lc2, hQ2, lq2, yq2, zq2⟩, st2⟩ := Jvm.LawKit.callS X1 hx (y := (⟨"keyfold/ZstdBlockLittleEndianPinLaw", "fill", "([BIJ)V"⟩ : MethodName)) hown (mvT hZ (hw _ (List.mem_of_getElem? (i := 2) rfl))) (mvT hZ (hw _ (List.mem_of_getElem? (i := 3) rfl))) (mvT hZ (hw _ (List.mem_of_getElem? (i := 4) rfl))) (mvT hZ (hw _ (List.mem_of_getElem? (i := 5) rfl))) (by decide) (backOf (W := 0) (rm1 l Z a0 hw [] b1 (0 : Int32) y1 (fun _ => (0 : Int32)) 0 h1 n0 Z0 A_b1 g_b1 rfl (by decide)) hZ (hw _ (List.mem_of_getElem? (i := 5) rfl)) (hw _ (List.mem_of_getElem? (i := 4) rfl)) (by decide) (by decide)) (g := (mkF m 33 #[.val (.long y1), .second, .val (.long y2), .second, .val (.int x3), .val (.int x4), .val (.int nn), .val (.int aa), .val (.ref b1), .unset, .unset, .unset, .unset, .unset, .unset] [(.long y1), (.int (0 : Int32)), (.ref b1)])) rfl (by rw [hml]; rfl) (argsL := [(.ref b1), (.int (0 : Int32)), (.long y1)]) (rest := []) (lenOf pd_0 rfl) rfl (by show 2 * 0 + _ ≤ _; exact Nat.le_of_eq rfl) (hb hby at_33) (fun _ _ => ⟨rfl, e1, (by decide : 1 + 0 ≤ _), (by decide : 16 + 0 ≤ _)⟩)
  dsimp only [Pt.U, Pt.locs, Pt.cells, Pt.slots] at X2 lq2 yq2 zq2 st2 hQ2
  subst lq2 yq2 zq2
  obtain ⟨rfl, N2q, K2, A_b1⟩ := hQ2
  have N0 := Fr.app N0 N2q
  have Z0 := Nat.le_trans Z0 K2.1
  have K0 := K0.trans K2 (allS (Or.inr sz_b1) all0)
  refine Dn.st st2 ?_
  show Dn p e below s _ _ _ T2 (mkF m 36 #[.val (.long y1), .second, .val (.long y2), .second, .val (.int x3), .val (.int x4), .val (.int nn), .val (.int aa), .val (.ref b1), .unset, .unset, .unset, .unset, .unset, .unset] [])
  refine Dn.st (fun t q => XS.aload X2.here hx rfl (hb hby at_36) rfl rfl  q) ?_
  show Dn p e below s _ _ _ T2 (mkF m 38 #[.val (.long y1), .second, .val (.long y2), .second, .val (.int x3), .val (.int x4), .val (.int nn), .val (.int aa), .val (.ref b1), .unset, .unset, .unset, .unset, .unset, .unset] [(.ref b1)])
  refine Dn.st (fun t q => XS.bipush X2.here hx rfl (hb hby at_38) q) ?_
  show Dn p e below s _ _ _ T2 (mkF m 40 #[.val (.long y1), .second, .val (.long y2), .second, .val (.int x3), .val (.int x4), .val (.int nn), .val (.int aa), .val (.ref b1), .unset, .unset, .unset, .unset, .unset, .unset] [(.int (8 : Int32)), (.ref b1)])
  refine Dn.st (fun t q => XS.lloadN X2.here hx rfl (hb hby at_40) rfl  q) ?_
  show Dn p e below s _ _ _ T2 (mkF m 41 #[.val (.long y1), .second, .val (.long y2), .second, .val (.int x3), .val (.int x4), .val (.int nn), .val (.int aa), .val (.ref b1), .unset, .unset, .unset, .unset, .unset, .unset] [(.long y2), (.int (8 : Int32)), (.ref b1)])
  obtain ⟨_, _, ⟨T3, Lq3, kq_3, nq_3⟩, -, X3, ⟨Lc3, hQ3, lq3, yq3, zq3⟩, st3⟩ := Jvm.LawKit.callS X2 hx (y := (⟨"keyfold/ZstdBlockLittleEndianPinLaw", "fill", "([BIJ)V"⟩ : MethodName)) hown (mvT hZ (hw _ (List.mem_of_getElem? (i := 2) rfl))) (mvT hZ (hw _ (List.mem_of_getElem? (i := 3) rfl))) (mvT hZ (hw _ (List.mem_of_getElem? (i := 4) rfl))) (mvT hZ (hw _ (List.mem_of_getElem? (i := 5) rfl))) (by decide) (backOf (W := 0) (rm1 l Z a0 hw [] b1 (8 : Int32) y2 (own_fl 0 y1 (fun _ => (0 : Int32)) 8) 8 T2.heap n0 Z0 A_b1 g_b1 rfl (by decide)) hZ (hw _ (List.mem_of_getElem? (i := 5) rfl)) (hw _ (List.mem_of_getElem? (i := 4) rfl)) (by decide) (by decide)) (g := (mkF m 41 #[.val (.long y1), .second, .val (.long y2), .second, .val (.int x3), .val (.int x4), .val (.int nn), .val (.int aa), .val (.ref b1), .unset, .unset, .unset, .unset, .unset, .unset] [(.long y2), (.int (8 : Int32)), (.ref b1)])) rfl (by rw [hml]; rfl) (argsL := [(.ref b1), (.int (8 : Int32)), (.long y2)]) (rest := []) (lenOf pd_0 rfl) rfl (by show 2 * 0 + _ ≤ _; exact Nat.le_of_eq rfl) (hb hby at_41) (fun _ _ => ⟨rfl, rfl, (by decide : 1 + 0 ≤ _), (by decide : 16 + 0 ≤ _)⟩)
  dsimp only [Pt.U, Pt.locs, Pt.cells, Pt.slots] at X3 lq3 yq3 zq3 st3 hQ3
  subst lq3 yq3 zq3
  obtain ⟨rfl, N3q, K3, A_b1⟩ := hQ3
  have N0 := Fr.app N0 N3q
  have Z0 := Nat.le_trans Z0 K3.1
  have K0 := K0.trans K3 (allS (Or.inr sz_b1) all0)
  refine Dn.st st3 ?_
  show Dn p e below s _ _ _ T3 (mkF m 44 #[.val (.long y1), .second, .val (.long y2), .second, .val (.int x3), .val (.int x4), .val (.int nn), .val (.int aa), .val (.ref b1), .unset, .unset, .unset, .unset, .unset, .unset] [])
  refine Dn.st (fun t q => XS.aload X3.here hx rfl (hb hby at_44) rfl rfl  q) ?_
  show Dn p e below s _ _ _ T3 (mkF m 46 #[.val (.long y1), .second, .val (.long y2), .second, .val (.int x3), .val (.int x4), .val (.int nn), .val (.int aa), .val (.ref b1), .unset, .unset, .unset, .unset, .unset, .unset] [(.ref b1)])
  refine Dn.st (fun t q => XS.iload X3.here hx rfl (hb hby at_46) rfl  q) ?_
  show Dn p e below s _ _ _ T3 (mkF m 48 #[.val (.long y1), .second, .val (.long y2), .second, .val (.int x3), .val (.int x4), .val (.int nn), .val (.int aa), .val (.ref b1), .unset, .unset, .unset, .unset, .unset, .unset] [(.int aa), (.ref b1)])
  refine Dn.st (fun t q => XS.iload X3.here hx rfl (hb hby at_48) rfl  q) ?_
  show Dn p e below s _ _ _ T3 (mkF m 50 #[.val (.long y1), .second, .val (.long y2), .second, .val (.int x3), .val (.int x4), .val (.int nn), .val (.int aa), .val (.ref b1), .unset, .unset, .unset, .unset, .unset, .unset] [(.int nn), (.int aa), (.ref b1)])
  obtain ⟨_, _, ⟨T4, Lq4, kq_4, nq_4⟩, -, X4, ⟨Lc4, hQ4, lq4, yq4, zq4⟩, st4⟩ := Jvm.LawKit.callS X3 hx (y := (⟨"keyfold/ZstdBlock", "littleEndian", "([BII)J"⟩ : MethodName)) hown (mvT hZ (hw _ (List.mem_of_getElem? (i := 6) rfl))) (mvT hZ (hw _ (List.mem_of_getElem? (i := 7) rfl))) (mvT hZ (hw _ (List.mem_of_getElem? (i := 8) rfl))) (mvT hZ (hw _ (List.mem_of_getElem? (i := 9) rfl))) (by decide) (backOf (W := 0) (rm2 l Z a0 hw [] b1 aa nn (own_fl 8 y2 (own_fl 0 y1 (fun _ => (0 : Int32)) 8) 8) o k T3.heap n0 Z0 A_b1 ho hk (by omega)) hZ (hw _ (List.mem_of_getElem? (i := 9) rfl)) (hw _ (List.mem_of_getElem? (i := 8) rfl)) (by decide) (by decide)) (g := (mkF m 50 #[.val (.long y1), .second, .val (.long y2), .second, .val (.int x3), .val (.int x4), .val (.int nn), .val (.int aa), .val (.ref b1), .unset, .unset, .unset, .unset, .unset, .unset] [(.int nn), (.int aa), (.ref b1)])) rfl (by rw [hml]; rfl) (argsL := [(.ref b1), (.int aa), (.int nn)]) (rest := []) (lenOf pd_1 rfl) rfl (by show 2 * 0 + _ ≤ _; exact Nat.le_of_eq rfl) (hb hby at_50) (fun _ _ => ⟨rfl, rfl, (by decide : 1 + 0 ≤ _), (by decide : 16 + 0 ≤ _)⟩)
  dsimp only [Pt.U, Pt.locs, Pt.cells, Pt.slots] at X4 lq4 yq4 zq4 st4 hQ4
  subst lq4 yq4 zq4
  obtain ⟨rfl, N4q, hq4⟩ := hQ4
  have N0 := Fr.app N0 N4q
  have e4 : T4.heap = T3.heap := hq4
  refine Dn.st st4 ?_
  show Dn p e below s _ _ _ T4 (mkF m 53 #[.val (.long y1), .second, .val (.long y2), .second, .val (.int x3), .val (.int x4), .val (.int nn), .val (.int aa), .val (.ref b1), .unset, .unset, .unset, .unset, .unset, .unset] [(.long (own_le (own_fl 8 y2 (own_fl 0 y1 (fun _ => (0 : Int32)) 8) 8) o k 0))])
  refine Dn.st (fun t q => XS.lstore X4.here hx rfl (hb hby at_53) rfl (l' := #[.val (.long y1), .second, .val (.long y2), .second, .val (.int x3), .val (.int x4), .val (.int nn), .val (.int aa), .val (.ref b1), .val (.long (own_le (own_fl 8 y2 (own_fl 0 y1 (fun _ => (0 : Int32)) 8) 8) o k 0)), .second, .unset, .unset, .unset, .unset]) rfl q) ?_
  show Dn p e below s _ _ _ T4 (mkF m 55 #[.val (.long y1), .second, .val (.long y2), .second, .val (.int x3), .val (.int x4), .val (.int nn), .val (.int aa), .val (.ref b1), .val (.long (own_le (own_fl 8 y2 (own_fl 0 y1 (fun _ => (0 : Int32)) 8) 8) o k 0)), .second, .unset, .unset, .unset, .unset] [])
  refine Dn.st (fun t q => XS.lloadN X4.here hx rfl (hb hby at_55) rfl  q) ?_
  show Dn p e below s _ _ _ T4 (mkF m 56 #[.val (.long y1), .second, .val (.long y2), .second, .val (.int x3), .val (.int x4), .val (.int nn), .val (.int aa), .val (.ref b1), .val (.long (own_le (own_fl 8 y2 (own_fl 0 y1 (fun _ => (0 : Int32)) 8) 8) o k 0)), .second, .unset, .unset, .unset, .unset] [(.long y1)])
  refine Dn.st (fun t q => XS.lloadN X4.here hx rfl (hb hby at_56) rfl  q) ?_
  show Dn p e below s _ _ _ T4 (mkF m 57 #[.val (.long y1), .second, .val (.long y2), .second, .val (.int x3), .val (.int x4), .val (.int nn), .val (.int aa), .val (.ref b1), .val (.long (own_le (own_fl 8 y2 (own_fl 0 y1 (fun _ => (0 : Int32)) 8) 8) o k 0)), .second, .unset, .unset, .unset, .unset] [(.long y2), (.long y1)])
  refine Dn.st (fun t q => XS.iload X4.here hx rfl (hb hby at_57) rfl  q) ?_
  show Dn p e below s _ _ _ T4 (mkF m 59 #[.val (.long y1), .second, .val (.long y2), .second, .val (.int x3), .val (.int x4), .val (.int nn), .val (.int aa), .val (.ref b1), .val (.long (own_le (own_fl 8 y2 (own_fl 0 y1 (fun _ => (0 : Int32)) 8) 8) o k 0)), .second, .unset, .unset, .unset, .unset] [(.int aa), (.long y2), (.long y1)])
  obtain ⟨_, _, ⟨T5, Lq5, kq_5, nq_5⟩, -, X5, ⟨Lc5, hQ5, lq5, yq5, zq5⟩, st5⟩ := Jvm.LawKit.callS X4 hx (y := (⟨"keyfold/ZstdBlockLittleEndianPinLaw", "window", "(JJI)J"⟩ : MethodName)) hown (mvT hZ (hw _ (List.mem_of_getElem? (i := 10) rfl))) (mvT hZ (hw _ (List.mem_of_getElem? (i := 11) rfl))) (mvT hZ (hw _ (List.mem_of_getElem? (i := 4) rfl))) (mvT hZ (hw _ (List.mem_of_getElem? (i := 12) rfl))) (by decide) (backOf (W := 0) (rm3 l Z a0 hw [] y1 y2 aa  T3.heap n0 Z0 ) hZ (hw _ (List.mem_of_getElem? (i := 12) rfl)) (hw _ (List.mem_of_getElem? (i := 4) rfl)) (by decide) (by decide)) (g := (mkF m 59 #[.val (.long y1), .second, .val (.long y2), .second, .val (.int x3), .val (.int x4), .val (.int nn), .val (.int aa), .val (.ref b1), .val (.long (own_le (own_fl 8 y2 (own_fl 0 y1 (fun _ => (0 : Int32)) 8) 8) o k 0)), .second, .unset, .unset, .unset, .unset] [(.int aa), (.long y2), (.long y1)])) rfl (by rw [hml]; rfl) (argsL := [(.long y1), (.long y2), (.int aa)]) (rest := []) (lenOf pd_2 rfl) rfl (by show 2 * 0 + _ ≤ _; exact Nat.le_of_eq rfl) (hb hby at_59) (fun _ _ => ⟨rfl, e4, (by decide : 1 + 0 ≤ _), (by decide : 16 + 0 ≤ _)⟩)
  dsimp only [Pt.U, Pt.locs, Pt.cells, Pt.slots] at X5 lq5 yq5 zq5 st5 hQ5
  subst lq5 yq5 zq5
  obtain ⟨rfl, N5q, hq5⟩ := hQ5
  have N0 := Fr.app N0 N5q
  have e5 : T5.heap = T3.heap := hq5
  refine Dn.st st5 ?_
  show Dn p e below s _ _ _ T5 (mkF m 62 #[.val (.long y1), .second, .val (.long y2), .second, .val (.int x3), .val (.int x4), .val (.int nn), .val (.int aa), .val (.ref b1), .val (.long (own_le (own_fl 8 y2 (own_fl 0 y1 (fun _ => (0 : Int32)) 8) 8) o k 0)), .second, .unset, .unset, .unset, .unset] [(.long (own_win y1 y2 aa))])
  refine Dn.st (fun t q => XS.lstore X5.here hx rfl (hb hby at_62) rfl (l' := #[.val (.long y1), .second, .val (.long y2), .second, .val (.int x3), .val (.int x4), .val (.int nn), .val (.int aa), .val (.ref b1), .val (.long (own_le (own_fl 8 y2 (own_fl 0 y1 (fun _ => (0 : Int32)) 8) 8) o k 0)), .second, .val (.long (own_win y1 y2 aa)), .second, .unset, .unset]) rfl q) ?_
  show Dn p e below s _ _ _ T5 (mkF m 64 #[.val (.long y1), .second, .val (.long y2), .second, .val (.int x3), .val (.int x4), .val (.int nn), .val (.int aa), .val (.ref b1), .val (.long (own_le (own_fl 8 y2 (own_fl 0 y1 (fun _ => (0 : Int32)) 8) 8) o k 0)), .second, .val (.long (own_win y1 y2 aa)), .second, .unset, .unset] [])
  refine Dn.st (fun t q => XS.iload X5.here hx rfl (hb hby at_64) rfl  q) ?_
  show Dn p e below s _ _ _ T5 (mkF m 66 #[.val (.long y1), .second, .val (.long y2), .second, .val (.int x3), .val (.int x4), .val (.int nn), .val (.int aa), .val (.ref b1), .val (.long (own_le (own_fl 8 y2 (own_fl 0 y1 (fun _ => (0 : Int32)) 8) 8) o k 0)), .second, .val (.long (own_win y1 y2 aa)), .second, .unset, .unset] [(.int nn)])
  refine Dn.st (fun t q => XS.bipush X5.here hx rfl (hb hby at_66) q) ?_
  show Dn p e below s _ _ _ T5 (mkF m 68 #[.val (.long y1), .second, .val (.long y2), .second, .val (.int x3), .val (.int x4), .val (.int nn), .val (.int aa), .val (.ref b1), .val (.long (own_le (own_fl 8 y2 (own_fl 0 y1 (fun _ => (0 : Int32)) 8) 8) o k 0)), .second, .val (.long (own_win y1 y2 aa)), .second, .unset, .unset] [(.int (8 : Int32)), (.int nn)])
  by_cases c8 : nn = (8 : Int32)
  · refine Dn.st (fun t q => XS.icmpNo X5.here hx rfl (hb hby at_68) rfl (teq c8).2 q) ?_
    show Dn p e below s _ _ _ T5 (mkF m 71 #[.val (.long y1), .second, .val (.long y2), .second, .val (.int x3), .val (.int x4), .val (.int nn), .val (.int aa), .val (.ref b1), .val (.long (own_le (own_fl 8 y2 (own_fl 0 y1 (fun _ => (0 : Int32)) 8) 8) o k 0)), .second, .val (.long (own_win y1 y2 aa)), .second, .unset, .unset] [])
    refine Dn.st (fun t q => XS.lload X5.here hx rfl (hb hby at_71) rfl  q) ?_
    show Dn p e below s _ _ _ T5 (mkF m 73 #[.val (.long y1), .second, .val (.long y2), .second, .val (.int x3), .val (.int x4), .val (.int nn), .val (.int aa), .val (.ref b1), .val (.long (own_le (own_fl 8 y2 (own_fl 0 y1 (fun _ => (0 : Int32)) 8) 8) o k 0)), .second, .val (.long (own_win y1 y2 aa)), .second, .unset, .unset] [(.long (own_win y1 y2 aa))])
    refine Dn.st (fun t q => XS.goto X5.here hx rfl (pc0 := 73) (pc' := 88) rfl (hb hby at_73) (by decide) (by decide) q) ?_
    show Dn p e below s _ _ _ T5 (mkF m 88 #[.val (.long y1), .second, .val (.long y2), .second, .val (.int x3), .val (.int x4), .val (.int nn), .val (.int aa), .val (.ref b1), .val (.long (own_le (own_fl 8 y2 (own_fl 0 y1 (fun _ => (0 : Int32)) 8) 8) o k 0)), .second, .val (.long (own_win y1 y2 aa)), .second, .unset, .unset] [(.long (own_win y1 y2 aa))])
    refine Dn.st (fun t q => XS.lstore X5.here hx rfl (hb hby at_88) rfl (l' := #[.val (.long y1), .second, .val (.long y2), .second, .val (.int x3), .val (.int x4), .val (.int nn), .val (.int aa), .val (.ref b1), .val (.long (own_le (own_fl 8 y2 (own_fl 0 y1 (fun _ => (0 : Int32)) 8) 8) o k 0)), .second, .val (.long (own_win y1 y2 aa)), .second, .val (.long (own_win y1 y2 aa)), .second]) rfl q) ?_
    show Dn p e below s _ _ _ T5 (mkF m 90 #[.val (.long y1), .second, .val (.long y2), .second, .val (.int x3), .val (.int x4), .val (.int nn), .val (.int aa), .val (.ref b1), .val (.long (own_le (own_fl 8 y2 (own_fl 0 y1 (fun _ => (0 : Int32)) 8) 8) o k 0)), .second, .val (.long (own_win y1 y2 aa)), .second, .val (.long (own_win y1 y2 aa)), .second] [])
    refine Dn.st (fun t q => XS.lload X5.here hx rfl (hb hby at_90) rfl  q) ?_
    show Dn p e below s _ _ _ T5 (mkF m 92 #[.val (.long y1), .second, .val (.long y2), .second, .val (.int x3), .val (.int x4), .val (.int nn), .val (.int aa), .val (.ref b1), .val (.long (own_le (own_fl 8 y2 (own_fl 0 y1 (fun _ => (0 : Int32)) 8) 8) o k 0)), .second, .val (.long (own_win y1 y2 aa)), .second, .val (.long (own_win y1 y2 aa)), .second] [(.long (own_le (own_fl 8 y2 (own_fl 0 y1 (fun _ => (0 : Int32)) 8) 8) o k 0))])
    refine Dn.st (fun t q => XS.lload X5.here hx rfl (hb hby at_92) rfl  q) ?_
    show Dn p e below s _ _ _ T5 (mkF m 94 #[.val (.long y1), .second, .val (.long y2), .second, .val (.int x3), .val (.int x4), .val (.int nn), .val (.int aa), .val (.ref b1), .val (.long (own_le (own_fl 8 y2 (own_fl 0 y1 (fun _ => (0 : Int32)) 8) 8) o k 0)), .second, .val (.long (own_win y1 y2 aa)), .second, .val (.long (own_win y1 y2 aa)), .second] [(.long (own_win y1 y2 aa)), (.long (own_le (own_fl 8 y2 (own_fl 0 y1 (fun _ => (0 : Int32)) 8) 8) o k 0))])
    refine Dn.st (fun t q => XS.lcmp X5.here hx rfl (hb hby at_94) rfl q) ?_
    show Dn p e below s _ _ _ T5 (mkF m 95 #[.val (.long y1), .second, .val (.long y2), .second, .val (.int x3), .val (.int x4), .val (.int nn), .val (.int aa), .val (.ref b1), .val (.long (own_le (own_fl 8 y2 (own_fl 0 y1 (fun _ => (0 : Int32)) 8) 8) o k 0)), .second, .val (.long (own_win y1 y2 aa)), .second, .val (.long (own_win y1 y2 aa)), .second] [(.int (lcmpW (own_le (own_fl 8 y2 (own_fl 0 y1 (fun _ => (0 : Int32)) 8) 8) o k 0) (own_win y1 y2 aa)))])
    refine Dn.st (fun t q => XS.ifNo X5.here hx rfl (hb hby at_95) rfl ((if0 _ _).trans (teq ((lw_eq _ _).mpr (own_fin8 y1 y2 hk ho hok c8))).2) q) ?_
    show Dn p e below s _ _ _ T5 (mkF m 98 #[.val (.long y1), .second, .val (.long y2), .second, .val (.int x3), .val (.int x4), .val (.int nn), .val (.int aa), .val (.ref b1), .val (.long (own_le (own_fl 8 y2 (own_fl 0 y1 (fun _ => (0 : Int32)) 8) 8) o k 0)), .second, .val (.long (own_win y1 y2 aa)), .second, .val (.long (own_win y1 y2 aa)), .second] [])
    refine Dn.st (fun t q => XS.iconst X5.here hx rfl (hb hby at_98) q) ?_
    show Dn p e below s _ _ _ T5 (mkF m 99 #[.val (.long y1), .second, .val (.long y2), .second, .val (.int x3), .val (.int x4), .val (.int nn), .val (.int aa), .val (.ref b1), .val (.long (own_le (own_fl 8 y2 (own_fl 0 y1 (fun _ => (0 : Int32)) 8) 8) o k 0)), .second, .val (.long (own_win y1 y2 aa)), .second, .val (.long (own_win y1 y2 aa)), .second] [(.int (1 : Int32))])
    refine Dn.st (fun t q => XS.goto X5.here hx rfl (pc0 := 99) (pc' := 103) rfl (hb hby at_99) (by decide) (by decide) q) ?_
    show Dn p e below s _ _ _ T5 (mkF m 103 #[.val (.long y1), .second, .val (.long y2), .second, .val (.int x3), .val (.int x4), .val (.int nn), .val (.int aa), .val (.ref b1), .val (.long (own_le (own_fl 8 y2 (own_fl 0 y1 (fun _ => (0 : Int32)) 8) 8) o k 0)), .second, .val (.long (own_win y1 y2 aa)), .second, .val (.long (own_win y1 y2 aa)), .second] [(.int (1 : Int32))])
    exact Dn.retZ X5 hx Bd.notSynchronized (t := .boolean) Bd.returns (by simp) (hb hby at_103) (by rw [e5]; exact ⟨rfl, N0⟩) (by decide) (by decide)
  · refine Dn.st (fun t q => XS.icmpYes X5.here hx rfl (pc0 := 68) (pc' := 76) rfl (hb hby at_68) rfl (feq c8).2 (by decide) (by decide) q) ?_
    show Dn p e below s _ _ _ T5 (mkF m 76 #[.val (.long y1), .second, .val (.long y2), .second, .val (.int x3), .val (.int x4), .val (.int nn), .val (.int aa), .val (.ref b1), .val (.long (own_le (own_fl 8 y2 (own_fl 0 y1 (fun _ => (0 : Int32)) 8) 8) o k 0)), .second, .val (.long (own_win y1 y2 aa)), .second, .unset, .unset] [])
    refine Dn.st (fun t q => XS.lload X5.here hx rfl (hb hby at_76) rfl  q) ?_
    show Dn p e below s _ _ _ T5 (mkF m 78 #[.val (.long y1), .second, .val (.long y2), .second, .val (.int x3), .val (.int x4), .val (.int nn), .val (.int aa), .val (.ref b1), .val (.long (own_le (own_fl 8 y2 (own_fl 0 y1 (fun _ => (0 : Int32)) 8) 8) o k 0)), .second, .val (.long (own_win y1 y2 aa)), .second, .unset, .unset] [(.long (own_win y1 y2 aa))])
    refine Dn.st (fun t q => XS.lconst X5.here hx rfl (hb hby at_78) q) ?_
    show Dn p e below s _ _ _ T5 (mkF m 79 #[.val (.long y1), .second, .val (.long y2), .second, .val (.int x3), .val (.int x4), .val (.int nn), .val (.int aa), .val (.ref b1), .val (.long (own_le (own_fl 8 y2 (own_fl 0 y1 (fun _ => (0 : Int32)) 8) 8) o k 0)), .second, .val (.long (own_win y1 y2 aa)), .second, .unset, .unset] [(.long (1 : Int64)), (.long (own_win y1 y2 aa))])
    refine Dn.st (fun t q => XS.bipush X5.here hx rfl (hb hby at_79) q) ?_
    show Dn p e below s _ _ _ T5 (mkF m 81 #[.val (.long y1), .second, .val (.long y2), .second, .val (.int x3), .val (.int x4), .val (.int nn), .val (.int aa), .val (.ref b1), .val (.long (own_le (own_fl 8 y2 (own_fl 0 y1 (fun _ => (0 : Int32)) 8) 8) o k 0)), .second, .val (.long (own_win y1 y2 aa)), .second, .unset, .unset] [(.int (8 : Int32)), (.long (1 : Int64)), (.long (own_win y1 y2 aa))])
    refine Dn.st (fun t q => XS.iload X5.here hx rfl (hb hby at_81) rfl  q) ?_
    show Dn p e below s _ _ _ T5 (mkF m 83 #[.val (.long y1), .second, .val (.long y2), .second, .val (.int x3), .val (.int x4), .val (.int nn), .val (.int aa), .val (.ref b1), .val (.long (own_le (own_fl 8 y2 (own_fl 0 y1 (fun _ => (0 : Int32)) 8) 8) o k 0)), .second, .val (.long (own_win y1 y2 aa)), .second, .unset, .unset] [(.int nn), (.int (8 : Int32)), (.long (1 : Int64)), (.long (own_win y1 y2 aa))])
    refine Dn.st (fun t q => XS.imul X5.here hx rfl (hb hby at_83) rfl q) ?_
    show Dn p e below s _ _ _ T5 (mkF m 84 #[.val (.long y1), .second, .val (.long y2), .second, .val (.int x3), .val (.int x4), .val (.int nn), .val (.int aa), .val (.ref b1), .val (.long (own_le (own_fl 8 y2 (own_fl 0 y1 (fun _ => (0 : Int32)) 8) 8) o k 0)), .second, .val (.long (own_win y1 y2 aa)), .second, .unset, .unset] [(.int ((8 : Int32) * nn)), (.long (1 : Int64)), (.long (own_win y1 y2 aa))])
    refine Dn.st (fun t q => XS.lshl X5.here hx rfl (hb hby at_84) rfl q) ?_
    show Dn p e below s _ _ _ T5 (mkF m 85 #[.val (.long y1), .second, .val (.long y2), .second, .val (.int x3), .val (.int x4), .val (.int nn), .val (.int aa), .val (.ref b1), .val (.long (own_le (own_fl 8 y2 (own_fl 0 y1 (fun _ => (0 : Int32)) 8) 8) o k 0)), .second, .val (.long (own_win y1 y2 aa)), .second, .unset, .unset] [(.long ((1 : Int64) <<< (((8 : Int32) * nn) &&& 0x3f).toInt64)), (.long (own_win y1 y2 aa))])
    refine Dn.st (fun t q => XS.lconst X5.here hx rfl (hb hby at_85) q) ?_
    show Dn p e below s _ _ _ T5 (mkF m 86 #[.val (.long y1), .second, .val (.long y2), .second, .val (.int x3), .val (.int x4), .val (.int nn), .val (.int aa), .val (.ref b1), .val (.long (own_le (own_fl 8 y2 (own_fl 0 y1 (fun _ => (0 : Int32)) 8) 8) o k 0)), .second, .val (.long (own_win y1 y2 aa)), .second, .unset, .unset] [(.long (1 : Int64)), (.long ((1 : Int64) <<< (((8 : Int32) * nn) &&& 0x3f).toInt64)), (.long (own_win y1 y2 aa))])
    refine Dn.st (fun t q => XS.lsub X5.here hx rfl (hb hby at_86) rfl q) ?_
    show Dn p e below s _ _ _ T5 (mkF m 87 #[.val (.long y1), .second, .val (.long y2), .second, .val (.int x3), .val (.int x4), .val (.int nn), .val (.int aa), .val (.ref b1), .val (.long (own_le (own_fl 8 y2 (own_fl 0 y1 (fun _ => (0 : Int32)) 8) 8) o k 0)), .second, .val (.long (own_win y1 y2 aa)), .second, .unset, .unset] [(.long (((1 : Int64) <<< (((8 : Int32) * nn) &&& 0x3f).toInt64) - (1 : Int64))), (.long (own_win y1 y2 aa))])
    refine Dn.st (fun t q => XS.land X5.here hx rfl (hb hby at_87) rfl q) ?_
    show Dn p e below s _ _ _ T5 (mkF m 88 #[.val (.long y1), .second, .val (.long y2), .second, .val (.int x3), .val (.int x4), .val (.int nn), .val (.int aa), .val (.ref b1), .val (.long (own_le (own_fl 8 y2 (own_fl 0 y1 (fun _ => (0 : Int32)) 8) 8) o k 0)), .second, .val (.long (own_win y1 y2 aa)), .second, .unset, .unset] [(.long ((own_win y1 y2 aa) &&& (((1 : Int64) <<< (((8 : Int32) * nn) &&& 0x3f).toInt64) - (1 : Int64))))])
    refine Dn.st (fun t q => XS.lstore X5.here hx rfl (hb hby at_88) rfl (l' := #[.val (.long y1), .second, .val (.long y2), .second, .val (.int x3), .val (.int x4), .val (.int nn), .val (.int aa), .val (.ref b1), .val (.long (own_le (own_fl 8 y2 (own_fl 0 y1 (fun _ => (0 : Int32)) 8) 8) o k 0)), .second, .val (.long (own_win y1 y2 aa)), .second, .val (.long ((own_win y1 y2 aa) &&& (((1 : Int64) <<< (((8 : Int32) * nn) &&& 0x3f).toInt64) - (1 : Int64)))), .second]) rfl q) ?_
    show Dn p e below s _ _ _ T5 (mkF m 90 #[.val (.long y1), .second, .val (.long y2), .second, .val (.int x3), .val (.int x4), .val (.int nn), .val (.int aa), .val (.ref b1), .val (.long (own_le (own_fl 8 y2 (own_fl 0 y1 (fun _ => (0 : Int32)) 8) 8) o k 0)), .second, .val (.long (own_win y1 y2 aa)), .second, .val (.long ((own_win y1 y2 aa) &&& (((1 : Int64) <<< (((8 : Int32) * nn) &&& 0x3f).toInt64) - (1 : Int64)))), .second] [])
    refine Dn.st (fun t q => XS.lload X5.here hx rfl (hb hby at_90) rfl  q) ?_
    show Dn p e below s _ _ _ T5 (mkF m 92 #[.val (.long y1), .second, .val (.long y2), .second, .val (.int x3), .val (.int x4), .val (.int nn), .val (.int aa), .val (.ref b1), .val (.long (own_le (own_fl 8 y2 (own_fl 0 y1 (fun _ => (0 : Int32)) 8) 8) o k 0)), .second, .val (.long (own_win y1 y2 aa)), .second, .val (.long ((own_win y1 y2 aa) &&& (((1 : Int64) <<< (((8 : Int32) * nn) &&& 0x3f).toInt64) - (1 : Int64)))), .second] [(.long (own_le (own_fl 8 y2 (own_fl 0 y1 (fun _ => (0 : Int32)) 8) 8) o k 0))])
    refine Dn.st (fun t q => XS.lload X5.here hx rfl (hb hby at_92) rfl  q) ?_
    show Dn p e below s _ _ _ T5 (mkF m 94 #[.val (.long y1), .second, .val (.long y2), .second, .val (.int x3), .val (.int x4), .val (.int nn), .val (.int aa), .val (.ref b1), .val (.long (own_le (own_fl 8 y2 (own_fl 0 y1 (fun _ => (0 : Int32)) 8) 8) o k 0)), .second, .val (.long (own_win y1 y2 aa)), .second, .val (.long ((own_win y1 y2 aa) &&& (((1 : Int64) <<< (((8 : Int32) * nn) &&& 0x3f).toInt64) - (1 : Int64)))), .second] [(.long ((own_win y1 y2 aa) &&& (((1 : Int64) <<< (((8 : Int32) * nn) &&& 0x3f).toInt64) - (1 : Int64)))), (.long (own_le (own_fl 8 y2 (own_fl 0 y1 (fun _ => (0 : Int32)) 8) 8) o k 0))])
    refine Dn.st (fun t q => XS.lcmp X5.here hx rfl (hb hby at_94) rfl q) ?_
    show Dn p e below s _ _ _ T5 (mkF m 95 #[.val (.long y1), .second, .val (.long y2), .second, .val (.int x3), .val (.int x4), .val (.int nn), .val (.int aa), .val (.ref b1), .val (.long (own_le (own_fl 8 y2 (own_fl 0 y1 (fun _ => (0 : Int32)) 8) 8) o k 0)), .second, .val (.long (own_win y1 y2 aa)), .second, .val (.long ((own_win y1 y2 aa) &&& (((1 : Int64) <<< (((8 : Int32) * nn) &&& 0x3f).toInt64) - (1 : Int64)))), .second] [(.int (lcmpW (own_le (own_fl 8 y2 (own_fl 0 y1 (fun _ => (0 : Int32)) 8) 8) o k 0) ((own_win y1 y2 aa) &&& (((1 : Int64) <<< (((8 : Int32) * nn) &&& 0x3f).toInt64) - (1 : Int64)))))])
    refine Dn.st (fun t q => XS.ifNo X5.here hx rfl (hb hby at_95) rfl ((if0 _ _).trans (teq ((lw_eq _ _).mpr (own_finl y1 y2 hk ho hok hk9 c8))).2) q) ?_
    show Dn p e below s _ _ _ T5 (mkF m 98 #[.val (.long y1), .second, .val (.long y2), .second, .val (.int x3), .val (.int x4), .val (.int nn), .val (.int aa), .val (.ref b1), .val (.long (own_le (own_fl 8 y2 (own_fl 0 y1 (fun _ => (0 : Int32)) 8) 8) o k 0)), .second, .val (.long (own_win y1 y2 aa)), .second, .val (.long ((own_win y1 y2 aa) &&& (((1 : Int64) <<< (((8 : Int32) * nn) &&& 0x3f).toInt64) - (1 : Int64)))), .second] [])
    refine Dn.st (fun t q => XS.iconst X5.here hx rfl (hb hby at_98) q) ?_
    show Dn p e below s _ _ _ T5 (mkF m 99 #[.val (.long y1), .second, .val (.long y2), .second, .val (.int x3), .val (.int x4), .val (.int nn), .val (.int aa), .val (.ref b1), .val (.long (own_le (own_fl 8 y2 (own_fl 0 y1 (fun _ => (0 : Int32)) 8) 8) o k 0)), .second, .val (.long (own_win y1 y2 aa)), .second, .val (.long ((own_win y1 y2 aa) &&& (((1 : Int64) <<< (((8 : Int32) * nn) &&& 0x3f).toInt64) - (1 : Int64)))), .second] [(.int (1 : Int32))])
    refine Dn.st (fun t q => XS.goto X5.here hx rfl (pc0 := 99) (pc' := 103) rfl (hb hby at_99) (by decide) (by decide) q) ?_
    show Dn p e below s _ _ _ T5 (mkF m 103 #[.val (.long y1), .second, .val (.long y2), .second, .val (.int x3), .val (.int x4), .val (.int nn), .val (.int aa), .val (.ref b1), .val (.long (own_le (own_fl 8 y2 (own_fl 0 y1 (fun _ => (0 : Int32)) 8) 8) o k 0)), .second, .val (.long (own_win y1 y2 aa)), .second, .val (.long ((own_win y1 y2 aa) &&& (((1 : Int64) <<< (((8 : Int32) * nn) &&& 0x3f).toInt64) - (1 : Int64)))), .second] [(.int (1 : Int32))])
    exact Dn.retZ X5 hx Bd.notSynchronized (t := .boolean) Bd.returns (by simp) (hb hby at_103) (by rw [e5]; exact ⟨rfl, N0⟩) (by decide) (by decide)
set_option maxRecDepth 65536 in
set_option maxHeartbeats 40000000 in
theorem comes_1 {Post : Tables → Env → Array Value → State → Outcome → State → Prop} (hpost : ∀ tb e args s v u, (limb_1_1.after args s (.returned v) u = true ∧ limb_1_2.after args s (.returned v) u = true ∧ True) → FrameEnd s (.returned v) u (Jvm.fieldLocs frame_1_writes args s ++ Jvm.arrayLocs frame_1_arrays args s ++ Jvm.staticLocs frame_1_statics s) 16 128 → Post tb e args s (.returned v) u) :
    ArmFor flags0 classFile x code maxLocals ret World_1 tables_1 room_1 Calls_1 rest_1 Pre_1 Post := by
  intro l hfl _ _ p e ha hc hk s m args below hf hA hF happ hP
  obtain ⟨hcalls, hrest, hpre⟩ := hP
  obtain ⟨-, -, -, hnamed, -, -, -, hat⟩ := (Spec.applies_iff hf).mp happ
  obtain ⟨hg, hn⟩ := and_e (Cond.before_iff.mp (show (Jvm.Cond.and given_1 narrow_1).before args s = true from hpre))
  obtain ⟨g1, g2⟩ := and_e hg
  obtain ⟨g3, g4⟩ := and_e g2
  obtain ⟨g5, g6⟩ := and_e g4
  obtain ⟨g7, g8⟩ := and_e g6
  obtain ⟨w0, w1, w2, w3, rfl⟩ : ∃ w0 w1 w2 w3 : Value, args = #[w0, w1, w2, w3] := by
    have hs : args.size = 4 := by simpa [Cond.value, given_1] using g1
    obtain ⟨L⟩ := args
    match L, hs with
    | [w0, w1, w2, w3], _ => exact ⟨w0, w1, w2, w3, rfl⟩
  have hw := fun d (hd : d ∈ tables_1) => atoms_spec (ws := Jvm.Cond.code x code maxLocals ret :: tables_1) hat d (List.mem_cons_of_mem _ hd)
  obtain ⟨i0, ei0⟩ := isL_v g3
  obtain rfl : w0 = (.long i0) := Option.some.inj ei0
  obtain ⟨i1, ei1⟩ := isL_v g5
  obtain rfl : w1 = (.long i1) := Option.some.inj ei1
  obtain ⟨i2, ei2⟩ := is_v g7
  obtain rfl : w2 = (.int i2) := Option.some.inj ei2
  obtain ⟨i3, ei3⟩ := is_v g8
  obtain rfl : w3 = (.int i3) := Option.some.inj ei3
  obtain ⟨n, o, h1, h2, h3, _, L, rfl, ⟨rfl, N⟩, hq⟩ := rm0 l s _ hw tables_1 i0 i1 i2 i3 s.heap s.heap.size (Nat.le_refl _)  p e ha hc hk s m _ below hf ((Spec.applies_iff_loose hf).mp happ).1 ⟨rfl, State.Warmed39.refl s, rfl⟩ trivial
  refine ⟨n, _, h1, h2, h3, hpost _ _ _ _ _ _ ⟨Cond.after_iff.mpr rfl, Cond.after_iff.mpr (eq_i res_at (Term.int_eval (1)) rfl), trivial⟩ ⟨hq.1, hq.2.1, (hq.2.2.sift fun y hy => Or.inr (N y hy)).mono (by decide) (by decide)⟩⟩
theorem main_1_1 : Claimed_1_1 := comes_1 fun _ _ _ _ _ _ h hF => ⟨h.1, hF⟩
theorem main_1_2 : Claimed_1_2 := comes_1 fun _ _ _ _ _ _ h hF => ⟨h.2.1, hF⟩
end Jvm.Pilot.@@N@@
namespace Jvm.Pilot.@@N@@
open Jvm Jvm.ClassFile Sem Op Lib Jvm.Free Jvm.Stand Jvm.Pilot.@@N@@.Jvm.D
/-! MADE BY PROGRAM (witnessworld.py) out of the Statement's table words and the real class files: 9 classes; the members and pool entries that the words name. The judged class is class 1, her method 1. -/
namespace start1
open Jvm.ClassFile
def u (s : String) : CpInfo := .utf8 (stringToUtf16 s)
/-- a pool by its gaps: so many unusable entries, then the entry; so many at the end -/
def gap : Nat → List CpInfo → List CpInfo
  | 0, r => r
  | n + 1, r => .unusable :: gap n r
def poolList (es : List (Nat × CpInfo)) (last : Nat) : List CpInfo := es.foldr (fun e r => gap e.1 (e.2 :: r)) (gap last [])
def pool (es : List (Nat × CpInfo)) (last : Nat) : Array CpInfo := ⟨poolList es last⟩
def fileOf (pool : Array CpInfo) (this : Nat) (attrs : Array Attribute := #[]) (ms : Array MethodInfo := #[]) (fl : Nat := 33) (sup : Nat := 0) (ifs : Array Nat := #[]) (fds : Array FieldInfo := #[]) : ClassFile where
  minorVersion := 0
  majorVersion := 65
  constantPool := pool
  accessFlags := fl
  thisClass := this
  superClass := sup
  interfaces := ifs
  fields := fds
  methods := ms
  attributes := attrs
def plain (name : String) (sup : Option ClassId) : Class where
  name := name
  kind := .ordinary
  loader := none
  accessFlags := 33
  super := sup
  interfaces := #[]
  cf := none
  fields := #[]
  methods := #[]
  instanceTypes := #[]
  staticTypes := #[]
  resolved := #[]
  callSites := []
  init := .initialized
  statics := none
  mirror := none

def pool0 : Array CpInfo := pool [(5, u "<init>"), (0, u "()V"), (1, .class_ 10), (1, u "java/lang/Object")] 113

def k0m0 : Method := { name := "<init>", desc := "()V", sig := { parameters := [], returnType := none }, accessFlags := 1, code := none }
/-- java/lang/Object -/
def k0 : Class := { plain "java/lang/Object" none with
  accessFlags := 33
  interfaces := #[]
  cf := some (fileOf pool0 8 #[] #[{ accessFlags := 1, nameIndex := 5, descriptorIndex := 6, attributes := #[] }] 33 0 #[] #[])
  fields := #[]
  methods := #[k0m0]
  instanceTypes := #[]
  staticTypes := #[]
  resolved := Array.replicate 124 none
  statics := none }

def pool1 : Array CpInfo := pool [(2, .class_ 4), (1, u "java/lang/Object"), (0, u "<init>"), (0, u "()V"), (0, .integer 2147483647), (0, .methodref 9 10), (0, .class_ 11), (0, .nameAndType 12 13), (0, u "keyfold/ZstdBlockLittleEndianPinLaw"), (0, u "fill"), (0, u "([BIJ)V"), (0, .methodref 15 16), (0, .class_ 17), (0, .nameAndType 18 19), (0, u "keyfold/ZstdBlock"), (0, u "littleEndian"), (0, u "([BII)J"), (0, .methodref 9 21), (0, .nameAndType 22 23), (0, u "window"), (0, u "(JJI)J"), (2, u "law"), (0, u "(JJII)Z")] 5

def k1m0 : Method := { name := "<init>", desc := "()V", sig := { parameters := [], returnType := none }, accessFlags := 2, code := none }
def k1c1 : Code := { maxStack := 6, maxLocals := 15, code := code, exceptionTable := #[], attributes := #[] }
def k1m1 : Method := { name := "law", desc := "(JJII)Z", sig := { parameters := [.long, .long, .int, .int], returnType := some .boolean }, accessFlags := 9, code := some k1c1 }
def k1c2 : Code := { maxStack := 5, maxLocals := 4, code := method_3_code, exceptionTable := #[], attributes := #[] }
def k1m2 : Method := { name := "fill", desc := "([BIJ)V", sig := { parameters := [(.array .byte), .int, .long], returnType := none }, accessFlags := 10, code := some k1c2 }
def k1c3 : Code := { maxStack := 7, maxLocals := 5, code := method_4_code, exceptionTable := #[], attributes := #[] }
def k1m3 : Method := { name := "window", desc := "(JJI)J", sig := { parameters := [.long, .long, .int], returnType := some .long }, accessFlags := 10, code := some k1c3 }
/-- keyfold/ZstdBlockLittleEndianPinLaw -/
def k1 : Class := { plain "keyfold/ZstdBlockLittleEndianPinLaw" (some 0) with
  accessFlags := 49
  interfaces := #[]
  cf := some (fileOf pool1 9 #[] #[{ accessFlags := 2, nameIndex := 5, descriptorIndex := 6, attributes := #[] }, { accessFlags := 9, nameIndex := 26, descriptorIndex := 27, attributes := #[] }, { accessFlags := 10, nameIndex := 12, descriptorIndex := 13, attributes := #[] }, { accessFlags := 10, nameIndex := 22, descriptorIndex := 23, attributes := #[] }] 49 2 #[] #[])
  fields := #[]
  methods := #[k1m0, k1m1, k1m2, k1m3]
  instanceTypes := #[]
  staticTypes := #[]
  resolved := Array.replicate 33 none
  statics := none }

def pool2 : Array CpInfo := pool [(2, .class_ 4), (1, u "java/lang/Object"), (0, u "<init>"), (0, u "()V"), (8, .class_ 17), (1, u "keyfold/ZstdBlock"), (8, u "FIRST_OFFSETS"), (0, u "[I"), (4, u "LITERALS_BASE"), (2, u "LITERALS_BITS"), (4, u "MATCH_BASE"), (2, u "MATCH_BITS"), (6, u "LITERAL_CODES"), (2, u "MATCH_CODES"), (0, u "MAX_BYTES"), (0, u "I"), (2, u "LITERALS_LOG"), (1, u "OFFSETS_LOG"), (1, u "MATCHES_LOG"), (0, u "LITERALS_MOST"), (1, u "OFFSETS_MOST"), (1, u "MATCHES_MOST"), (1, u "RAW"), (1, u "RLE"), (1, u "COMPRESSED"), (1, u "PREDEFINED"), (0, u "FSE"), (0, u "JUMPS"), (1, u "SLACK"), (1, u "TABLE_STATES"), (1, u "CODED_LITERALS"), (8, u "littleEndian"), (0, u "([BII)J"), (4, .class_ 99), (0, u "keyfold/ZstdBlock$Encoder"), (0, .class_ 101), (0, u "keyfold/ZstdBlock$Sequences"), (0, .class_ 103), (0, u "keyfold/ZstdBlock$Literals"), (0, .class_ 105), (0, u "keyfold/ZstdBlock$Decoder")] 19

def k2m0 : Method := { name := "<init>", desc := "()V", sig := { parameters := [], returnType := none }, accessFlags := 2, code := none }
def k2c1 : Code := { maxStack := 5, maxLocals := 6, code := prog_97_method_6_code, exceptionTable := #[], attributes := #[] }
def k2m1 : Method := { name := "littleEndian", desc := "([BII)J", sig := { parameters := [(.array .byte), .int, .int], returnType := some .long }, accessFlags := 8, code := some k2c1 }
/-- keyfold/ZstdBlock -/
def k2 : Class := { plain "keyfold/ZstdBlock" (some 0) with
  accessFlags := 48
  interfaces := #[]
  cf := some (fileOf pool2 15 #[.nestMembers #[98, 100, 102, 104]] #[{ accessFlags := 2, nameIndex := 5, descriptorIndex := 6, attributes := #[] }, { accessFlags := 8, nameIndex := 92, descriptorIndex := 93, attributes := #[] }] 48 2 #[] #[{ accessFlags := 24, nameIndex := 54, descriptorIndex := 55, attributes := #[] }, { accessFlags := 24, nameIndex := 26, descriptorIndex := 27, attributes := #[] }, { accessFlags := 26, nameIndex := 32, descriptorIndex := 27, attributes := #[] }, { accessFlags := 26, nameIndex := 35, descriptorIndex := 27, attributes := #[] }, { accessFlags := 26, nameIndex := 40, descriptorIndex := 27, attributes := #[] }, { accessFlags := 26, nameIndex := 43, descriptorIndex := 27, attributes := #[] }, { accessFlags := 26, nameIndex := 58, descriptorIndex := 55, attributes := #[] }, { accessFlags := 26, nameIndex := 60, descriptorIndex := 55, attributes := #[] }, { accessFlags := 26, nameIndex := 62, descriptorIndex := 55, attributes := #[] }, { accessFlags := 26, nameIndex := 63, descriptorIndex := 55, attributes := #[] }, { accessFlags := 26, nameIndex := 65, descriptorIndex := 55, attributes := #[] }, { accessFlags := 26, nameIndex := 67, descriptorIndex := 55, attributes := #[] }, { accessFlags := 26, nameIndex := 69, descriptorIndex := 55, attributes := #[] }, { accessFlags := 26, nameIndex := 71, descriptorIndex := 55, attributes := #[] }, { accessFlags := 26, nameIndex := 73, descriptorIndex := 55, attributes := #[] }, { accessFlags := 26, nameIndex := 75, descriptorIndex := 55, attributes := #[] }, { accessFlags := 26, nameIndex := 76, descriptorIndex := 55, attributes := #[] }, { accessFlags := 26, nameIndex := 77, descriptorIndex := 55, attributes := #[] }, { accessFlags := 24, nameIndex := 79, descriptorIndex := 55, attributes := #[] }, { accessFlags := 26, nameIndex := 81, descriptorIndex := 55, attributes := #[] }, { accessFlags := 26, nameIndex := 83, descriptorIndex := 55, attributes := #[] }, { accessFlags := 26, nameIndex := 50, descriptorIndex := 27, attributes := #[] }, { accessFlags := 26, nameIndex := 53, descriptorIndex := 27, attributes := #[] }])
  fields := #[{ name := "MAX_BYTES", type := .int, accessFlags := 24, slot := 0, constantValue := 0 }, { name := "FIRST_OFFSETS", type := (.array .int), accessFlags := 24, slot := 1, constantValue := 0 }, { name := "LITERALS_BASE", type := (.array .int), accessFlags := 26, slot := 2, constantValue := 0 }, { name := "LITERALS_BITS", type := (.array .int), accessFlags := 26, slot := 3, constantValue := 0 }, { name := "MATCH_BASE", type := (.array .int), accessFlags := 26, slot := 4, constantValue := 0 }, { name := "MATCH_BITS", type := (.array .int), accessFlags := 26, slot := 5, constantValue := 0 }, { name := "LITERALS_LOG", type := .int, accessFlags := 26, slot := 6, constantValue := 0 }, { name := "OFFSETS_LOG", type := .int, accessFlags := 26, slot := 7, constantValue := 0 }, { name := "MATCHES_LOG", type := .int, accessFlags := 26, slot := 8, constantValue := 0 }, { name := "LITERALS_MOST", type := .int, accessFlags := 26, slot := 9, constantValue := 0 }, { name := "OFFSETS_MOST", type := .int, accessFlags := 26, slot := 10, constantValue := 0 }, { name := "MATCHES_MOST", type := .int, accessFlags := 26, slot := 11, constantValue := 0 }, { name := "RAW", type := .int, accessFlags := 26, slot := 12, constantValue := 0 }, { name := "RLE", type := .int, accessFlags := 26, slot := 13, constantValue := 0 }, { name := "COMPRESSED", type := .int, accessFlags := 26, slot := 14, constantValue := 0 }, { name := "PREDEFINED", type := .int, accessFlags := 26, slot := 15, constantValue := 0 }, { name := "FSE", type := .int, accessFlags := 26, slot := 16, constantValue := 0 }, { name := "JUMPS", type := .int, accessFlags := 26, slot := 17, constantValue := 0 }, { name := "SLACK", type := .int, accessFlags := 24, slot := 18, constantValue := 0 }, { name := "TABLE_STATES", type := .int, accessFlags := 26, slot := 19, constantValue := 0 }, { name := "CODED_LITERALS", type := .int, accessFlags := 26, slot := 20, constantValue := 0 }, { name := "LITERAL_CODES", type := (.array .int), accessFlags := 26, slot := 21, constantValue := 0 }, { name := "MATCH_CODES", type := (.array .int), accessFlags := 26, slot := 22, constantValue := 0 }]
  methods := #[k2m0, k2m1]
  instanceTypes := #[]
  staticTypes := #[.int, (.array .int), (.array .int), (.array .int), (.array .int), (.array .int), .int, .int, .int, .int, .int, .int, .int, .int, .int, .int, .int, .int, .int, .int, .int, (.array .int), (.array .int)]
  resolved := Array.replicate 125 none
  statics := none }

def pool3 : Array CpInfo := pool [(1, u "java/lang/Cloneable"), (0, .class_ 1), (0, u "java/lang/Object"), (0, .class_ 3)] 3

/-- java/lang/Cloneable -/
def k3 : Class := { plain "java/lang/Cloneable" (some 0) with
  accessFlags := 1537
  interfaces := #[]
  cf := some (fileOf pool3 2 #[] #[] 1537 4 #[] #[])
  fields := #[]
  methods := #[]
  instanceTypes := #[]
  staticTypes := #[]
  resolved := Array.replicate 8 none
  statics := none }

def pool4 : Array CpInfo := pool [(1, u "java/io/Serializable"), (0, .class_ 1), (0, u "java/lang/Object"), (0, .class_ 3)] 3

/-- java/io/Serializable -/
def k4 : Class := { plain "java/io/Serializable" (some 0) with
  accessFlags := 1537
  interfaces := #[]
  cf := some (fileOf pool4 2 #[] #[] 1537 4 #[] #[])
  fields := #[]
  methods := #[]
  instanceTypes := #[]
  staticTypes := #[]
  resolved := Array.replicate 8 none
  statics := none }

/-- the primitive byte -/
def k5 : Class := { plain "byte" none with kind := .primitive 'B', accessFlags := 0x411 }
/-- [B -/
def k6 : Class := { plain "[B" (some 0) with kind := .array 5 .byte, interfaces := #[3, 4], accessFlags := 1041 }

/-- the primitive int -/
def k7 : Class := { plain "int" none with kind := .primitive 'I', accessFlags := 0x411 }
/-- [I -/
def k8 : Class := { plain "[I" (some 0) with kind := .array 7 .int, interfaces := #[3, 4], accessFlags := 1041 }

def heap : Heap := #[]
def classes : Array Class := #[k0, k1, k2, k3, k4, k5, k6, k7, k8]
def interned : List (Array UInt16 × Addr) := []
def slotsUsed : Nat := 0
def theMethod : MethodId := ⟨1, 1⟩
def args0 : Array Value := #[.long 5, .long 5, .int 5, .int 5]
def aboutOver (below : List Frame) : State where
  vm := { classes := classes, interned := interned.toArray }
  heap := heap
  slotsUsed := slotsUsed
  threads := #[{ frames := .invoking theMethod args0 :: below }]
def below0 : List Frame := [.native { method := ⟨0, 0⟩, args := #[] }]
def about1 : State := aboutOver below0
def p0 : Program := .bare "" "" ""
def e0 : Env := launch0.env 0 0 0
theorem w_frames : about1.frames = Frame.invoking theMethod args0 :: below0 := rfl
set_option maxRecDepth 65536 in
theorem w_args : argsFit about1.vm theMethod args0 = true := by decide +kernel
set_option maxRecDepth 65536 in
theorem w_heap : heapFits about1 = true := by decide +kernel
set_option maxRecDepth 65536 in
theorem w_runnable : about1.curStatus? = some .runnable := by decide +kernel
set_option maxRecDepth 65536 in
theorem w_alone : about1.alone = true := by decide +kernel
set_option maxRecDepth 65536 in
theorem w_named : about1.methodNamed? x = some theMethod := by decide +kernel
set_option maxRecDepth 65536 in
theorem w_hears : about1.hears theMethod below0 = true := by decide +kernel
set_option maxRecDepth 65536 in
theorem w_ripe : about1.ripe theMethod args0 below0 = true := by decide +kernel
theorem w_running : about1.status = .running := rfl
set_option maxRecDepth 65536 in
theorem w_room : about1.hasRoom e0.platform room_1 = true :=
  launch0.hasRoom_least _ room_1 (by decide +kernel) (by decide +kernel) (by decide +kernel) (by decide +kernel) (by decide +kernel) (by decide +kernel)
theorem allAtoms_all (ts : List Jvm.Cond) (a : Array Jvm.Value) (st : Jvm.State) : (allAtoms ts).before a st = ts.all (fun c => c.before a st) := by
  induction ts with
  | nil => rfl
  | cons c t ih =>
    show (Jvm.Cond.and c (allAtoms t)).before a st = _
    rw [Jvm.Cond.before_and, ih, List.all_cons]
def words1 : List Jvm.Cond := Jvm.Cond.code x code maxLocals ret :: tables_1
/-- a 'code' word, met by the world's own term for the bytes: nothing is compared byte by byte -/
theorem code_word {y : MethodName} {bytes : ByteArray} {mx : Nat} {rt : Option FieldType} {a : Array Value} {s : State} {m : MethodId} {meth : Method} {c : Code} (h1 : s.methodNamed? y = some m) (h2 : s.vm.method? m = some meth) (h3 : meth.code = some c) (h4 : c.code = bytes)
    (h5 : (c.maxLocals == mx && c.exceptionTable.isEmpty && decide (c.maxStack ≤ mostOperands) && decide (meth.sig.returnType = rt) && !meth.locks && decide (parseMethodDescriptor y.desc = some meth.sig)) = true) : (Jvm.Cond.code y bytes mx rt).before a s = true := by
  simp only [Bool.and_eq_true, beq_iff_eq, Bool.not_eq_true', decide_eq_true_eq] at h5
  obtain ⟨⟨⟨⟨⟨g1, g2⟩, g3⟩, g4⟩, g5⟩, g6⟩ := h5
  simp [Cond.before, Cond.holds, Cond.value, h1, h2, h3, h4, g1, g2, g3, g4, g5, g6]
def isCode : Jvm.Cond → Bool
  | .code _ _ _ _ => true
  | _ => false
theorem all_split {L : List Jvm.Cond} {P : Jvm.Cond → Bool} (h1 : L.all (fun c => isCode c || P c) = true) (h2 : ∀ c ∈ L.filter isCode, P c = true) : L.all P = true := by
  refine List.all_eq_true.mpr fun c hc => ?_
  have h := List.all_eq_true.mp h1 c hc
  rcases Bool.eq_false_or_eq_true (isCode c) with hi | hi
  · exact h2 c (List.mem_filter.mpr ⟨hc, hi⟩)
  · simpa [hi] using h
set_option maxRecDepth 65536 in
theorem w_c0 : (Jvm.Cond.code x code maxLocals ret).before args0 about1 = true := code_word (m := ⟨1, 1⟩) (meth := k1m1) (c := k1c1) (by decide +kernel) rfl rfl rfl (by decide +kernel)
set_option maxRecDepth 65536 in
theorem w_c1 : (Jvm.Cond.code ({ cls := "keyfold/ZstdBlockLittleEndianPinLaw", name := "fill", desc := "([BIJ)V" } : Jvm.MethodName) method_3_code (4 : Nat) (Option.none : Option Jvm.ClassFile.FieldType)).before args0 about1 = true := code_word (m := ⟨1, 2⟩) (meth := k1m2) (c := k1c2) (by decide +kernel) rfl rfl rfl (by decide +kernel)
set_option maxRecDepth 65536 in
theorem w_c2 : (Jvm.Cond.code ({ cls := "keyfold/ZstdBlock", name := "littleEndian", desc := "([BII)J" } : Jvm.MethodName) prog_97_method_6_code (6 : Nat) (Option.some Jvm.ClassFile.FieldType.long)).before args0 about1 = true := code_word (m := ⟨2, 1⟩) (meth := k2m1) (c := k2c1) (by decide +kernel) rfl rfl rfl (by decide +kernel)
set_option maxRecDepth 65536 in
theorem w_c3 : (Jvm.Cond.code ({ cls := "keyfold/ZstdBlockLittleEndianPinLaw", name := "window", desc := "(JJI)J" } : Jvm.MethodName) method_4_code (5 : Nat) (Option.some Jvm.ClassFile.FieldType.long)).before args0 about1 = true := code_word (m := ⟨1, 3⟩) (meth := k1m3) (c := k1c3) (by decide +kernel) rfl rfl rfl (by decide +kernel)
def codes1 : List Jvm.Cond := [Jvm.Cond.code x code maxLocals ret, Jvm.Cond.code ({ cls := "keyfold/ZstdBlockLittleEndianPinLaw", name := "fill", desc := "([BIJ)V" } : Jvm.MethodName) method_3_code (4 : Nat) (Option.none : Option Jvm.ClassFile.FieldType), Jvm.Cond.code ({ cls := "keyfold/ZstdBlock", name := "littleEndian", desc := "([BII)J" } : Jvm.MethodName) prog_97_method_6_code (6 : Nat) (Option.some Jvm.ClassFile.FieldType.long), Jvm.Cond.code ({ cls := "keyfold/ZstdBlockLittleEndianPinLaw", name := "window", desc := "(JJI)J" } : Jvm.MethodName) method_4_code (5 : Nat) (Option.some Jvm.ClassFile.FieldType.long)]
set_option maxRecDepth 65536 in
theorem codes_eq : words1.filter isCode = codes1 := rfl
theorem w_codes : ∀ c ∈ words1.filter isCode, c.before args0 about1 = true := by
  rw [codes_eq]
  intro c hc
  simp only [codes1, List.mem_cons, List.not_mem_nil, or_false] at hc
  rcases hc with rfl | rfl | rfl | rfl
  · exact w_c0
  · exact w_c1
  · exact w_c2
  · exact w_c3
set_option maxRecDepth 65536 in
theorem w_t1 : words1.all (fun c => isCode c || c.before args0 about1) = true := by decide +kernel
theorem w_tables : (allAtoms (Jvm.Cond.code x code maxLocals ret :: tables_1)).before args0 about1 = true := by
  rw [allAtoms_all]
  show words1.all (fun c => c.before args0 about1) = true
  refine all_split ?_ w_codes
  rw [w_t1]
set_option maxRecDepth 65536 in
theorem w_case : (Jvm.Cond.and given_1 narrow_1).before args0 about1 = true := by decide +kernel
theorem w_applies : (headSpec (Jvm.Cond.code x code maxLocals ret :: tables_1) room_1).applies x e0.platform about1 = true :=
  (Spec.applies_iff w_frames).mpr ⟨w_running, w_runnable, w_alone, w_named, w_hears, w_ripe, w_room, w_tables⟩
theorem atStart : AtStart classFile x code maxLocals ret World_1 tables_1 room_1 Calls_1 rest_1 Pre_1 launch0 p0 e0 about1 theMethod args0 below0 :=
  ⟨lists_1, trivial, launch0.admits_env _ _ _, launch0.least_env, fairChoices_fair.cas, fairChoices_fair.clock, w_frames, w_args, w_heap, w_applies, trivial, trivial, w_case⟩
end start1
theorem witness_1 : WitnessClaimed_1 := ⟨start1.p0, start1.e0, start1.about1, start1.theMethod, start1.args0, start1.below0, start1.atStart⟩
end Jvm.Pilot.@@N@@
