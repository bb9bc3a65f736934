import JvmDerived
import JvmDerived.Pilot.@@N@@Statement
import JvmDerived.Pilot.@@N@@Code
set_option linter.unusedVariables false
set_option linter.unusedSimpArgs false
@@BLOCK:NumsL.lean.txt@@
namespace Jvm.Pilot.@@N@@
open Jvm Jvm.ClassFile Sem Op Lib Jvm.Free Jvm.Stand Jvm.LawKit Jvm.RoadKit Bundle Jvm.Pilot.@@N@@.Jvm.D
/-! THE OWN KIT: a walk in small steps to the body's end -/
/-- from T with the frame g on top the body comes to its end, and what it leaves fulfils Q -/
def Dn (p : Program) (e : Env) (below : List Frame) (s : State) (Q : Option Value → Heap → List Loc → Prop) (k n : Nat) (T : State) (g : JFrame) : Prop :=
  ∃ s₂ o, Steps p.tables e below (T.setTop g) s₂ ∧ s₂.status = .running ∧ Ended s₂ below o ∧ ∃ v L, o = .returned v ∧ Q v s₂.heap L ∧ FrameEnd s o s₂ L k n
section OwnKit
variable {p : Program} {l : Launch} {e : Env} {R : Room} {s : State} {m : MethodId} {args : Array Value} {below : List Frame} {meth : Method} {c : Code} {T T' : State} {locs : List Loc} {cells slots : Nat} {Z : State} {h h' : Heap} {g g' : JFrame} {k n : Nat} {Q : Option Value → Heap → List Loc → Prop}
theorem Dn.st (f : ∀ t, Steps p.tables e below (T'.setTop g') t → Steps p.tables e below (T.setTop g) t) (d : Dn p e below s Q k n T' g') : Dn p e below s Q k n T g := by
  obtain ⟨s₂, o, h1, h2⟩ := d
  exact ⟨s₂, o, f _ h1, h2⟩
theorem Dn.tr (f : Steps p.tables e below (T.setTop g) (T'.setTop g')) (d : Dn p e below s Q k n T' g') : Dn p e below s Q k n T g := by
  obtain ⟨s₂, o, h1, h2⟩ := d
  exact ⟨s₂, o, f.trans h1, h2⟩
theorem Dn.cast (q : g = g') (d : Dn p e below s Q k n T g') : Dn p e below s Q k n T g := q ▸ d
theorem Dn.retI (X : Stand p l e R s m args below meth c T locs cells slots) (hx : p.tables.exec = Jvm.exec) (hk : meth.locks = false) {pc : Nat} {Ls : Array Slot} {z : Int32} {rest : List Value} (hret : meth.sig.returnType = some .int) (hd : decode c.code pc = .ok (.ireturn, 1)) (hQ : Q (some (.int z)) T.heap locs) (hc : cells ≤ k) (hs : slots ≤ n) :
    Dn p e below s Q k n T (mkF m pc Ls (.int z :: rest)) := by
  obtain ⟨fs, hr, hrun, hended, hW, hsame⟩ := X.leave (v := some (.int z)) (fun q => by rw [hret] at q; cases q) hk
  exact ⟨_, _, retOut X hx hret rfl (Or.inl ⟨rfl, Or.inl rfl, z, rfl⟩) hd hr, hrun, hended, _, _, rfl, hQ, ⟨_, rfl⟩, hW, hsame.mono hc hs⟩
theorem Dn.retZ (X : Stand p l e R s m args below meth c T locs cells slots) (hx : p.tables.exec = Jvm.exec) (hk : meth.locks = false) {pc : Nat} {Ls : Array Slot} {z : Int32} {t : FieldType} {rest : List Value} (hret : meth.sig.returnType = some t) (ht : t = .boolean ∨ t = .byte ∨ t = .char ∨ t = .short) (hd : decode c.code pc = .ok (.ireturn, 1)) (hQ : Q (some (.int (nar t z))) T.heap locs) (hc : cells ≤ k) (hs : slots ≤ n) :
    Dn p e below s Q k n T (mkF m pc Ls (.int z :: rest)) := by
  obtain ⟨fs, hr, hrun, hended, hW, hsame⟩ := X.leave (v := some (.int (nar t z))) (fun q => by rw [hret] at q; cases q) hk
  exact ⟨_, _, retN X hx hret ht hd hr, hrun, hended, _, _, rfl, hQ, ⟨_, rfl⟩, hW, hsame.mono hc hs⟩
theorem Dn.retJ (X : Stand p l e R s m args below meth c T locs cells slots) (hx : p.tables.exec = Jvm.exec) (hk : meth.locks = false) {pc : Nat} {Ls : Array Slot} {z : Int64} {rest : List Value} (hret : meth.sig.returnType = some .long) (hd : decode c.code pc = .ok (.lreturn, 1)) (hQ : Q (some (.long z)) T.heap locs) (hc : cells ≤ k) (hs : slots ≤ n) :
    Dn p e below s Q k n T (mkF m pc Ls (.long z :: rest)) := by
  obtain ⟨fs, hr, hrun, hended, hW, hsame⟩ := X.leave (v := some (.long z)) (fun q => by rw [hret] at q; cases q) hk
  exact ⟨_, _, retOut X hx hret rfl (Or.inr (Or.inl ⟨rfl, rfl, z, rfl⟩)) hd hr, hrun, hended, _, _, rfl, hQ, ⟨_, rfl⟩, hW, hsame.mono hc hs⟩
theorem Dn.retA (X : Stand p l e R s m args below meth c T locs cells slots) (hx : p.tables.exec = Jvm.exec) (hk : meth.locks = false) {pc : Nat} {Ls : Array Slot} {a : Addr} {t : FieldType} {rest : List Value} (hret : meth.sig.returnType = some t) (ht : t.isReference = true) (hn : narrow t (.ref a) = .ref a) (hd : decode c.code pc = .ok (.areturn, 1)) (hQ : Q (some (.ref a)) T.heap locs) (hc : cells ≤ k) (hs : slots ≤ n) :
    Dn p e below s Q k n T (mkF m pc Ls (.ref a :: rest)) := by
  obtain ⟨fs, hr, hrun, hended, hW, hsame⟩ := X.leave (v := some (.ref a)) (fun q => by rw [hret] at q; cases q) hk
  exact ⟨_, _, retOut X hx hret hn (Or.inr (Or.inr (Or.inr (Or.inr ⟨rfl, ht, rfl⟩)))) hd hr, hrun, hended, _, _, rfl, hQ, ⟨_, rfl⟩, hW, hsame.mono hc hs⟩
theorem Dn.retV (X : Stand p l e R s m args below meth c T locs cells slots) (hx : p.tables.exec = Jvm.exec) (hk : meth.locks = false) {pc : Nat} {Ls : Array Slot} (hret : meth.sig.returnType = none) (hd : decode c.code pc = .ok (.return_, 1)) (hQ : Q none T.heap locs) (hc : cells ≤ k) (hs : slots ≤ n) :
    Dn p e below s Q k n T (mkF m pc Ls []) := by
  obtain ⟨fs, hr, hrun, hended, hW, hsame⟩ := X.leave (v := none) (fun _ => rfl) hk
  exact ⟨_, _, X.returnOut hx hret hd hr, hrun, hended, _, _, rfl, hQ, ⟨_, rfl⟩, hW, hsame.mono hc hs⟩
theorem own_ne {a b : Addr} {j : Nat} (q : a < j) (r : b = j) : a ≠ b := fun e => absurd (e.trans r) (Nat.ne_of_lt q)
theorem own_ne' {a b : Addr} {j : Nat} (q : a < j) (r : j ≤ b) : a ≠ b := Nat.ne_of_lt (Nat.lt_of_lt_of_le q r)
theorem own_self {s : State} {args : Array Value} {y : MethodName} {n : Nat} (wi : (Jvm.Cond.instantiable y.cls n).before args s = true) (wp : (Jvm.Cond.privateMethod y).before args s = true) (hinst : (Jvm.Cond.instanceMethod y).before args s = true) (hy : y.cls ≠ "java/lang/invoke/MethodHandle" ∧ y.cls ≠ "java/lang/invoke/VarHandle") : (Jvm.Cond.selects y.cls y y).before args s = true := by
  obtain ⟨c, k, h1, h2, -, h4, -⟩ := Jvm.Cond.instantiable_spec wi
  exact selects_self_of_private h1 h2 (Bool.or_eq_false_iff.mp h4).1 (Jvm.Cond.privateMethod_at wp) hinst hy
end OwnKit
/-! ARRAYS BY A FUNCTION: the array at a has n places, place j holds f j -/
def Ary (Z : State) (h : Heap) (a : Addr) (ty : FieldType) (n : Nat) (f : Nat → Value) : Prop := ∃ c : Cell, Arr Z h a c ty ∧ c.slots.size = n ∧ ∀ j, j < n → c.slots[j]? = some (f j)
section OwnAry
variable {p : Program} {l : Launch} {e : Env} {R : Room} {s : State} {m : MethodId} {args : Array Value} {below : List Frame} {meth : Method} {c : Code} {T T' : State} {locs : List Loc} {cells slots : Nat} {Z : State} {h h' : Heap} {a b : Addr} {ty : FieldType} {n i sl : Nat} {f f' : Nat → Value} {v : Value} {ws : List Addr} {j : Int32}
theorem Ary.lt (F : Ary Z h a ty n f) : a < h.size := by obtain ⟨c, A, -⟩ := F; exact A.lt
theorem Ary.ext (F : Ary Z h a ty n f) (E : Ext h h') : Ary Z h' a ty n f := by obtain ⟨c, A, r⟩ := F; exact ⟨c, A.ext E, r⟩
theorem Ary.other (F : Ary Z h b ty n f) (W : Wr h h' a sl v) (q : b ≠ a) : Ary Z h' b ty n f := by obtain ⟨c, A, r⟩ := F; exact ⟨c, A.other W q, r⟩
theorem Ary.keep (F : Ary Z h a ty n f) (K : Keep h h' ws) (q : a ∉ ws) : Ary Z h' a ty n f := by obtain ⟨c, A, r⟩ := F; exact ⟨c, ⟨K.2.1 a c A.1 q, A.2⟩, r⟩
theorem Ary.congr (F : Ary Z h a ty n f) (q : ∀ j, j < n → f' j = f j) : Ary Z h a ty n f' := by obtain ⟨c, A, S, H⟩ := F; exact ⟨c, A, S, fun j hj => by rw [q j hj]; exact H j hj⟩
theorem Ary.new {k : ClassId} {z : Int32} (A : Arr Z h a (newA k ty z) ty) (q : z.toInt = n) : Ary Z h a ty n (fun _ => defaultValue ty) := by
  have e1 : z.toNatClampNeg = n := by simp only [Int32.toNatClampNeg, q]; rfl
  refine ⟨_, A, by rw [sz_new]; exact e1, fun i hi => ?_⟩
  simp [newA, e1, hi]
theorem own_clamp (q : j.toInt = (i : Int)) : j.toNatClampNeg = i := by simp only [Int32.toNatClampNeg, q]; rfl
theorem own_nneg (q : j.toInt = (i : Int)) : ¬ j < 0 := by rw [Int32.lt_iff_toInt_lt, q]; show ¬ (i : Int) < 0; omega
theorem Ary.set (F : Ary Z h a ty n f) (W : Wr h h' a j.toNatClampNeg v) (q : j.toInt = (i : Int)) (hi : i < n) : Ary Z h' a ty n (fun x => if x = i then v else f x) := by
  obtain ⟨c, A, S, H⟩ := F
  rw [own_clamp q] at W
  refine ⟨_, A.same W, by rw [sz_set]; exact S, fun x hx => ?_⟩
  by_cases u : x = i
  · subst u; simp [Cell.setSlot, S, hx]
  · have := H x hx; simp only [Cell.setSlot, u, if_false]
    rw [Array.getElem?_setIfInBounds_ne (Ne.symm u)]; exact this
theorem own_inb {cl : Cell} (S : cl.slots.size = n) (q : j.toInt = (i : Int)) (hi : i < n) : ¬ (j < 0 ∨ cl.slots.size ≤ j.toNatClampNeg) := by
  rw [own_clamp q, S]; exact fun r => r.elim (own_nneg q) (fun z => absurd hi (Nat.not_lt.mpr z))
theorem aLen (X : Stand p l e R s m args below meth c T locs cells slots) (hx : p.tables.exec = Jvm.exec) (hZ : Z.Warmed39 s.vm) (eT : T.heap = h) (F : Ary Z h a ty n f) {g : JFrame} (hg : g.method = m) {rest : List Value} (hs : g.stack = .ref a :: rest) (hd : decode c.code g.pc = .ok (.arraylength, 1)) :
    ∀ t, Steps p.tables e below (T.setTop { g with pc := g.pc + 1, stack := .int (n.toInt32) :: rest }) t → Steps p.tables e below (T.setTop g) t := by
  obtain ⟨cl, A, S, H⟩ := F
  intro t q
  refine X.arraylength hx (by rw [eT]; exact A.1) (State.isArrayOf_alike hZ.alike A.2.1) hg hs hd t ?_
  rw [S]; exact q
theorem aLoadI {w : Nat → Int32} (X : Stand p l e R s m args below meth c T locs cells slots) (hx : p.tables.exec = Jvm.exec) (hZ : Z.Warmed39 s.vm) (eT : T.heap = h) (F : Ary Z h a .int n (fun x => .int (w x))) (q : j.toInt = (i : Int)) (hi : i < n) {g : JFrame} (hg : g.method = m) {rest : List Value} (hs : g.stack = .int j :: .ref a :: rest) (hd : decode c.code g.pc = .ok (.iaload, 1)) :
    ∀ t, Steps p.tables e below (T.setTop { g with pc := g.pc + 1, stack := .int (w i) :: rest }) t → Steps p.tables e below (T.setTop g) t := by
  obtain ⟨cl, A, S, H⟩ := F
  exact X.iaload hx (by rw [eT]; exact A.1) (State.isArrayOf_alike hZ.alike A.2.1) A.2.2 (own_inb S q hi) (by rw [own_clamp q]; exact H i hi) hg hs hd
theorem aLoadJ {w : Nat → Int64} (X : Stand p l e R s m args below meth c T locs cells slots) (hx : p.tables.exec = Jvm.exec) (hZ : Z.Warmed39 s.vm) (eT : T.heap = h) (F : Ary Z h a .long n (fun x => .long (w x))) (q : j.toInt = (i : Int)) (hi : i < n) {g : JFrame} (hg : g.method = m) {rest : List Value} (hs : g.stack = .int j :: .ref a :: rest) (hd : decode c.code g.pc = .ok (.laload, 1)) :
    ∀ t, Steps p.tables e below (T.setTop { g with pc := g.pc + 1, stack := .long (w i) :: rest }) t → Steps p.tables e below (T.setTop g) t := by
  obtain ⟨cl, A, S, H⟩ := F
  exact X.laload hx (by rw [eT]; exact A.1) (State.isArrayOf_alike hZ.alike A.2.1) A.2.2 (own_inb S q hi) (by rw [own_clamp q]; exact H i hi) hg hs hd
theorem aLoadB {w : Nat → Int32} (X : Stand p l e R s m args below meth c T locs cells slots) (hx : p.tables.exec = Jvm.exec) (hZ : Z.Warmed39 s.vm) (eT : T.heap = h) (F : Ary Z h a .byte n (fun x => .int (w x))) (q : j.toInt = (i : Int)) (hi : i < n) {g : JFrame} (hg : g.method = m) {rest : List Value} (hs : g.stack = .int j :: .ref a :: rest) (hd : decode c.code g.pc = .ok (.baload, 1)) :
    ∀ t, Steps p.tables e below (T.setTop { g with pc := g.pc + 1, stack := .int (w i) :: rest }) t → Steps p.tables e below (T.setTop g) t := by
  obtain ⟨cl, A, S, H⟩ := F
  exact X.baloadBytes hx (by rw [eT]; exact A.1) (State.isArrayOf_alike hZ.alike A.2.1) A.2.2 (own_inb S q hi) (by rw [own_clamp q]; exact H i hi) hg hs hd
theorem aStoI (X : Stand p l e R s m args below meth c T locs cells slots) (hx : p.tables.exec = Jvm.exec) (hZ : Z.Warmed39 s.vm) (eT : T.heap = h) (F : Ary Z h a .int n f) {x : Int32} (q : j.toInt = (i : Int)) (hi : i < n) {g : JFrame} (hg : g.method = m) {rest : List Value} (hs : g.stack = .int x :: .int j :: .ref a :: rest) (hd : decode c.code g.pc = .ok (.iastore, 1)) :
    ∃ T' h', Stand p l e R s m args below meth c T' (locs ++ [⟨a, j.toNatClampNeg⟩]) cells slots ∧ T'.heap = h' ∧ Wr h h' a j.toNatClampNeg (.int x) ∧ Ary Z h' a .int n (fun y => if y = i then .int x else f y) ∧ ∀ t, Steps p.tables e below (T'.setTop { g with pc := g.pc + 1, stack := rest }) t → Steps p.tables e below (T.setTop g) t := by
  obtain ⟨cl, A, S, H⟩ := id F
  obtain ⟨T', h', X', e', W, st⟩ := stI X hx hZ eT A (own_inb S q hi) hg hs hd
  exact ⟨T', h', X', e', W, F.set W q hi, st⟩
theorem aStoJ (X : Stand p l e R s m args below meth c T locs cells slots) (hx : p.tables.exec = Jvm.exec) (hZ : Z.Warmed39 s.vm) (eT : T.heap = h) (F : Ary Z h a .long n f) {x : Int64} (q : j.toInt = (i : Int)) (hi : i < n) {g : JFrame} (hg : g.method = m) {rest : List Value} (hs : g.stack = .long x :: .int j :: .ref a :: rest) (hd : decode c.code g.pc = .ok (.lastore, 1)) :
    ∃ T' h', Stand p l e R s m args below meth c T' (locs ++ [⟨a, j.toNatClampNeg⟩]) cells slots ∧ T'.heap = h' ∧ Wr h h' a j.toNatClampNeg (.long x) ∧ Ary Z h' a .long n (fun y => if y = i then .long x else f y) ∧ ∀ t, Steps p.tables e below (T'.setTop { g with pc := g.pc + 1, stack := rest }) t → Steps p.tables e below (T.setTop g) t := by
  obtain ⟨cl, A, S, H⟩ := id F
  obtain ⟨T', h', X', e', W, st⟩ := stJ X hx hZ eT A (own_inb S q hi) hg hs hd
  exact ⟨T', h', X', e', W, F.set W q hi, st⟩
theorem aStoB (X : Stand p l e R s m args below meth c T locs cells slots) (hx : p.tables.exec = Jvm.exec) (hZ : Z.Warmed39 s.vm) (eT : T.heap = h) (F : Ary Z h a .byte n f) {x : Int32} (q : j.toInt = (i : Int)) (hi : i < n) {g : JFrame} (hg : g.method = m) {rest : List Value} (hs : g.stack = .int x :: .int j :: .ref a :: rest) (hd : decode c.code g.pc = .ok (.bastore, 1)) :
    ∃ T' h', Stand p l e R s m args below meth c T' (locs ++ [⟨a, j.toNatClampNeg⟩]) cells slots ∧ T'.heap = h' ∧ Wr h h' a j.toNatClampNeg (.int (nar .byte x)) ∧ Ary Z h' a .byte n (fun y => if y = i then .int (nar .byte x) else f y) ∧ ∀ t, Steps p.tables e below (T'.setTop { g with pc := g.pc + 1, stack := rest }) t → Steps p.tables e below (T.setTop g) t := by
  obtain ⟨cl, A, S, H⟩ := id F
  obtain ⟨T', h', X', e', W, st⟩ := stB X hx hZ eT A (own_inb S q hi) hg hs hd
  exact ⟨T', h', X', e', W, F.set W q hi, st⟩
theorem aCloneI {w : Nat → Int32} {a0 : Array Value} {own : String} {index : Nat} (X : Stand p l e R s m args below meth c T locs cells slots) (hx : p.tables.exec = Jvm.exec) (hZ : Z.Warmed39 s.vm) (hown : s.vm.findClass own = some m.cls)
    (w1 : (Jvm.Cond.methodLink own index ⟨"[I", "clone", "()Ljava/lang/Object;"⟩).before a0 Z = true) (w2 : (Jvm.Cond.sameMethod "[I" "java/lang/Object" "clone" "()Ljava/lang/Object;").before a0 Z = true) (w3 : (Jvm.Cond.native ⟨"java/lang/Object", "clone", "()Ljava/lang/Object;"⟩).before a0 Z = true)
    (w4 : (Jvm.Cond.instanceMethod ⟨"java/lang/Object", "clone", "()Ljava/lang/Object;"⟩).before a0 Z = true) (w5 : (Jvm.Cond.selects "[I" ⟨"[I", "clone", "()Ljava/lang/Object;"⟩ ⟨"java/lang/Object", "clone", "()Ljava/lang/Object;"⟩).before a0 Z = true) (w6 : (Jvm.Cond.castable "[I" "java/lang/Cloneable").before a0 Z = true)
    (eT : T.heap = h) (F : Ary Z h a .int n (fun x => .int (w x))) (E : Exa Z h a "[I") {g : JFrame} (hg : g.method = m) (hsize : g.locals.size = c.maxLocals) {rest : List Value} (hs : g.stack = .ref a :: rest) (hd : decode c.code g.pc = .ok (.invokevirtual index, 3))
    (hf : 1 ≤ R.frames) {W cap : Nat} (hW : 2 * g.monitorRoom + (rest.map fun v => v.category).sum ≤ W) (hl : W + 14 ≤ R.locals) (hcap : n ≤ cap) (hc : cells + 1 ≤ R.cells) (hsl : slots + cap ≤ R.slots) :
    ∃ T' h', Stand p l e R s m args below meth c T' locs (cells + 1) (slots + cap) ∧ T'.heap = h' ∧ Ext h h' ∧ Ary Z h' h.size .int n (fun x => .int (w x)) ∧ Exa Z h' h.size "[I" ∧
      ∀ t, Steps p.tables e below (T'.setTop { g with pc := g.pc + 3, stack := .ref h.size :: rest }) t → Steps p.tables e below (T.setTop g) t := by
  obtain ⟨cl, A, S, H⟩ := F
  have FC : FitC Z cl := fitC_of A fun i hi v hv => by rw [H i (by rw [← S]; exact hi)] at hv; cases hv; rfl
  obtain ⟨T', h', X', e', ex, A', E', st⟩ := cloneA X hx hZ hown w1 w2 w3 w4 w5 w6 eT A E FC hg hsize hs hd hf hW hl (by rw [S]; exact hcap) hc hsl
  exact ⟨T', h', X', e', ex, ⟨cloneOf cl, A', S, H⟩, E', st⟩
end OwnAry
theorem own_ix {x k : Int32} {o i : Nat} (hx : x.toInt = (o : Int)) (hk : k.toInt = (i : Int)) (hb : o + i < 2147483648) : (x + k).toInt = ((o + i : Nat) : Int) := by
  rw [Jvm.Kit.i32_add (by omega) (by omega), hx, hk]; omega
theorem own_ofNat {x : Int32} {n : Nat} (h : x.toInt = (n : Int)) : x = Int32.ofNat n := by
  have hn : n < 2 ^ 31 := by have := x.toInt_lt; omega
  exact Int32.toInt_inj.mp (h.trans (Int32.toInt_ofNat_of_lt hn).symm)
theorem own_toN {n : Nat} (h : n < 2147483648) : (Int32.ofNat n).toInt = (n : Int) := Int32.toInt_ofNat_of_lt h
/-! counting -/
def own_c (Y : Nat → Nat) (t : Nat) (l : List Nat) : Nat := l.countP (fun j => Y j == t)
def own_ud (Y : Nat → Nat) (j s x : Nat) : Nat := if x = j then s else Y x
theorem own_c_app (Y : Nat → Nat) (t : Nat) (l l' : List Nat) : own_c Y t (l ++ l') = own_c Y t l + own_c Y t l' := List.countP_append
theorem own_c_one (Y : Nat → Nat) (t j : Nat) : own_c Y t [j] = if Y j = t then 1 else 0 := by
  unfold own_c; by_cases h : Y j = t <;> simp [h]
theorem own_c_ud {Y : Nat → Nat} {t j s : Nat} {l : List Nat} (h : j ∉ l) : own_c (own_ud Y j s) t l = own_c Y t l := by
  unfold own_c
  refine List.countP_congr fun x hx => ?_
  have : x ≠ j := fun q => h (q ▸ hx)
  unfold own_ud; rw [if_neg this]
theorem own_c_perm {Y : Nat → Nat} {t : Nat} {l l' : List Nat} (h : l.Perm l') : own_c Y t l = own_c Y t l' := h.countP_eq _
theorem own_c_succ (Y : Nat → Nat) (t k : Nat) : own_c Y t (List.range (k + 1)) = own_c Y t (List.range k) + if Y k = t then 1 else 0 := by
  rw [List.range_succ, own_c_app, own_c_one]
theorem own_c_mono {Y : Nat → Nat} {t : Nat} : ∀ {k m : Nat}, k ≤ m → own_c Y t (List.range k) ≤ own_c Y t (List.range m)
  | k, 0, h => by rw [Nat.le_zero.mp h]; exact Nat.le_refl _
  | k, m + 1, h => by
    rcases Nat.lt_or_eq_of_le h with q | q
    · rw [own_c_succ]; have := own_c_mono (Y := Y) (t := t) (Nat.le_of_lt_succ q); omega
    · rw [q]; exact Nat.le_refl _
/-! the spread -/
def own_nx (H p : Nat) : Nat := if (p + 23) % 32 ≤ H then (p + 23) % 32 else (p + 46) % 32
def own_sg (H : Nat) : Nat → Nat
  | 0 => 0
  | k + 1 => own_nx H (own_sg H k)
theorem own_sg_le : ∀ H, H < 32 → 27 ≤ H → ∀ k, k < 32 → own_sg H k ≤ H := by decide +kernel
theorem own_sg_inj : ∀ H, H < 32 → 27 ≤ H → ∀ k, k < 32 → k ≤ H → ∀ i, i < k → own_sg H i ≠ own_sg H k := by decide +kernel
theorem own_sg_end : ∀ H, H < 32 → 27 ≤ H → own_sg H (H + 1) = 0 := by decide +kernel
theorem own_sg_perm : ∀ H, H < 32 → 27 ≤ H → ((List.range (H + 1)).map (own_sg H)).Perm (List.range (H + 1)) := by decide +kernel
/-! the law's numbers: probabilities P, n of them -/
def own_pp (p : Int32) : Nat := p.toInt.toNat
def own_cn (p : Int32) : Int32 := if p = (-1 : Int32) then (1 : Int32) else p
def own_cz (p : Int32) : Nat := if p = (-1 : Int32) then 1 else own_pp p
def own_sum (f : Nat → Nat) : Nat → Nat
  | 0 => 0
  | s + 1 => own_sum f s + f s
theorem own_sum_mono {f : Nat → Nat} : ∀ {s t : Nat}, s ≤ t → own_sum f s ≤ own_sum f t
  | s, 0, h => by rw [Nat.le_zero.mp h]; exact Nat.le_refl _
  | s, t + 1, h => by
    rcases Nat.lt_or_eq_of_le h with q | q
    · have := own_sum_mono (f := f) (Nat.le_of_lt_succ q); show _ ≤ own_sum f t + f t; omega
    · rw [q]; exact Nat.le_refl _
/-- how many of the first s are -1 -/
def own_m (P : Nat → Int32) : Nat → Nat := own_sum fun t => if P t = (-1 : Int32) then 1 else 0
def own_k (P : Nat → Int32) : Nat → Nat := own_sum fun t => own_pp (P t)
def own_F (P : Nat → Int32) : Nat → Nat := own_sum fun t => own_cz (P t)
def own_ok (P : Nat → Int32) (n : Nat) : Prop := (n = 4 ∨ n = 5) ∧ (∀ t, t < n → P t = (-1 : Int32) ∨ 0 ≤ (P t).toInt) ∧ own_F P n = 32 ∧ own_m P n ≤ 4
theorem own_pp_m1 {p : Int32} (h : p = (-1 : Int32)) : own_pp p = 0 := by subst h; decide
theorem own_F_eq (P : Nat → Int32) : ∀ s, own_F P s = own_k P s + own_m P s
  | 0 => rfl
  | s + 1 => by
    have := own_F_eq P s
    show own_F P s + own_cz (P s) = (own_k P s + own_pp (P s)) + (own_m P s + (if P s = (-1 : Int32) then 1 else 0))
    unfold own_cz
    by_cases h : P s = (-1 : Int32)
    · rw [if_pos h, if_pos h, own_pp_m1 h]; omega
    · rw [if_neg h, if_neg h]; omega
theorem own_cz_le {P : Nat → Int32} {n t : Nat} (h : own_F P n = 32) (ht : t < n) : own_F P t + own_cz (P t) ≤ 32 := by
  rw [← h]; exact own_sum_mono (f := fun t => own_cz (P t)) (show t + 1 ≤ n from ht)
theorem own_cz_val {P : Nat → Int32} {n t : Nat} (h : own_ok P n) (ht : t < n) : own_cn (P t) = Int32.ofNat (own_cz (P t)) := by
  unfold own_cn own_cz
  rcases h.2.1 t ht with q | q
  · rw [if_pos q, if_pos q]; rfl
  · by_cases r : P t = (-1 : Int32)
    · rw [if_pos r, if_pos r]; rfl
    · rw [if_neg r, if_neg r]
      exact own_ofNat (by unfold own_pp; omega)
/-- behind s turns of the first loop: the highest free place H, the table Y -/
def own_J1 (P : Nat → Int32) (n s H : Nat) (Y : Nat → Nat) : Prop := H + own_m P s = 31 ∧ (∀ j, Y j < n) ∧ ∀ t, own_c Y t (List.range' (H + 1) (31 - H)) = if t < s ∧ P t = (-1 : Int32) then 1 else 0
theorem own_m_le {P : Nat → Int32} {n s : Nat} (h : own_ok P n) (hs : s ≤ n) : own_m P s ≤ 4 := Nat.le_trans (own_sum_mono (f := fun t => if P t = (-1 : Int32) then 1 else 0) hs) h.2.2.2
theorem own_J1_0 {P : Nat → Int32} {n : Nat} (h : own_ok P n) : own_J1 P n 0 31 (fun _ => 0) := by
  refine ⟨rfl, fun j => ?_, fun t => ?_⟩
  · rcases h.1 with rfl | rfl
    · exact Nat.succ_pos 3
    · exact Nat.succ_pos 4
  · rw [if_neg (by omega)]; rfl
theorem own_J1_m {P : Nat → Int32} {n s H : Nat} {Y : Nat → Nat} (ho : own_ok P n) (hs : s < n) (h : own_J1 P n s H Y) (hp : P s = (-1 : Int32)) : own_J1 P n (s + 1) (H - 1) (own_ud Y H s) ∧ 27 ≤ H - 1 ∧ H < 32 ∧ 1 ≤ H := by
  obtain ⟨h1, h2, h3⟩ := h
  have em : own_m P (s + 1) = own_m P s + 1 := by show own_m P s + (if P s = (-1 : Int32) then 1 else 0) = _; rw [if_pos hp]
  have hm := own_m_le ho (show s + 1 ≤ n from hs)
  refine ⟨⟨by omega, fun j => ?_, fun t => ?_⟩, by omega, by omega, by omega⟩
  · unfold own_ud; split
    · exact hs
    · exact h2 j
  · have e : List.range' (H - 1 + 1) (31 - (H - 1)) = H :: List.range' (H + 1) (31 - H) := by
      rw [show H - 1 + 1 = H by omega, show 31 - (H - 1) = (31 - H) + 1 by omega]; rfl
    have nin : H ∉ List.range' (H + 1) (31 - H) := by rw [List.mem_range'_1]; omega
    rw [e, show H :: List.range' (H + 1) (31 - H) = [H] ++ List.range' (H + 1) (31 - H) from rfl, own_c_app, own_c_one, own_c_ud nin, h3 t]
    have eH : own_ud Y H s H = s := by unfold own_ud; rw [if_pos rfl]
    rw [eH]
    by_cases q : s = t
    · subst q; rw [if_pos rfl, if_neg (by omega), if_pos ⟨by omega, hp⟩]
    · rw [if_neg q]
      by_cases r : t < s ∧ P t = (-1 : Int32)
      · rw [if_pos r, if_pos ⟨by omega, r.2⟩]
      · rw [if_neg r, if_neg (fun z => r ⟨by omega, z.2⟩)]
theorem own_J1_p {P : Nat → Int32} {n s H : Nat} {Y : Nat → Nat} (h : own_J1 P n s H Y) (hp : ¬ (P s = (-1 : Int32))) : own_J1 P n (s + 1) H Y := by
  obtain ⟨h1, h2, h3⟩ := h
  have em : own_m P (s + 1) = own_m P s := by show own_m P s + (if P s = (-1 : Int32) then 1 else 0) = _; rw [if_neg hp]; rfl
  refine ⟨by omega, h2, fun t => ?_⟩
  rw [h3 t]
  by_cases r : t < s ∧ P t = (-1 : Int32)
  · rw [if_pos r, if_pos ⟨by omega, r.2⟩]
  · rw [if_neg r, if_neg (fun z => r ⟨by
      rcases Nat.lt_or_eq_of_le (Nat.le_of_lt_succ z.1) with q | q
      · exact q
      · exact absurd (q ▸ z.2) hp, z.2⟩)]
/-- in the second loop: i of the s-th symbol's places are laid, k in all -/
def own_J2 (P : Nat → Int32) (n H s i k : Nat) (Y : Nat → Nat) : Prop := k = own_k P s + i ∧ i ≤ own_pp (P s) ∧ (∀ j, Y j < n) ∧ (∀ t, own_c Y t (List.range' (H + 1) (31 - H)) = if t < n ∧ P t = (-1 : Int32) then 1 else 0) ∧ ∀ t, own_c Y t ((List.range k).map (own_sg H)) = if t < s then own_pp (P t) else if t = s then i else 0
theorem own_H {P : Nat → Int32} {n H : Nat} {Y : Nat → Nat} (ho : own_ok P n) (h : own_J1 P n n H Y) : 27 ≤ H ∧ H < 32 ∧ own_k P n = H + 1 := by
  have h1 := h.1; have h4 := ho.2.2.2; have h5 := own_F_eq P n; have h6 := ho.2.2.1
  omega
theorem own_J2_0 {P : Nat → Int32} {n H : Nat} {Y : Nat → Nat} (h : own_J1 P n n H Y) : own_J2 P n H 0 0 0 Y :=
  ⟨rfl, Nat.zero_le _, h.2.1, h.2.2, fun t => by
    rw [if_neg (Nat.not_lt_zero t)]; show 0 = _; split <;> rfl⟩
theorem own_J2_next {P : Nat → Int32} {n H s i k : Nat} {Y : Nat → Nat} (h : own_J2 P n H s i k Y) (hi : i = own_pp (P s)) : own_J2 P n H (s + 1) 0 k Y := by
  obtain ⟨h1, h2, h3, h4, h5⟩ := h
  refine ⟨by show k = own_k P s + own_pp (P s) + 0; omega, Nat.zero_le _, h3, h4, fun t => ?_⟩
  rw [h5 t]
  by_cases q : t < s
  · rw [if_pos q, if_pos (by omega)]
  · rw [if_neg q]
    by_cases r : t = s
    · subst r; rw [if_pos rfl, if_pos (by omega), hi]
    · rw [if_neg r, if_neg (by omega)]; split <;> rfl
theorem own_J2_kle {P : Nat → Int32} {n H s i k : Nat} {Y : Nat → Nat} (h : own_J2 P n H s i k Y) (hs : s < n) (hk : own_k P n = H + 1) (hi : i < own_pp (P s)) : k ≤ H := by
  have h1 := h.1
  have h2 : own_k P (s + 1) ≤ own_k P n := own_sum_mono (f := fun t => own_pp (P t)) hs
  have h3 : own_k P (s + 1) = own_k P s + own_pp (P s) := rfl
  omega
theorem own_J2_lay {P : Nat → Int32} {n H s i k : Nat} {Y : Nat → Nat} (h : own_J2 P n H s i k Y) (hs : s < n) (hH : 27 ≤ H ∧ H < 32 ∧ own_k P n = H + 1) (hi : i < own_pp (P s)) : own_J2 P n H s (i + 1) (k + 1) (own_ud Y (own_sg H k) s) := by
  have hk := own_J2_kle h hs hH.2.2 hi
  obtain ⟨h1, h2, h3, h4, h5⟩ := h
  have hle := own_sg_le H hH.2.1 hH.1 k (by omega)
  refine ⟨by omega, hi, fun j => ?_, fun t => ?_, fun t => ?_⟩
  · unfold own_ud; split
    · exact hs
    · exact h3 j
  · rw [own_c_ud (by rw [List.mem_range'_1]; omega)]; exact h4 t
  · have nin : own_sg H k ∉ (List.range k).map (own_sg H) := by
      rw [List.mem_map]; rintro ⟨i', q1, q2⟩
      exact own_sg_inj H hH.2.1 hH.1 k (by omega) hk i' (List.mem_range.mp q1) q2
    have eH : own_ud Y (own_sg H k) s (own_sg H k) = s := by unfold own_ud; rw [if_pos rfl]
    rw [List.range_succ, List.map_append, own_c_app, own_c_ud nin, h5 t]
    show _ + own_c (own_ud Y (own_sg H k) s) t [own_sg H k] = _
    rw [own_c_one, eH]
    by_cases q : t < s
    · rw [if_pos q, if_pos q, if_neg (by omega)]; rfl
    · rw [if_neg q, if_neg q]
      by_cases r : t = s
      · subst r; rw [if_pos rfl, if_pos rfl, if_pos rfl]
      · rw [if_neg r, if_neg r, if_neg (fun z => r z.symm)]
/-- the table is whole: each symbol as often as its count says -/
def own_Y (P : Nat → Int32) (n : Nat) (Y : Nat → Nat) : Prop := (∀ j, Y j < n) ∧ ∀ t, t < n → own_c Y t (List.range 32) = own_cz (P t)
theorem own_J2_end {P : Nat → Int32} {n H k : Nat} {Y : Nat → Nat} (h : own_J2 P n H n 0 k Y) (hH : 27 ≤ H ∧ H < 32 ∧ own_k P n = H + 1) : own_Y P n Y ∧ own_sg H k = 0 := by
  obtain ⟨h1, h2, h3, h4, h5⟩ := h
  have hk : k = H + 1 := by omega
  subst hk
  refine ⟨⟨h3, fun t ht => ?_⟩, own_sg_end H hH.2.1 hH.1⟩
  have e : List.range 32 = List.range (H + 1) ++ List.range' (H + 1) (31 - H) := by
    have : ∀ H, H < 32 → 27 ≤ H → List.range 32 = List.range (H + 1) ++ List.range' (H + 1) (31 - H) := by decide +kernel
    exact this H hH.2.1 hH.1
  rw [e, own_c_app, ← own_c_perm (own_sg_perm H hH.2.1 hH.1), h5 t, h4 t, if_pos ht]
  unfold own_cz
  by_cases q : P t = (-1 : Int32)
  · rw [if_pos ⟨ht, q⟩, if_pos q, own_pp_m1 q]
  · rw [if_neg (fun z => q z.2), if_neg q]; rfl
theorem own_idx {P : Nat → Int32} {n st : Nat} {Y : Nat → Nat} (ho : own_ok P n) (h : own_Y P n Y) (hst : st < 32) : own_F P (Y st) + own_c Y (Y st) (List.range st) < 32 := by
  have h1 := own_cz_le ho.2.2.1 (h.1 st)
  have h2 := h.2 (Y st) (h.1 st)
  have h3 : own_c Y (Y st) (List.range (st + 1)) ≤ own_c Y (Y st) (List.range 32) := own_c_mono hst
  rw [own_c_succ, if_pos rfl] at h3
  omega
theorem d1_0 : decode method_2_code 0 = .ok (.iload_n 0, 1) := by decide +kernel
theorem d1_1 : decode method_2_code 1 = .ok (.iconst 2, 1) := by decide +kernel
theorem d1_2 : decode method_2_code 2 = .ok (.iload_n 2, 1) := by decide +kernel
theorem d1_3 : decode method_2_code 3 = .ok (.imul, 1) := by decide +kernel
theorem d1_4 : decode method_2_code 4 = .ok (.iushr, 1) := by decide +kernel
theorem d1_5 : decode method_2_code 5 = .ok (.iconst 3, 1) := by decide +kernel
theorem d1_6 : decode method_2_code 6 = .ok (.iand, 1) := by decide +kernel
theorem d1_7 : decode method_2_code 7 = .ok (.istore_n 3, 1) := by decide +kernel
theorem d1_8 : decode method_2_code 8 = .ok (.iload_n 3, 1) := by decide +kernel
theorem d1_9 : decode method_2_code 9 = .ok (.ifCond .ne 5, 3) := by decide +kernel
theorem d1_12 : decode method_2_code 12 = .ok (.iconst 0, 1) := by decide +kernel
theorem d1_14 : decode method_2_code 14 = .ok (.iload_n 3, 1) := by decide +kernel
theorem d1_15 : decode method_2_code 15 = .ok (.iconst 1, 1) := by decide +kernel
theorem d1_16 : decode method_2_code 16 = .ok (.if_icmp .ne 5, 3) := by decide +kernel
theorem d1_19 : decode method_2_code 19 = .ok (.iconst (-1), 1) := by decide +kernel
theorem d1_21 : decode method_2_code 21 = .ok (.iconst 1, 1) := by decide +kernel
theorem d1_22 : decode method_2_code 22 = .ok (.iload_n 1, 1) := by decide +kernel
theorem d1_23 : decode method_2_code 23 = .ok (.iconst 3, 1) := by decide +kernel
theorem d1_24 : decode method_2_code 24 = .ok (.iload_n 2, 1) := by decide +kernel
theorem d1_25 : decode method_2_code 25 = .ok (.imul, 1) := by decide +kernel
theorem d1_26 : decode method_2_code 26 = .ok (.iushr, 1) := by decide +kernel
theorem d1_27 : decode method_2_code 27 = .ok (.bipush 7, 2) := by decide +kernel
theorem d1_29 : decode method_2_code 29 = .ok (.iand, 1) := by decide +kernel
theorem d1_30 : decode method_2_code 30 = .ok (.iadd, 1) := by decide +kernel
def own_draw (x0 : Int32) (x1 : Int32) (x2 : Int32) : Int32 := (if (((x0.toUInt32 >>> (((2 : Int32) * x2) &&& 31).toUInt32).toInt32) &&& (3 : Int32)) = (0 : Int32) then (0 : Int32) else (if (((x0.toUInt32 >>> (((2 : Int32) * x2) &&& 31).toUInt32).toInt32) &&& (3 : Int32)) = (1 : Int32) then (-1 : Int32) else ((1 : Int32) + (((x1.toUInt32 >>> (((3 : Int32) * x2) &&& 31).toUInt32).toInt32) &&& (7 : Int32)))))
theorem d1_13 : decode method_2_code 13 = .ok (.ireturn, 1) := by decide +kernel
theorem d1_20 : decode method_2_code 20 = .ok (.ireturn, 1) := by decide +kernel
theorem d1_31 : decode method_2_code 31 = .ok (.ireturn, 1) := by decide +kernel
theorem pn_0 : plainName "keyfold/FseHasPinLaw" = true := by first | (simp [plainName, overriddenIn]; done) | decide +kernel
theorem ef_rm1 (m : MethodId) (x0 : Int32) (x1 : Int32) (x2 : Int32) : entryFrame m #[(.int x0), (.int x1), (.int x2)] 4 = mkF m 0 #[.val (.int x0), .val (.int x1), .val (.int x2), .unset] [] := by first | (simp [entryFrame, mkF, argsToLocals, Value.category]; done) | rfl
def Q1 (Z : State) (x0 : Int32) (x1 : Int32) (x2 : Int32) (h0 : Heap) (n0 : Nat) (v : Option Value) (h : Heap) (L : List Loc) : Prop := v = some (.int (own_draw x0 x1 x2)) ∧ Fr n0 L ∧ h = h0
set_option maxRecDepth 65536 in
set_option maxHeartbeats 40000000 in
theorem rm1 (l : Launch) (Z : State) (a0 : Array Value) (hw : ∀ d ∈ tables_1, d.before a0 Z = true) (ws : List Jvm.Cond) (x0 : Int32) (x1 : Int32) (x2 : Int32) (h0 : Heap) (n0 : Nat) (Z0 : n0 ≤ h0.size) :
    MetFree l (⟨"keyfold/FseHasPinLaw", "draw", "(III)I"⟩ : MethodName) (head1 (Jvm.Cond.code (⟨"keyfold/FseHasPinLaw", "draw", "(III)I"⟩ : MethodName) method_2_code 4 (some .int) :: ws) ({ frames := 0, cells := 0, slots := 0, locals := 0 } : Room)) (fun a U => a = #[(.int x0), (.int x1), (.int x2)] ∧ Z.Warmed39 U.vm ∧ U.heap = h0) (fun _ _ _ _ _ => True) (fun _ U o U' => ∃ v L, o = .returned v ∧ Q1 Z x0 x1 x2 h0 n0 v U'.heap L ∧ FrameEnd U o U' L ({ frames := 0, cells := 0, slots := 0, locals := 0 } : Room).cells ({ frames := 0, cells := 0, slots := 0, locals := 0 } : Room).slots) := by
  refine MetFree.of_bodySF (plainFor_of_name pn_0) hisR ?_
  intro p e s m args below meth c s₁ Bd hml0 hP hK
  obtain ⟨rfl, hZ, hh⟩ := hP
  have hx := Bd.exec
  have hby := Bd.bytes
  have hml : c.maxLocals = 4 := hml0
  have hown : s.vm.findClass "keyfold/FseHasPinLaw" = some m.cls := findClass_of_methodNamed Bd.named
  have hnm := (name_of_methodNamed Bd.named Bd.method).1
  have X0 : Stand p l e ({ frames := 0, cells := 0, slots := 0, locals := 0 } : Room) s m #[(.int x0), (.int x1), (.int x2)] below meth c s₁ [] 0 0 := Stand.of_body Bd
  have e0 : s₁.heap = h0 := by rw [← hh, Bd.state]; rfl
  have N0 := Fr.nil n0
  have K0 := Keep.refl h0 []
  suffices hD : Dn p e below s (Q1 Z x0 x1 x2 h0 n0) ({ frames := 0, cells := 0, slots := 0, locals := 0 } : Room).cells ({ frames := 0, cells := 0, slots := 0, locals := 0 } : Room).slots s₁ (mkF m 0 #[.val (.int x0), .val (.int x1), .val (.int x2), .unset] []) from by
    obtain ⟨s₂, o, q1, q2⟩ := hD
    exact ⟨s₂, o, castTop (ef_rm1 m x0 x1 x2) q1, q2⟩
  refine Dn.st (fun t q => XS.iloadN X0.here hx rfl (hb hby d1_0) rfl  q) ?_
  show Dn p e below s _ _ _ s₁ (mkF m 1 #[.val (.int x0), .val (.int x1), .val (.int x2), .unset] [(.int x0)])
  refine Dn.st (fun t q => XS.iconst X0.here hx rfl (hb hby d1_1) q) ?_
  show Dn p e below s _ _ _ s₁ (mkF m 2 #[.val (.int x0), .val (.int x1), .val (.int x2), .unset] [(.int (2 : Int32)), (.int x0)])
  refine Dn.st (fun t q => XS.iloadN X0.here hx rfl (hb hby d1_2) rfl  q) ?_
  show Dn p e below s _ _ _ s₁ (mkF m 3 #[.val (.int x0), .val (.int x1), .val (.int x2), .unset] [(.int x2), (.int (2 : Int32)), (.int x0)])
  refine Dn.st (fun t q => XS.imul X0.here hx rfl (hb hby d1_3) rfl q) ?_
  show Dn p e below s _ _ _ s₁ (mkF m 4 #[.val (.int x0), .val (.int x1), .val (.int x2), .unset] [(.int ((2 : Int32) * x2)), (.int x0)])
  refine Dn.st (fun t q => XS.iushr X0.here hx rfl (hb hby d1_4) rfl q) ?_
  show Dn p e below s _ _ _ s₁ (mkF m 5 #[.val (.int x0), .val (.int x1), .val (.int x2), .unset] [(.int ((x0.toUInt32 >>> (((2 : Int32) * x2) &&& 31).toUInt32).toInt32))])
  refine Dn.st (fun t q => XS.iconst X0.here hx rfl (hb hby d1_5) q) ?_
  show Dn p e below s _ _ _ s₁ (mkF m 6 #[.val (.int x0), .val (.int x1), .val (.int x2), .unset] [(.int (3 : Int32)), (.int ((x0.toUInt32 >>> (((2 : Int32) * x2) &&& 31).toUInt32).toInt32))])
  refine Dn.st (fun t q => XS.iand X0.here hx rfl (hb hby d1_6) rfl q) ?_
  show Dn p e below s _ _ _ s₁ (mkF m 7 #[.val (.int x0), .val (.int x1), .val (.int x2), .unset] [(.int (((x0.toUInt32 >>> (((2 : Int32) * x2) &&& 31).toUInt32).toInt32) &&& (3 : Int32)))])
  refine Dn.st (fun t q => XS.istoreN X0.here hx rfl (hb hby d1_7) rfl (l' := #[.val (.int x0), .val (.int x1), .val (.int x2), .val (.int (((x0.toUInt32 >>> (((2 : Int32) * x2) &&& 31).toUInt32).toInt32) &&& (3 : Int32)))]) rfl q) ?_
  show Dn p e below s _ _ _ s₁ (mkF m 8 #[.val (.int x0), .val (.int x1), .val (.int x2), .val (.int (((x0.toUInt32 >>> (((2 : Int32) * x2) &&& 31).toUInt32).toInt32) &&& (3 : Int32)))] [])
  refine Dn.st (fun t q => XS.iloadN X0.here hx rfl (hb hby d1_8) rfl  q) ?_
  show Dn p e below s _ _ _ s₁ (mkF m 9 #[.val (.int x0), .val (.int x1), .val (.int x2), .val (.int (((x0.toUInt32 >>> (((2 : Int32) * x2) &&& 31).toUInt32).toInt32) &&& (3 : Int32)))] [(.int (((x0.toUInt32 >>> (((2 : Int32) * x2) &&& 31).toUInt32).toInt32) &&& (3 : Int32)))])
  by_cases c1 : (((x0.toUInt32 >>> (((2 : Int32) * x2) &&& 31).toUInt32).toInt32) &&& (3 : Int32)) = (0 : Int32)
  · refine Dn.st (fun t q => XS.ifNo X0.here hx rfl (hb hby d1_9) rfl ((if0 _ _).trans (teq c1).2) q) ?_
    show Dn p e below s _ _ _ s₁ (mkF m 12 #[.val (.int x0), .val (.int x1), .val (.int x2), .val (.int (((x0.toUInt32 >>> (((2 : Int32) * x2) &&& 31).toUInt32).toInt32) &&& (3 : Int32)))] [])
    refine Dn.st (fun t q => XS.iconst X0.here hx rfl (hb hby d1_12) q) ?_
    show Dn p e below s _ _ _ s₁ (mkF m 13 #[.val (.int x0), .val (.int x1), .val (.int x2), .val (.int (((x0.toUInt32 >>> (((2 : Int32) * x2) &&& 31).toUInt32).toInt32) &&& (3 : Int32)))] [(.int (0 : Int32))])
    exact Dn.retI X0 hx Bd.notSynchronized Bd.returns (hb hby d1_13) (by rw [e0]; exact ⟨by show some (Value.int (0 : Int32)) = some (Value.int (own_draw x0 x1 x2)); rw [own_draw, if_pos c1], N0, rfl⟩) (by decide) (by decide)
  · refine Dn.st (fun t q => XS.ifYes X0.here hx rfl (pc0 := 9) (pc' := 14) rfl (hb hby d1_9) rfl ((if0 _ _).trans (feq c1).2) (by decide) (by decide) q) ?_
    show Dn p e below s _ _ _ s₁ (mkF m 14 #[.val (.int x0), .val (.int x1), .val (.int x2), .val (.int (((x0.toUInt32 >>> (((2 : Int32) * x2) &&& 31).toUInt32).toInt32) &&& (3 : Int32)))] [])
    refine Dn.st (fun t q => XS.iloadN X0.here hx rfl (hb hby d1_14) rfl  q) ?_
    show Dn p e below s _ _ _ s₁ (mkF m 15 #[.val (.int x0), .val (.int x1), .val (.int x2), .val (.int (((x0.toUInt32 >>> (((2 : Int32) * x2) &&& 31).toUInt32).toInt32) &&& (3 : Int32)))] [(.int (((x0.toUInt32 >>> (((2 : Int32) * x2) &&& 31).toUInt32).toInt32) &&& (3 : Int32)))])
    refine Dn.st (fun t q => XS.iconst X0.here hx rfl (hb hby d1_15) q) ?_
    show Dn p e below s _ _ _ s₁ (mkF m 16 #[.val (.int x0), .val (.int x1), .val (.int x2), .val (.int (((x0.toUInt32 >>> (((2 : Int32) * x2) &&& 31).toUInt32).toInt32) &&& (3 : Int32)))] [(.int (1 : Int32)), (.int (((x0.toUInt32 >>> (((2 : Int32) * x2) &&& 31).toUInt32).toInt32) &&& (3 : Int32)))])
    by_cases c2 : (((x0.toUInt32 >>> (((2 : Int32) * x2) &&& 31).toUInt32).toInt32) &&& (3 : Int32)) = (1 : Int32)
    · refine Dn.st (fun t q => XS.icmpNo X0.here hx rfl (hb hby d1_16) rfl (teq c2).2 q) ?_
      show Dn p e below s _ _ _ s₁ (mkF m 19 #[.val (.int x0), .val (.int x1), .val (.int x2), .val (.int (((x0.toUInt32 >>> (((2 : Int32) * x2) &&& 31).toUInt32).toInt32) &&& (3 : Int32)))] [])
      refine Dn.st (fun t q => XS.iconst X0.here hx rfl (hb hby d1_19) q) ?_
      show Dn p e below s _ _ _ s₁ (mkF m 20 #[.val (.int x0), .val (.int x1), .val (.int x2), .val (.int (((x0.toUInt32 >>> (((2 : Int32) * x2) &&& 31).toUInt32).toInt32) &&& (3 : Int32)))] [(.int (-1 : Int32))])
      exact Dn.retI X0 hx Bd.notSynchronized Bd.returns (hb hby d1_20) (by rw [e0]; exact ⟨by show some (Value.int (-1 : Int32)) = some (Value.int (own_draw x0 x1 x2)); rw [own_draw, if_neg c1, if_pos c2], N0, rfl⟩) (by decide) (by decide)
    · refine Dn.st (fun t q => XS.icmpYes X0.here hx rfl (pc0 := 16) (pc' := 21) rfl (hb hby d1_16) rfl (feq c2).2 (by decide) (by decide) q) ?_
      show Dn p e below s _ _ _ s₁ (mkF m 21 #[.val (.int x0), .val (.int x1), .val (.int x2), .val (.int (((x0.toUInt32 >>> (((2 : Int32) * x2) &&& 31).toUInt32).toInt32) &&& (3 : Int32)))] [])
      refine Dn.st (fun t q => XS.iconst X0.here hx rfl (hb hby d1_21) q) ?_
      show Dn p e below s _ _ _ s₁ (mkF m 22 #[.val (.int x0), .val (.int x1), .val (.int x2), .val (.int (((x0.toUInt32 >>> (((2 : Int32) * x2) &&& 31).toUInt32).toInt32) &&& (3 : Int32)))] [(.int (1 : Int32))])
      refine Dn.st (fun t q => XS.iloadN X0.here hx rfl (hb hby d1_22) rfl  q) ?_
      show Dn p e below s _ _ _ s₁ (mkF m 23 #[.val (.int x0), .val (.int x1), .val (.int x2), .val (.int (((x0.toUInt32 >>> (((2 : Int32) * x2) &&& 31).toUInt32).toInt32) &&& (3 : Int32)))] [(.int x1), (.int (1 : Int32))])
      refine Dn.st (fun t q => XS.iconst X0.here hx rfl (hb hby d1_23) q) ?_
      show Dn p e below s _ _ _ s₁ (mkF m 24 #[.val (.int x0), .val (.int x1), .val (.int x2), .val (.int (((x0.toUInt32 >>> (((2 : Int32) * x2) &&& 31).toUInt32).toInt32) &&& (3 : Int32)))] [(.int (3 : Int32)), (.int x1), (.int (1 : Int32))])
      refine Dn.st (fun t q => XS.iloadN X0.here hx rfl (hb hby d1_24) rfl  q) ?_
      show Dn p e below s _ _ _ s₁ (mkF m 25 #[.val (.int x0), .val (.int x1), .val (.int x2), .val (.int (((x0.toUInt32 >>> (((2 : Int32) * x2) &&& 31).toUInt32).toInt32) &&& (3 : Int32)))] [(.int x2), (.int (3 : Int32)), (.int x1), (.int (1 : Int32))])
      refine Dn.st (fun t q => XS.imul X0.here hx rfl (hb hby d1_25) rfl q) ?_
      show Dn p e below s _ _ _ s₁ (mkF m 26 #[.val (.int x0), .val (.int x1), .val (.int x2), .val (.int (((x0.toUInt32 >>> (((2 : Int32) * x2) &&& 31).toUInt32).toInt32) &&& (3 : Int32)))] [(.int ((3 : Int32) * x2)), (.int x1), (.int (1 : Int32))])
      refine Dn.st (fun t q => XS.iushr X0.here hx rfl (hb hby d1_26) rfl q) ?_
      show Dn p e below s _ _ _ s₁ (mkF m 27 #[.val (.int x0), .val (.int x1), .val (.int x2), .val (.int (((x0.toUInt32 >>> (((2 : Int32) * x2) &&& 31).toUInt32).toInt32) &&& (3 : Int32)))] [(.int ((x1.toUInt32 >>> (((3 : Int32) * x2) &&& 31).toUInt32).toInt32)), (.int (1 : Int32))])
      refine Dn.st (fun t q => XS.bipush X0.here hx rfl (hb hby d1_27) q) ?_
      show Dn p e below s _ _ _ s₁ (mkF m 29 #[.val (.int x0), .val (.int x1), .val (.int x2), .val (.int (((x0.toUInt32 >>> (((2 : Int32) * x2) &&& 31).toUInt32).toInt32) &&& (3 : Int32)))] [(.int (7 : Int32)), (.int ((x1.toUInt32 >>> (((3 : Int32) * x2) &&& 31).toUInt32).toInt32)), (.int (1 : Int32))])
      refine Dn.st (fun t q => XS.iand X0.here hx rfl (hb hby d1_29) rfl q) ?_
      show Dn p e below s _ _ _ s₁ (mkF m 30 #[.val (.int x0), .val (.int x1), .val (.int x2), .val (.int (((x0.toUInt32 >>> (((2 : Int32) * x2) &&& 31).toUInt32).toInt32) &&& (3 : Int32)))] [(.int (((x1.toUInt32 >>> (((3 : Int32) * x2) &&& 31).toUInt32).toInt32) &&& (7 : Int32))), (.int (1 : Int32))])
      refine Dn.st (fun t q => XS.iadd X0.here hx rfl (hb hby d1_30) rfl q) ?_
      show Dn p e below s _ _ _ s₁ (mkF m 31 #[.val (.int x0), .val (.int x1), .val (.int x2), .val (.int (((x0.toUInt32 >>> (((2 : Int32) * x2) &&& 31).toUInt32).toInt32) &&& (3 : Int32)))] [(.int ((1 : Int32) + (((x1.toUInt32 >>> (((3 : Int32) * x2) &&& 31).toUInt32).toInt32) &&& (7 : Int32))))])
      exact Dn.retI X0 hx Bd.notSynchronized Bd.returns (hb hby d1_31) (by rw [e0]; exact ⟨by show some (Value.int ((1 : Int32) + (((x1.toUInt32 >>> (((3 : Int32) * x2) &&& 31).toUInt32).toInt32) &&& (7 : Int32)))) = some (Value.int (own_draw x0 x1 x2)); rw [own_draw, if_neg c1, if_neg c2], N0, rfl⟩) (by decide) (by decide)
theorem d2_0 : decode method_3_code 0 = .ok (.iload_n 0, 1) := by decide +kernel
theorem d2_1 : decode method_3_code 1 = .ok (.iconst (-1), 1) := by decide +kernel
theorem d2_2 : decode method_3_code 2 = .ok (.if_icmp .ne 7, 3) := by decide +kernel
theorem d2_5 : decode method_3_code 5 = .ok (.iconst 1, 1) := by decide +kernel
theorem d2_6 : decode method_3_code 6 = .ok (.goto 4, 3) := by decide +kernel
theorem d2_9 : decode method_3_code 9 = .ok (.iload_n 0, 1) := by decide +kernel
def own_wt (x0 : Int32) : Int32 := (if x0 = (-1 : Int32) then (1 : Int32) else x0)
theorem d2_10 : decode method_3_code 10 = .ok (.ireturn, 1) := by decide +kernel
theorem ef_rm2 (m : MethodId) (x0 : Int32) : entryFrame m #[(.int x0)] 1 = mkF m 0 #[.val (.int x0)] [] := by first | (simp [entryFrame, mkF, argsToLocals, Value.category]; done) | rfl
def Q2 (Z : State) (x0 : Int32) (h0 : Heap) (n0 : Nat) (v : Option Value) (h : Heap) (L : List Loc) : Prop := v = some (.int (own_wt x0)) ∧ Fr n0 L ∧ h = h0
set_option maxRecDepth 65536 in
set_option maxHeartbeats 40000000 in
theorem rm2 (l : Launch) (Z : State) (a0 : Array Value) (hw : ∀ d ∈ tables_1, d.before a0 Z = true) (ws : List Jvm.Cond) (x0 : Int32) (h0 : Heap) (n0 : Nat) (Z0 : n0 ≤ h0.size) :
    MetFree l (⟨"keyfold/FseHasPinLaw", "weight", "(I)I"⟩ : MethodName) (head1 (Jvm.Cond.code (⟨"keyfold/FseHasPinLaw", "weight", "(I)I"⟩ : MethodName) method_3_code 1 (some .int) :: ws) ({ frames := 0, cells := 0, slots := 0, locals := 0 } : Room)) (fun a U => a = #[(.int x0)] ∧ Z.Warmed39 U.vm ∧ U.heap = h0) (fun _ _ _ _ _ => True) (fun _ U o U' => ∃ v L, o = .returned v ∧ Q2 Z x0 h0 n0 v U'.heap L ∧ FrameEnd U o U' L ({ frames := 0, cells := 0, slots := 0, locals := 0 } : Room).cells ({ frames := 0, cells := 0, slots := 0, locals := 0 } : Room).slots) := by
  refine MetFree.of_bodySF (plainFor_of_name pn_0) hisR ?_
  intro p e s m args below meth c s₁ Bd hml0 hP hK
  obtain ⟨rfl, hZ, hh⟩ := hP
  have hx := Bd.exec
  have hby := Bd.bytes
  have hml : c.maxLocals = 1 := hml0
  have hown : s.vm.findClass "keyfold/FseHasPinLaw" = some m.cls := findClass_of_methodNamed Bd.named
  have hnm := (name_of_methodNamed Bd.named Bd.method).1
  have X0 : Stand p l e ({ frames := 0, cells := 0, slots := 0, locals := 0 } : Room) s m #[(.int x0)] below meth c s₁ [] 0 0 := Stand.of_body Bd
  have e0 : s₁.heap = h0 := by rw [← hh, Bd.state]; rfl
  have N0 := Fr.nil n0
  have K0 := Keep.refl h0 []
  suffices hD : Dn p e below s (Q2 Z x0 h0 n0) ({ frames := 0, cells := 0, slots := 0, locals := 0 } : Room).cells ({ frames := 0, cells := 0, slots := 0, locals := 0 } : Room).slots s₁ (mkF m 0 #[.val (.int x0)] []) from by
    obtain ⟨s₂, o, q1, q2⟩ := hD
    exact ⟨s₂, o, castTop (ef_rm2 m x0) q1, q2⟩
  refine Dn.st (fun t q => XS.iloadN X0.here hx rfl (hb hby d2_0) rfl  q) ?_
  show Dn p e below s _ _ _ s₁ (mkF m 1 #[.val (.int x0)] [(.int x0)])
  refine Dn.st (fun t q => XS.iconst X0.here hx rfl (hb hby d2_1) q) ?_
  show Dn p e below s _ _ _ s₁ (mkF m 2 #[.val (.int x0)] [(.int (-1 : Int32)), (.int x0)])
  by_cases c1 : x0 = (-1 : Int32)
  · refine Dn.st (fun t q => XS.icmpNo X0.here hx rfl (hb hby d2_2) rfl (teq c1).2 q) ?_
    show Dn p e below s _ _ _ s₁ (mkF m 5 #[.val (.int x0)] [])
    refine Dn.st (fun t q => XS.iconst X0.here hx rfl (hb hby d2_5) q) ?_
    show Dn p e below s _ _ _ s₁ (mkF m 6 #[.val (.int x0)] [(.int (1 : Int32))])
    refine Dn.st (fun t q => XS.goto X0.here hx rfl (pc0 := 6) (pc' := 10) rfl (hb hby d2_6) (by decide) (by decide) q) ?_
    show Dn p e below s _ _ _ s₁ (mkF m 10 #[.val (.int x0)] [(.int (1 : Int32))])
    exact Dn.retI X0 hx Bd.notSynchronized Bd.returns (hb hby d2_10) (by rw [e0]; exact ⟨by show some (Value.int (1 : Int32)) = some (Value.int (own_wt x0)); rw [own_wt, if_pos c1], N0, rfl⟩) (by decide) (by decide)
  · refine Dn.st (fun t q => XS.icmpYes X0.here hx rfl (pc0 := 2) (pc' := 9) rfl (hb hby d2_2) rfl (feq c1).2 (by decide) (by decide) q) ?_
    show Dn p e below s _ _ _ s₁ (mkF m 9 #[.val (.int x0)] [])
    refine Dn.st (fun t q => XS.iloadN X0.here hx rfl (hb hby d2_9) rfl  q) ?_
    show Dn p e below s _ _ _ s₁ (mkF m 10 #[.val (.int x0)] [(.int x0)])
    exact Dn.retI X0 hx Bd.notSynchronized Bd.returns (hb hby d2_10) (by rw [e0]; exact ⟨by show some (Value.int x0) = some (Value.int (own_wt x0)); rw [own_wt, if_neg c1], N0, rfl⟩) (by decide) (by decide)
theorem d6_0 : decode jdk_33_method_47_code 0 = .ok (.iload_n 0, 1) := by decide +kernel
theorem d6_1 : decode jdk_33_method_47_code 1 = .ok (.ifCond .gt 14, 3) := by decide +kernel
theorem d6_15 : decode jdk_33_method_47_code 15 = .ok (.bipush 31, 2) := by decide +kernel
theorem d6_17 : decode jdk_33_method_47_code 17 = .ok (.istore_n 1, 1) := by decide +kernel
theorem d6_18 : decode jdk_33_method_47_code 18 = .ok (.iload_n 0, 1) := by decide +kernel
theorem d6_19 : decode jdk_33_method_47_code 19 = .ok (.ldc_w 264, 3) := by decide +kernel
theorem d6_22 : decode jdk_33_method_47_code 22 = .ok (.if_icmp .lt 11, 3) := by decide +kernel
theorem d6_33 : decode jdk_33_method_47_code 33 = .ok (.iload_n 0, 1) := by decide +kernel
theorem d6_34 : decode jdk_33_method_47_code 34 = .ok (.sipush 256, 3) := by decide +kernel
theorem d6_37 : decode jdk_33_method_47_code 37 = .ok (.if_icmp .lt 11, 3) := by decide +kernel
theorem d6_48 : decode jdk_33_method_47_code 48 = .ok (.iload_n 0, 1) := by decide +kernel
theorem d6_49 : decode jdk_33_method_47_code 49 = .ok (.bipush 16, 2) := by decide +kernel
theorem d6_51 : decode jdk_33_method_47_code 51 = .ok (.if_icmp .lt 10, 3) := by decide +kernel
theorem d6_61 : decode jdk_33_method_47_code 61 = .ok (.iload_n 0, 1) := by decide +kernel
theorem d6_62 : decode jdk_33_method_47_code 62 = .ok (.iconst 4, 1) := by decide +kernel
theorem d6_63 : decode jdk_33_method_47_code 63 = .ok (.if_icmp .lt 10, 3) := by decide +kernel
theorem d6_73 : decode jdk_33_method_47_code 73 = .ok (.iload_n 1, 1) := by decide +kernel
theorem d6_74 : decode jdk_33_method_47_code 74 = .ok (.iload_n 0, 1) := by decide +kernel
theorem d6_75 : decode jdk_33_method_47_code 75 = .ok (.iconst 1, 1) := by decide +kernel
theorem d6_76 : decode jdk_33_method_47_code 76 = .ok (.iushr, 1) := by decide +kernel
theorem d6_77 : decode jdk_33_method_47_code 77 = .ok (.isub, 1) := by decide +kernel
theorem d6_66 : decode jdk_33_method_47_code 66 = .ok (.iinc 1 (-2), 3) := by decide +kernel
theorem d6_69 : decode jdk_33_method_47_code 69 = .ok (.iload_n 0, 1) := by decide +kernel
theorem d6_70 : decode jdk_33_method_47_code 70 = .ok (.iconst 2, 1) := by decide +kernel
theorem d6_71 : decode jdk_33_method_47_code 71 = .ok (.iushr, 1) := by decide +kernel
theorem d6_72 : decode jdk_33_method_47_code 72 = .ok (.istore_n 0, 1) := by decide +kernel
theorem d6_54 : decode jdk_33_method_47_code 54 = .ok (.iinc 1 (-4), 3) := by decide +kernel
theorem d6_57 : decode jdk_33_method_47_code 57 = .ok (.iload_n 0, 1) := by decide +kernel
theorem d6_58 : decode jdk_33_method_47_code 58 = .ok (.iconst 4, 1) := by decide +kernel
theorem d6_59 : decode jdk_33_method_47_code 59 = .ok (.iushr, 1) := by decide +kernel
theorem d6_60 : decode jdk_33_method_47_code 60 = .ok (.istore_n 0, 1) := by decide +kernel
theorem d6_40 : decode jdk_33_method_47_code 40 = .ok (.iinc 1 (-8), 3) := by decide +kernel
theorem d6_43 : decode jdk_33_method_47_code 43 = .ok (.iload_n 0, 1) := by decide +kernel
theorem d6_44 : decode jdk_33_method_47_code 44 = .ok (.bipush 8, 2) := by decide +kernel
theorem d6_46 : decode jdk_33_method_47_code 46 = .ok (.iushr, 1) := by decide +kernel
theorem d6_47 : decode jdk_33_method_47_code 47 = .ok (.istore_n 0, 1) := by decide +kernel
theorem d6_25 : decode jdk_33_method_47_code 25 = .ok (.iinc 1 (-16), 3) := by decide +kernel
theorem d6_28 : decode jdk_33_method_47_code 28 = .ok (.iload_n 0, 1) := by decide +kernel
theorem d6_29 : decode jdk_33_method_47_code 29 = .ok (.bipush 16, 2) := by decide +kernel
theorem d6_31 : decode jdk_33_method_47_code 31 = .ok (.iushr, 1) := by decide +kernel
theorem d6_32 : decode jdk_33_method_47_code 32 = .ok (.istore_n 0, 1) := by decide +kernel
theorem d6_4 : decode jdk_33_method_47_code 4 = .ok (.iload_n 0, 1) := by decide +kernel
theorem d6_5 : decode jdk_33_method_47_code 5 = .ok (.ifCond .ne 8, 3) := by decide +kernel
theorem d6_8 : decode jdk_33_method_47_code 8 = .ok (.bipush 32, 2) := by decide +kernel
theorem d6_10 : decode jdk_33_method_47_code 10 = .ok (.goto 4, 3) := by decide +kernel
theorem d6_13 : decode jdk_33_method_47_code 13 = .ok (.iconst 0, 1) := by decide +kernel
def own_nlz (x0 : Int32) : Int32 := (if (0 : Int32) < x0 then (if x0 < (65536 : Int32) then (if x0 < (256 : Int32) then (if x0 < (16 : Int32) then (if x0 < (4 : Int32) then ((31 : Int32) - ((x0.toUInt32 >>> ((1 : Int32) &&& 31).toUInt32).toInt32)) else (((31 : Int32) + (-2 : Int32)) - ((((x0.toUInt32 >>> ((2 : Int32) &&& 31).toUInt32).toInt32).toUInt32 >>> ((1 : Int32) &&& 31).toUInt32).toInt32))) else (if ((x0.toUInt32 >>> ((4 : Int32) &&& 31).toUInt32).toInt32) < (4 : Int32) then (((31 : Int32) + (-4 : Int32)) - ((((x0.toUInt32 >>> ((4 : Int32) &&& 31).toUInt32).toInt32).toUInt32 >>> ((1 : Int32) &&& 31).toUInt32).toInt32)) else ((((31 : Int32) + (-4 : Int32)) + (-2 : Int32)) - ((((((x0.toUInt32 >>> ((4 : Int32) &&& 31).toUInt32).toInt32).toUInt32 >>> ((2 : Int32) &&& 31).toUInt32).toInt32).toUInt32 >>> ((1 : Int32) &&& 31).toUInt32).toInt32)))) else (if ((x0.toUInt32 >>> ((8 : Int32) &&& 31).toUInt32).toInt32) < (16 : Int32) then (if ((x0.toUInt32 >>> ((8 : Int32) &&& 31).toUInt32).toInt32) < (4 : Int32) then (((31 : Int32) + (-8 : Int32)) - ((((x0.toUInt32 >>> ((8 : Int32) &&& 31).toUInt32).toInt32).toUInt32 >>> ((1 : Int32) &&& 31).toUInt32).toInt32)) else ((((31 : Int32) + (-8 : Int32)) + (-2 : Int32)) - ((((((x0.toUInt32 >>> ((8 : Int32) &&& 31).toUInt32).toInt32).toUInt32 >>> ((2 : Int32) &&& 31).toUInt32).toInt32).toUInt32 >>> ((1 : Int32) &&& 31).toUInt32).toInt32))) else (if ((((x0.toUInt32 >>> ((8 : Int32) &&& 31).toUInt32).toInt32).toUInt32 >>> ((4 : Int32) &&& 31).toUInt32).toInt32) < (4 : Int32) then ((((31 : Int32) + (-8 : Int32)) + (-4 : Int32)) - ((((((x0.toUInt32 >>> ((8 : Int32) &&& 31).toUInt32).toInt32).toUInt32 >>> ((4 : Int32) &&& 31).toUInt32).toInt32).toUInt32 >>> ((1 : Int32) &&& 31).toUInt32).toInt32)) else (((((31 : Int32) + (-8 : Int32)) + (-4 : Int32)) + (-2 : Int32)) - ((((((((x0.toUInt32 >>> ((8 : Int32) &&& 31).toUInt32).toInt32).toUInt32 >>> ((4 : Int32) &&& 31).toUInt32).toInt32).toUInt32 >>> ((2 : Int32) &&& 31).toUInt32).toInt32).toUInt32 >>> ((1 : Int32) &&& 31).toUInt32).toInt32))))) else (if ((x0.toUInt32 >>> ((16 : Int32) &&& 31).toUInt32).toInt32) < (256 : Int32) then (if ((x0.toUInt32 >>> ((16 : Int32) &&& 31).toUInt32).toInt32) < (16 : Int32) then (if ((x0.toUInt32 >>> ((16 : Int32) &&& 31).toUInt32).toInt32) < (4 : Int32) then (((31 : Int32) + (-16 : Int32)) - ((((x0.toUInt32 >>> ((16 : Int32) &&& 31).toUInt32).toInt32).toUInt32 >>> ((1 : Int32) &&& 31).toUInt32).toInt32)) else ((((31 : Int32) + (-16 : Int32)) + (-2 : Int32)) - ((((((x0.toUInt32 >>> ((16 : Int32) &&& 31).toUInt32).toInt32).toUInt32 >>> ((2 : Int32) &&& 31).toUInt32).toInt32).toUInt32 >>> ((1 : Int32) &&& 31).toUInt32).toInt32))) else (if ((((x0.toUInt32 >>> ((16 : Int32) &&& 31).toUInt32).toInt32).toUInt32 >>> ((4 : Int32) &&& 31).toUInt32).toInt32) < (4 : Int32) then ((((31 : Int32) + (-16 : Int32)) + (-4 : Int32)) - ((((((x0.toUInt32 >>> ((16 : Int32) &&& 31).toUInt32).toInt32).toUInt32 >>> ((4 : Int32) &&& 31).toUInt32).toInt32).toUInt32 >>> ((1 : Int32) &&& 31).toUInt32).toInt32)) else (((((31 : Int32) + (-16 : Int32)) + (-4 : Int32)) + (-2 : Int32)) - ((((((((x0.toUInt32 >>> ((16 : Int32) &&& 31).toUInt32).toInt32).toUInt32 >>> ((4 : Int32) &&& 31).toUInt32).toInt32).toUInt32 >>> ((2 : Int32) &&& 31).toUInt32).toInt32).toUInt32 >>> ((1 : Int32) &&& 31).toUInt32).toInt32)))) else (if ((((x0.toUInt32 >>> ((16 : Int32) &&& 31).toUInt32).toInt32).toUInt32 >>> ((8 : Int32) &&& 31).toUInt32).toInt32) < (16 : Int32) then (if ((((x0.toUInt32 >>> ((16 : Int32) &&& 31).toUInt32).toInt32).toUInt32 >>> ((8 : Int32) &&& 31).toUInt32).toInt32) < (4 : Int32) then ((((31 : Int32) + (-16 : Int32)) + (-8 : Int32)) - ((((((x0.toUInt32 >>> ((16 : Int32) &&& 31).toUInt32).toInt32).toUInt32 >>> ((8 : Int32) &&& 31).toUInt32).toInt32).toUInt32 >>> ((1 : Int32) &&& 31).toUInt32).toInt32)) else (((((31 : Int32) + (-16 : Int32)) + (-8 : Int32)) + (-2 : Int32)) - ((((((((x0.toUInt32 >>> ((16 : Int32) &&& 31).toUInt32).toInt32).toUInt32 >>> ((8 : Int32) &&& 31).toUInt32).toInt32).toUInt32 >>> ((2 : Int32) &&& 31).toUInt32).toInt32).toUInt32 >>> ((1 : Int32) &&& 31).toUInt32).toInt32))) else (if ((((((x0.toUInt32 >>> ((16 : Int32) &&& 31).toUInt32).toInt32).toUInt32 >>> ((8 : Int32) &&& 31).toUInt32).toInt32).toUInt32 >>> ((4 : Int32) &&& 31).toUInt32).toInt32) < (4 : Int32) then (((((31 : Int32) + (-16 : Int32)) + (-8 : Int32)) + (-4 : Int32)) - ((((((((x0.toUInt32 >>> ((16 : Int32) &&& 31).toUInt32).toInt32).toUInt32 >>> ((8 : Int32) &&& 31).toUInt32).toInt32).toUInt32 >>> ((4 : Int32) &&& 31).toUInt32).toInt32).toUInt32 >>> ((1 : Int32) &&& 31).toUInt32).toInt32)) else ((((((31 : Int32) + (-16 : Int32)) + (-8 : Int32)) + (-4 : Int32)) + (-2 : Int32)) - ((((((((((x0.toUInt32 >>> ((16 : Int32) &&& 31).toUInt32).toInt32).toUInt32 >>> ((8 : Int32) &&& 31).toUInt32).toInt32).toUInt32 >>> ((4 : Int32) &&& 31).toUInt32).toInt32).toUInt32 >>> ((2 : Int32) &&& 31).toUInt32).toInt32).toUInt32 >>> ((1 : Int32) &&& 31).toUInt32).toInt32)))))) else (if x0 = (0 : Int32) then (32 : Int32) else (0 : Int32)))
theorem d6_78 : decode jdk_33_method_47_code 78 = .ok (.ireturn, 1) := by decide +kernel
theorem d6_14 : decode jdk_33_method_47_code 14 = .ok (.ireturn, 1) := by decide +kernel
theorem pn_1 : plainName "java/lang/Integer" = true := by first | (simp [plainName, overriddenIn]; done) | decide +kernel
theorem ef_rm6 (m : MethodId) (x0 : Int32) : entryFrame m #[(.int x0)] 2 = mkF m 0 #[.val (.int x0), .unset] [] := by first | (simp [entryFrame, mkF, argsToLocals, Value.category]; done) | rfl
def Q6 (Z : State) (x0 : Int32) (h0 : Heap) (n0 : Nat) (v : Option Value) (h : Heap) (L : List Loc) : Prop := v = some (.int (own_nlz x0)) ∧ Fr n0 L ∧ h = h0
set_option maxRecDepth 65536 in
set_option maxHeartbeats 40000000 in
theorem rm6 (l : Launch) (Z : State) (a0 : Array Value) (hw : ∀ d ∈ tables_1, d.before a0 Z = true) (ws : List Jvm.Cond) (x0 : Int32) (h0 : Heap) (n0 : Nat) (Z0 : n0 ≤ h0.size) :
    MetFree l (⟨"java/lang/Integer", "numberOfLeadingZeros", "(I)I"⟩ : MethodName) (head1 (Jvm.Cond.code (⟨"java/lang/Integer", "numberOfLeadingZeros", "(I)I"⟩ : MethodName) jdk_33_method_47_code 2 (some .int) :: ws) ({ frames := 0, cells := 0, slots := 0, locals := 0 } : Room)) (fun a U => a = #[(.int x0)] ∧ Z.Warmed39 U.vm ∧ U.heap = h0) (fun _ _ _ _ _ => True) (fun _ U o U' => ∃ v L, o = .returned v ∧ Q6 Z x0 h0 n0 v U'.heap L ∧ FrameEnd U o U' L ({ frames := 0, cells := 0, slots := 0, locals := 0 } : Room).cells ({ frames := 0, cells := 0, slots := 0, locals := 0 } : Room).slots) := by
  refine MetFree.of_bodySF (plainFor_of_name pn_1) hisR ?_
  intro p e s m args below meth c s₁ Bd hml0 hP hK
  obtain ⟨rfl, hZ, hh⟩ := hP
  have hx := Bd.exec
  have hby := Bd.bytes
  have hml : c.maxLocals = 2 := hml0
  have hown : s.vm.findClass "java/lang/Integer" = some m.cls := findClass_of_methodNamed Bd.named
  have hnm := (name_of_methodNamed Bd.named Bd.method).1
  have X0 : Stand p l e ({ frames := 0, cells := 0, slots := 0, locals := 0 } : Room) s m #[(.int x0)] below meth c s₁ [] 0 0 := Stand.of_body Bd
  have e0 : s₁.heap = h0 := by rw [← hh, Bd.state]; rfl
  have N0 := Fr.nil n0
  have K0 := Keep.refl h0 []
  suffices hD : Dn p e below s (Q6 Z x0 h0 n0) ({ frames := 0, cells := 0, slots := 0, locals := 0 } : Room).cells ({ frames := 0, cells := 0, slots := 0, locals := 0 } : Room).slots s₁ (mkF m 0 #[.val (.int x0), .unset] []) from by
    obtain ⟨s₂, o, q1, q2⟩ := hD
    exact ⟨s₂, o, castTop (ef_rm6 m x0) q1, q2⟩
  refine Dn.st (fun t q => XS.iloadN X0.here hx rfl (hb hby d6_0) rfl  q) ?_
  show Dn p e below s _ _ _ s₁ (mkF m 1 #[.val (.int x0), .unset] [(.int x0)])
  by_cases c1 : (0 : Int32) < x0
  · refine Dn.st (fun t q => XS.ifYes X0.here hx rfl (pc0 := 1) (pc' := 15) rfl (hb hby d6_1) rfl ((if0 _ _).trans (tlt c1).2.2.1) (by decide) (by decide) q) ?_
    show Dn p e below s _ _ _ s₁ (mkF m 15 #[.val (.int x0), .unset] [])
    refine Dn.st (fun t q => XS.bipush X0.here hx rfl (hb hby d6_15) q) ?_
    show Dn p e below s _ _ _ s₁ (mkF m 17 #[.val (.int x0), .unset] [(.int (31 : Int32))])
    refine Dn.st (fun t q => XS.istoreN X0.here hx rfl (hb hby d6_17) rfl (l' := #[.val (.int x0), .val (.int (31 : Int32))]) rfl q) ?_
    show Dn p e below s _ _ _ s₁ (mkF m 18 #[.val (.int x0), .val (.int (31 : Int32))] [])
    refine Dn.st (fun t q => XS.iloadN X0.here hx rfl (hb hby d6_18) rfl  q) ?_
    show Dn p e below s _ _ _ s₁ (mkF m 19 #[.val (.int x0), .val (.int (31 : Int32))] [(.int x0)])
    refine Dn.st (X0.ldcwInt hx hown (mvT hZ (hw _ (List.mem_of_getElem? (i := 47) rfl))) (g := (mkF m 19 #[.val (.int x0), .val (.int (31 : Int32))] [(.int x0)])) rfl (hb hby d6_19)) ?_
    show Dn p e below s _ _ _ s₁ (mkF m 22 #[.val (.int x0), .val (.int (31 : Int32))] [(.int (65536 : Int32)), (.int x0)])
    by_cases c2 : x0 < (65536 : Int32)
    · refine Dn.st (fun t q => XS.icmpYes X0.here hx rfl (pc0 := 22) (pc' := 33) rfl (hb hby d6_22) rfl (tlt c2).1 (by decide) (by decide) q) ?_
      show Dn p e below s _ _ _ s₁ (mkF m 33 #[.val (.int x0), .val (.int (31 : Int32))] [])
      refine Dn.st (fun t q => XS.iloadN X0.here hx rfl (hb hby d6_33) rfl  q) ?_
      show Dn p e below s _ _ _ s₁ (mkF m 34 #[.val (.int x0), .val (.int (31 : Int32))] [(.int x0)])
      refine Dn.st (fun t q => XS.sipush X0.here hx rfl (hb hby d6_34) q) ?_
      show Dn p e below s _ _ _ s₁ (mkF m 37 #[.val (.int x0), .val (.int (31 : Int32))] [(.int (256 : Int32)), (.int x0)])
      by_cases c3 : x0 < (256 : Int32)
      · refine Dn.st (fun t q => XS.icmpYes X0.here hx rfl (pc0 := 37) (pc' := 48) rfl (hb hby d6_37) rfl (tlt c3).1 (by decide) (by decide) q) ?_
        show Dn p e below s _ _ _ s₁ (mkF m 48 #[.val (.int x0), .val (.int (31 : Int32))] [])
        refine Dn.st (fun t q => XS.iloadN X0.here hx rfl (hb hby d6_48) rfl  q) ?_
        show Dn p e below s _ _ _ s₁ (mkF m 49 #[.val (.int x0), .val (.int (31 : Int32))] [(.int x0)])
        refine Dn.st (fun t q => XS.bipush X0.here hx rfl (hb hby d6_49) q) ?_
        show Dn p e below s _ _ _ s₁ (mkF m 51 #[.val (.int x0), .val (.int (31 : Int32))] [(.int (16 : Int32)), (.int x0)])
        by_cases c4 : x0 < (16 : Int32)
        · refine Dn.st (fun t q => XS.icmpYes X0.here hx rfl (pc0 := 51) (pc' := 61) rfl (hb hby d6_51) rfl (tlt c4).1 (by decide) (by decide) q) ?_
          show Dn p e below s _ _ _ s₁ (mkF m 61 #[.val (.int x0), .val (.int (31 : Int32))] [])
          refine Dn.st (fun t q => XS.iloadN X0.here hx rfl (hb hby d6_61) rfl  q) ?_
          show Dn p e below s _ _ _ s₁ (mkF m 62 #[.val (.int x0), .val (.int (31 : Int32))] [(.int x0)])
          refine Dn.st (fun t q => XS.iconst X0.here hx rfl (hb hby d6_62) q) ?_
          show Dn p e below s _ _ _ s₁ (mkF m 63 #[.val (.int x0), .val (.int (31 : Int32))] [(.int (4 : Int32)), (.int x0)])
          by_cases c5 : x0 < (4 : Int32)
          · refine Dn.st (fun t q => XS.icmpYes X0.here hx rfl (pc0 := 63) (pc' := 73) rfl (hb hby d6_63) rfl (tlt c5).1 (by decide) (by decide) q) ?_
            show Dn p e below s _ _ _ s₁ (mkF m 73 #[.val (.int x0), .val (.int (31 : Int32))] [])
            refine Dn.st (fun t q => XS.iloadN X0.here hx rfl (hb hby d6_73) rfl  q) ?_
            show Dn p e below s _ _ _ s₁ (mkF m 74 #[.val (.int x0), .val (.int (31 : Int32))] [(.int (31 : Int32))])
            refine Dn.st (fun t q => XS.iloadN X0.here hx rfl (hb hby d6_74) rfl  q) ?_
            show Dn p e below s _ _ _ s₁ (mkF m 75 #[.val (.int x0), .val (.int (31 : Int32))] [(.int x0), (.int (31 : Int32))])
            refine Dn.st (fun t q => XS.iconst X0.here hx rfl (hb hby d6_75) q) ?_
            show Dn p e below s _ _ _ s₁ (mkF m 76 #[.val (.int x0), .val (.int (31 : Int32))] [(.int (1 : Int32)), (.int x0), (.int (31 : Int32))])
            refine Dn.st (fun t q => XS.iushr X0.here hx rfl (hb hby d6_76) rfl q) ?_
            show Dn p e below s _ _ _ s₁ (mkF m 77 #[.val (.int x0), .val (.int (31 : Int32))] [(.int ((x0.toUInt32 >>> ((1 : Int32) &&& 31).toUInt32).toInt32)), (.int (31 : Int32))])
            refine Dn.st (fun t q => XS.isub X0.here hx rfl (hb hby d6_77) rfl q) ?_
            show Dn p e below s _ _ _ s₁ (mkF m 78 #[.val (.int x0), .val (.int (31 : Int32))] [(.int ((31 : Int32) - ((x0.toUInt32 >>> ((1 : Int32) &&& 31).toUInt32).toInt32)))])
            exact Dn.retI X0 hx Bd.notSynchronized Bd.returns (hb hby d6_78) (by rw [e0]; exact ⟨by show some (Value.int ((31 : Int32) - ((x0.toUInt32 >>> ((1 : Int32) &&& 31).toUInt32).toInt32))) = some (Value.int (own_nlz x0)); rw [own_nlz, if_pos c1, if_pos c2, if_pos c3, if_pos c4, if_pos c5], N0, rfl⟩) (by decide) (by decide)
          · refine Dn.st (fun t q => XS.icmpNo X0.here hx rfl (hb hby d6_63) rfl (flt c5).1 q) ?_
            show Dn p e below s _ _ _ s₁ (mkF m 66 #[.val (.int x0), .val (.int (31 : Int32))] [])
            refine Dn.st (fun t q => XS.iinc X0.here hx rfl (hb hby d6_66) rfl (l' := #[.val (.int x0), .val (.int ((31 : Int32) + (-2 : Int32)))]) rfl q) ?_
            show Dn p e below s _ _ _ s₁ (mkF m 69 #[.val (.int x0), .val (.int ((31 : Int32) + (-2 : Int32)))] [])
            refine Dn.st (fun t q => XS.iloadN X0.here hx rfl (hb hby d6_69) rfl  q) ?_
            show Dn p e below s _ _ _ s₁ (mkF m 70 #[.val (.int x0), .val (.int ((31 : Int32) + (-2 : Int32)))] [(.int x0)])
            refine Dn.st (fun t q => XS.iconst X0.here hx rfl (hb hby d6_70) q) ?_
            show Dn p e below s _ _ _ s₁ (mkF m 71 #[.val (.int x0), .val (.int ((31 : Int32) + (-2 : Int32)))] [(.int (2 : Int32)), (.int x0)])
            refine Dn.st (fun t q => XS.iushr X0.here hx rfl (hb hby d6_71) rfl q) ?_
            show Dn p e below s _ _ _ s₁ (mkF m 72 #[.val (.int x0), .val (.int ((31 : Int32) + (-2 : Int32)))] [(.int ((x0.toUInt32 >>> ((2 : Int32) &&& 31).toUInt32).toInt32))])
            refine Dn.st (fun t q => XS.istoreN X0.here hx rfl (hb hby d6_72) rfl (l' := #[.val (.int ((x0.toUInt32 >>> ((2 : Int32) &&& 31).toUInt32).toInt32)), .val (.int ((31 : Int32) + (-2 : Int32)))]) rfl q) ?_
            show Dn p e below s _ _ _ s₁ (mkF m 73 #[.val (.int ((x0.toUInt32 >>> ((2 : Int32) &&& 31).toUInt32).toInt32)), .val (.int ((31 : Int32) + (-2 : Int32)))] [])
            refine Dn.st (fun t q => XS.iloadN X0.here hx rfl (hb hby d6_73) rfl  q) ?_
            show Dn p e below s _ _ _ s₁ (mkF m 74 #[.val (.int ((x0.toUInt32 >>> ((2 : Int32) &&& 31).toUInt32).toInt32)), .val (.int ((31 : Int32) + (-2 : Int32)))] [(.int ((31 : Int32) + (-2 : Int32)))])
            refine Dn.st (fun t q => XS.iloadN X0.here hx rfl (hb hby d6_74) rfl  q) ?_
            show Dn p e below s _ _ _ s₁ (mkF m 75 #[.val (.int ((x0.toUInt32 >>> ((2 : Int32) &&& 31).toUInt32).toInt32)), .val (.int ((31 : Int32) + (-2 : Int32)))] [(.int ((x0.toUInt32 >>> ((2 : Int32) &&& 31).toUInt32).toInt32)), (.int ((31 : Int32) + (-2 : Int32)))])
            refine Dn.st (fun t q => XS.iconst X0.here hx rfl (hb hby d6_75) q) ?_
            show Dn p e below s _ _ _ s₁ (mkF m 76 #[.val (.int ((x0.toUInt32 >>> ((2 : Int32) &&& 31).toUInt32).toInt32)), .val (.int ((31 : Int32) + (-2 : Int32)))] [(.int (1 : Int32)), (.int ((x0.toUInt32 >>> ((2 : Int32) &&& 31).toUInt32).toInt32)), (.int ((31 : Int32) + (-2 : Int32)))])
            refine Dn.st (fun t q => XS.iushr X0.here hx rfl (hb hby d6_76) rfl q) ?_
            show Dn p e below s _ _ _ s₁ (mkF m 77 #[.val (.int ((x0.toUInt32 >>> ((2 : Int32) &&& 31).toUInt32).toInt32)), .val (.int ((31 : Int32) + (-2 : Int32)))] [(.int ((((x0.toUInt32 >>> ((2 : Int32) &&& 31).toUInt32).toInt32).toUInt32 >>> ((1 : Int32) &&& 31).toUInt32).toInt32)), (.int ((31 : Int32) + (-2 : Int32)))])
            refine Dn.st (fun t q => XS.isub X0.here hx rfl (hb hby d6_77) rfl q) ?_
            show Dn p e below s _ _ _ s₁ (mkF m 78 #[.val (.int ((x0.toUInt32 >>> ((2 : Int32) &&& 31).toUInt32).toInt32)), .val (.int ((31 : Int32) + (-2 : Int32)))] [(.int (((31 : Int32) + (-2 : Int32)) - ((((x0.toUInt32 >>> ((2 : Int32) &&& 31).toUInt32).toInt32).toUInt32 >>> ((1 : Int32) &&& 31).toUInt32).toInt32)))])
            exact Dn.retI X0 hx Bd.notSynchronized Bd.returns (hb hby d6_78) (by rw [e0]; exact ⟨by show some (Value.int (((31 : Int32) + (-2 : Int32)) - ((((x0.toUInt32 >>> ((2 : Int32) &&& 31).toUInt32).toInt32).toUInt32 >>> ((1 : Int32) &&& 31).toUInt32).toInt32))) = some (Value.int (own_nlz x0)); rw [own_nlz, if_pos c1, if_pos c2, if_pos c3, if_pos c4, if_neg c5], N0, rfl⟩) (by decide) (by decide)
        · refine Dn.st (fun t q => XS.icmpNo X0.here hx rfl (hb hby d6_51) rfl (flt c4).1 q) ?_
          show Dn p e below s _ _ _ s₁ (mkF m 54 #[.val (.int x0), .val (.int (31 : Int32))] [])
          refine Dn.st (fun t q => XS.iinc X0.here hx rfl (hb hby d6_54) rfl (l' := #[.val (.int x0), .val (.int ((31 : Int32) + (-4 : Int32)))]) rfl q) ?_
          show Dn p e below s _ _ _ s₁ (mkF m 57 #[.val (.int x0), .val (.int ((31 : Int32) + (-4 : Int32)))] [])
          refine Dn.st (fun t q => XS.iloadN X0.here hx rfl (hb hby d6_57) rfl  q) ?_
          show Dn p e below s _ _ _ s₁ (mkF m 58 #[.val (.int x0), .val (.int ((31 : Int32) + (-4 : Int32)))] [(.int x0)])
          refine Dn.st (fun t q => XS.iconst X0.here hx rfl (hb hby d6_58) q) ?_
          show Dn p e below s _ _ _ s₁ (mkF m 59 #[.val (.int x0), .val (.int ((31 : Int32) + (-4 : Int32)))] [(.int (4 : Int32)), (.int x0)])
          refine Dn.st (fun t q => XS.iushr X0.here hx rfl (hb hby d6_59) rfl q) ?_
          show Dn p e below s _ _ _ s₁ (mkF m 60 #[.val (.int x0), .val (.int ((31 : Int32) + (-4 : Int32)))] [(.int ((x0.toUInt32 >>> ((4 : Int32) &&& 31).toUInt32).toInt32))])
          refine Dn.st (fun t q => XS.istoreN X0.here hx rfl (hb hby d6_60) rfl (l' := #[.val (.int ((x0.toUInt32 >>> ((4 : Int32) &&& 31).toUInt32).toInt32)), .val (.int ((31 : Int32) + (-4 : Int32)))]) rfl q) ?_
          show Dn p e below s _ _ _ s₁ (mkF m 61 #[.val (.int ((x0.toUInt32 >>> ((4 : Int32) &&& 31).toUInt32).toInt32)), .val (.int ((31 : Int32) + (-4 : Int32)))] [])
          refine Dn.st (fun t q => XS.iloadN X0.here hx rfl (hb hby d6_61) rfl  q) ?_
          show Dn p e below s _ _ _ s₁ (mkF m 62 #[.val (.int ((x0.toUInt32 >>> ((4 : Int32) &&& 31).toUInt32).toInt32)), .val (.int ((31 : Int32) + (-4 : Int32)))] [(.int ((x0.toUInt32 >>> ((4 : Int32) &&& 31).toUInt32).toInt32))])
          refine Dn.st (fun t q => XS.iconst X0.here hx rfl (hb hby d6_62) q) ?_
          show Dn p e below s _ _ _ s₁ (mkF m 63 #[.val (.int ((x0.toUInt32 >>> ((4 : Int32) &&& 31).toUInt32).toInt32)), .val (.int ((31 : Int32) + (-4 : Int32)))] [(.int (4 : Int32)), (.int ((x0.toUInt32 >>> ((4 : Int32) &&& 31).toUInt32).toInt32))])
          by_cases c6 : ((x0.toUInt32 >>> ((4 : Int32) &&& 31).toUInt32).toInt32) < (4 : Int32)
          · refine Dn.st (fun t q => XS.icmpYes X0.here hx rfl (pc0 := 63) (pc' := 73) rfl (hb hby d6_63) rfl (tlt c6).1 (by decide) (by decide) q) ?_
            show Dn p e below s _ _ _ s₁ (mkF m 73 #[.val (.int ((x0.toUInt32 >>> ((4 : Int32) &&& 31).toUInt32).toInt32)), .val (.int ((31 : Int32) + (-4 : Int32)))] [])
            refine Dn.st (fun t q => XS.iloadN X0.here hx rfl (hb hby d6_73) rfl  q) ?_
            show Dn p e below s _ _ _ s₁ (mkF m 74 #[.val (.int ((x0.toUInt32 >>> ((4 : Int32) &&& 31).toUInt32).toInt32)), .val (.int ((31 : Int32) + (-4 : Int32)))] [(.int ((31 : Int32) + (-4 : Int32)))])
            refine Dn.st (fun t q => XS.iloadN X0.here hx rfl (hb hby d6_74) rfl  q) ?_
            show Dn p e below s _ _ _ s₁ (mkF m 75 #[.val (.int ((x0.toUInt32 >>> ((4 : Int32) &&& 31).toUInt32).toInt32)), .val (.int ((31 : Int32) + (-4 : Int32)))] [(.int ((x0.toUInt32 >>> ((4 : Int32) &&& 31).toUInt32).toInt32)), (.int ((31 : Int32) + (-4 : Int32)))])
            refine Dn.st (fun t q => XS.iconst X0.here hx rfl (hb hby d6_75) q) ?_
            show Dn p e below s _ _ _ s₁ (mkF m 76 #[.val (.int ((x0.toUInt32 >>> ((4 : Int32) &&& 31).toUInt32).toInt32)), .val (.int ((31 : Int32) + (-4 : Int32)))] [(.int (1 : Int32)), (.int ((x0.toUInt32 >>> ((4 : Int32) &&& 31).toUInt32).toInt32)), (.int ((31 : Int32) + (-4 : Int32)))])
            refine Dn.st (fun t q => XS.iushr X0.here hx rfl (hb hby d6_76) rfl q) ?_
            show Dn p e below s _ _ _ s₁ (mkF m 77 #[.val (.int ((x0.toUInt32 >>> ((4 : Int32) &&& 31).toUInt32).toInt32)), .val (.int ((31 : Int32) + (-4 : Int32)))] [(.int ((((x0.toUInt32 >>> ((4 : Int32) &&& 31).toUInt32).toInt32).toUInt32 >>> ((1 : Int32) &&& 31).toUInt32).toInt32)), (.int ((31 : Int32) + (-4 : Int32)))])
            refine Dn.st (fun t q => XS.isub X0.here hx rfl (hb hby d6_77) rfl q) ?_
            show Dn p e below s _ _ _ s₁ (mkF m 78 #[.val (.int ((x0.toUInt32 >>> ((4 : Int32) &&& 31).toUInt32).toInt32)), .val (.int ((31 : Int32) + (-4 : Int32)))] [(.int (((31 : Int32) + (-4 : Int32)) - ((((x0.toUInt32 >>> ((4 : Int32) &&& 31).toUInt32).toInt32).toUInt32 >>> ((1 : Int32) &&& 31).toUInt32).toInt32)))])
            exact Dn.retI X0 hx Bd.notSynchronized Bd.returns (hb hby d6_78) (by rw [e0]; exact ⟨by show some (Value.int (((31 : Int32) + (-4 : Int32)) - ((((x0.toUInt32 >>> ((4 : Int32) &&& 31).toUInt32).toInt32).toUInt32 >>> ((1 : Int32) &&& 31).toUInt32).toInt32))) = some (Value.int (own_nlz x0)); rw [own_nlz, if_pos c1, if_pos c2, if_pos c3, if_neg c4, if_pos c6], N0, rfl⟩) (by decide) (by decide)
          · refine Dn.st (fun t q => XS.icmpNo X0.here hx rfl (hb hby d6_63) rfl (flt c6).1 q) ?_
            show Dn p e below s _ _ _ s₁ (mkF m 66 #[.val (.int ((x0.toUInt32 >>> ((4 : Int32) &&& 31).toUInt32).toInt32)), .val (.int ((31 : Int32) + (-4 : Int32)))] [])
            refine Dn.st (fun t q => XS.iinc X0.here hx rfl (hb hby d6_66) rfl (l' := #[.val (.int ((x0.toUInt32 >>> ((4 : Int32) &&& 31).toUInt32).toInt32)), .val (.int (((31 : Int32) + (-4 : Int32)) + (-2 : Int32)))]) rfl q) ?_
            show Dn p e below s _ _ _ s₁ (mkF m 69 #[.val (.int ((x0.toUInt32 >>> ((4 : Int32) &&& 31).toUInt32).toInt32)), .val (.int (((31 : Int32) + (-4 : Int32)) + (-2 : Int32)))] [])
            refine Dn.st (fun t q => XS.iloadN X0.here hx rfl (hb hby d6_69) rfl  q) ?_
            show Dn p e below s _ _ _ s₁ (mkF m 70 #[.val (.int ((x0.toUInt32 >>> ((4 : Int32) &&& 31).toUInt32).toInt32)), .val (.int (((31 : Int32) + (-4 : Int32)) + (-2 : Int32)))] [(.int ((x0.toUInt32 >>> ((4 : Int32) &&& 31).toUInt32).toInt32))])
            refine Dn.st (fun t q => XS.iconst X0.here hx rfl (hb hby d6_70) q) ?_
            show Dn p e below s _ _ _ s₁ (mkF m 71 #[.val (.int ((x0.toUInt32 >>> ((4 : Int32) &&& 31).toUInt32).toInt32)), .val (.int (((31 : Int32) + (-4 : Int32)) + (-2 : Int32)))] [(.int (2 : Int32)), (.int ((x0.toUInt32 >>> ((4 : Int32) &&& 31).toUInt32).toInt32))])
            refine Dn.st (fun t q => XS.iushr X0.here hx rfl (hb hby d6_71) rfl q) ?_
            show Dn p e below s _ _ _ s₁ (mkF m 72 #[.val (.int ((x0.toUInt32 >>> ((4 : Int32) &&& 31).toUInt32).toInt32)), .val (.int (((31 : Int32) + (-4 : Int32)) + (-2 : Int32)))] [(.int ((((x0.toUInt32 >>> ((4 : Int32) &&& 31).toUInt32).toInt32).toUInt32 >>> ((2 : Int32) &&& 31).toUInt32).toInt32))])
            refine Dn.st (fun t q => XS.istoreN X0.here hx rfl (hb hby d6_72) rfl (l' := #[.val (.int ((((x0.toUInt32 >>> ((4 : Int32) &&& 31).toUInt32).toInt32).toUInt32 >>> ((2 : Int32) &&& 31).toUInt32).toInt32)), .val (.int (((31 : Int32) + (-4 : Int32)) + (-2 : Int32)))]) rfl q) ?_
            show Dn p e below s _ _ _ s₁ (mkF m 73 #[.val (.int ((((x0.toUInt32 >>> ((4 : Int32) &&& 31).toUInt32).toInt32).toUInt32 >>> ((2 : Int32) &&& 31).toUInt32).toInt32)), .val (.int (((31 : Int32) + (-4 : Int32)) + (-2 : Int32)))] [])
            refine Dn.st (fun t q => XS.iloadN X0.here hx rfl (hb hby d6_73) rfl  q) ?_
            show Dn p e below s _ _ _ s₁ (mkF m 74 #[.val (.int ((((x0.toUInt32 >>> ((4 : Int32) &&& 31).toUInt32).toInt32).toUInt32 >>> ((2 : Int32) &&& 31).toUInt32).toInt32)), .val (.int (((31 : Int32) + (-4 : Int32)) + (-2 : Int32)))] [(.int (((31 : Int32) + (-4 : Int32)) + (-2 : Int32)))])
            refine Dn.st (fun t q => XS.iloadN X0.here hx rfl (hb hby d6_74) rfl  q) ?_
            show Dn p e below s _ _ _ s₁ (mkF m 75 #[.val (.int ((((x0.toUInt32 >>> ((4 : Int32) &&& 31).toUInt32).toInt32).toUInt32 >>> ((2 : Int32) &&& 31).toUInt32).toInt32)), .val (.int (((31 : Int32) + (-4 : Int32)) + (-2 : Int32)))] [(.int ((((x0.toUInt32 >>> ((4 : Int32) &&& 31).toUInt32).toInt32).toUInt32 >>> ((2 : Int32) &&& 31).toUInt32).toInt32)), (.int (((31 : Int32) + (-4 : Int32)) + (-2 : Int32)))])
            refine Dn.st (fun t q => XS.iconst X0.here hx rfl (hb hby d6_75) q) ?_
            show Dn p e below s _ _ _ s₁ (mkF m 76 #[.val (.int ((((x0.toUInt32 >>> ((4 : Int32) &&& 31).toUInt32).toInt32).toUInt32 >>> ((2 : Int32) &&& 31).toUInt32).toInt32)), .val (.int (((31 : Int32) + (-4 : Int32)) + (-2 : Int32)))] [(.int (1 : Int32)), (.int ((((x0.toUInt32 >>> ((4 : Int32) &&& 31).toUInt32).toInt32).toUInt32 >>> ((2 : Int32) &&& 31).toUInt32).toInt32)), (.int (((31 : Int32) + (-4 : Int32)) + (-2 : Int32)))])
            refine Dn.st (fun t q => XS.iushr X0.here hx rfl (hb hby d6_76) rfl q) ?_
            show Dn p e below s _ _ _ s₁ (mkF m 77 #[.val (.int ((((x0.toUInt32 >>> ((4 : Int32) &&& 31).toUInt32).toInt32).toUInt32 >>> ((2 : Int32) &&& 31).toUInt32).toInt32)), .val (.int (((31 : Int32) + (-4 : Int32)) + (-2 : Int32)))] [(.int ((((((x0.toUInt32 >>> ((4 : Int32) &&& 31).toUInt32).toInt32).toUInt32 >>> ((2 : Int32) &&& 31).toUInt32).toInt32).toUInt32 >>> ((1 : Int32) &&& 31).toUInt32).toInt32)), (.int (((31 : Int32) + (-4 : Int32)) + (-2 : Int32)))])
            refine Dn.st (fun t q => XS.isub X0.here hx rfl (hb hby d6_77) rfl q) ?_
            show Dn p e below s _ _ _ s₁ (mkF m 78 #[.val (.int ((((x0.toUInt32 >>> ((4 : Int32) &&& 31).toUInt32).toInt32).toUInt32 >>> ((2 : Int32) &&& 31).toUInt32).toInt32)), .val (.int (((31 : Int32) + (-4 : Int32)) + (-2 : Int32)))] [(.int ((((31 : Int32) + (-4 : Int32)) + (-2 : Int32)) - ((((((x0.toUInt32 >>> ((4 : Int32) &&& 31).toUInt32).toInt32).toUInt32 >>> ((2 : Int32) &&& 31).toUInt32).toInt32).toUInt32 >>> ((1 : Int32) &&& 31).toUInt32).toInt32)))])
            exact Dn.retI X0 hx Bd.notSynchronized Bd.returns (hb hby d6_78) (by rw [e0]; exact ⟨by show some (Value.int ((((31 : Int32) + (-4 : Int32)) + (-2 : Int32)) - ((((((x0.toUInt32 >>> ((4 : Int32) &&& 31).toUInt32).toInt32).toUInt32 >>> ((2 : Int32) &&& 31).toUInt32).toInt32).toUInt32 >>> ((1 : Int32) &&& 31).toUInt32).toInt32))) = some (Value.int (own_nlz x0)); rw [own_nlz, if_pos c1, if_pos c2, if_pos c3, if_neg c4, if_neg c6], N0, rfl⟩) (by decide) (by decide)
      · refine Dn.st (fun t q => XS.icmpNo X0.here hx rfl (hb hby d6_37) rfl (flt c3).1 q) ?_
        show Dn p e below s _ _ _ s₁ (mkF m 40 #[.val (.int x0), .val (.int (31 : Int32))] [])
        refine Dn.st (fun t q => XS.iinc X0.here hx rfl (hb hby d6_40) rfl (l' := #[.val (.int x0), .val (.int ((31 : Int32) + (-8 : Int32)))]) rfl q) ?_
        show Dn p e below s _ _ _ s₁ (mkF m 43 #[.val (.int x0), .val (.int ((31 : Int32) + (-8 : Int32)))] [])
        refine Dn.st (fun t q => XS.iloadN X0.here hx rfl (hb hby d6_43) rfl  q) ?_
        show Dn p e below s _ _ _ s₁ (mkF m 44 #[.val (.int x0), .val (.int ((31 : Int32) + (-8 : Int32)))] [(.int x0)])
        refine Dn.st (fun t q => XS.bipush X0.here hx rfl (hb hby d6_44) q) ?_
        show Dn p e below s _ _ _ s₁ (mkF m 46 #[.val (.int x0), .val (.int ((31 : Int32) + (-8 : Int32)))] [(.int (8 : Int32)), (.int x0)])
        refine Dn.st (fun t q => XS.iushr X0.here hx rfl (hb hby d6_46) rfl q) ?_
        show Dn p e below s _ _ _ s₁ (mkF m 47 #[.val (.int x0), .val (.int ((31 : Int32) + (-8 : Int32)))] [(.int ((x0.toUInt32 >>> ((8 : Int32) &&& 31).toUInt32).toInt32))])
        refine Dn.st (fun t q => XS.istoreN X0.here hx rfl (hb hby d6_47) rfl (l' := #[.val (.int ((x0.toUInt32 >>> ((8 : Int32) &&& 31).toUInt32).toInt32)), .val (.int ((31 : Int32) + (-8 : Int32)))]) rfl q) ?_
        show Dn p e below s _ _ _ s₁ (mkF m 48 #[.val (.int ((x0.toUInt32 >>> ((8 : Int32) &&& 31).toUInt32).toInt32)), .val (.int ((31 : Int32) + (-8 : Int32)))] [])
        refine Dn.st (fun t q => XS.iloadN X0.here hx rfl (hb hby d6_48) rfl  q) ?_
        show Dn p e below s _ _ _ s₁ (mkF m 49 #[.val (.int ((x0.toUInt32 >>> ((8 : Int32) &&& 31).toUInt32).toInt32)), .val (.int ((31 : Int32) + (-8 : Int32)))] [(.int ((x0.toUInt32 >>> ((8 : Int32) &&& 31).toUInt32).toInt32))])
        refine Dn.st (fun t q => XS.bipush X0.here hx rfl (hb hby d6_49) q) ?_
        show Dn p e below s _ _ _ s₁ (mkF m 51 #[.val (.int ((x0.toUInt32 >>> ((8 : Int32) &&& 31).toUInt32).toInt32)), .val (.int ((31 : Int32) + (-8 : Int32)))] [(.int (16 : Int32)), (.int ((x0.toUInt32 >>> ((8 : Int32) &&& 31).toUInt32).toInt32))])
        by_cases c7 : ((x0.toUInt32 >>> ((8 : Int32) &&& 31).toUInt32).toInt32) < (16 : Int32)
        · refine Dn.st (fun t q => XS.icmpYes X0.here hx rfl (pc0 := 51) (pc' := 61) rfl (hb hby d6_51) rfl (tlt c7).1 (by decide) (by decide) q) ?_
          show Dn p e below s _ _ _ s₁ (mkF m 61 #[.val (.int ((x0.toUInt32 >>> ((8 : Int32) &&& 31).toUInt32).toInt32)), .val (.int ((31 : Int32) + (-8 : Int32)))] [])
          refine Dn.st (fun t q => XS.iloadN X0.here hx rfl (hb hby d6_61) rfl  q) ?_
          show Dn p e below s _ _ _ s₁ (mkF m 62 #[.val (.int ((x0.toUInt32 >>> ((8 : Int32) &&& 31).toUInt32).toInt32)), .val (.int ((31 : Int32) + (-8 : Int32)))] [(.int ((x0.toUInt32 >>> ((8 : Int32) &&& 31).toUInt32).toInt32))])
          refine Dn.st (fun t q => XS.iconst X0.here hx rfl (hb hby d6_62) q) ?_
          show Dn p e below s _ _ _ s₁ (mkF m 63 #[.val (.int ((x0.toUInt32 >>> ((8 : Int32) &&& 31).toUInt32).toInt32)), .val (.int ((31 : Int32) + (-8 : Int32)))] [(.int (4 : Int32)), (.int ((x0.toUInt32 >>> ((8 : Int32) &&& 31).toUInt32).toInt32))])
          by_cases c8 : ((x0.toUInt32 >>> ((8 : Int32) &&& 31).toUInt32).toInt32) < (4 : Int32)
          · refine Dn.st (fun t q => XS.icmpYes X0.here hx rfl (pc0 := 63) (pc' := 73) rfl (hb hby d6_63) rfl (tlt c8).1 (by decide) (by decide) q) ?_
            show Dn p e below s _ _ _ s₁ (mkF m 73 #[.val (.int ((x0.toUInt32 >>> ((8 : Int32) &&& 31).toUInt32).toInt32)), .val (.int ((31 : Int32) + (-8 : Int32)))] [])
            refine Dn.st (fun t q => XS.iloadN X0.here hx rfl (hb hby d6_73) rfl  q) ?_
            show Dn p e below s _ _ _ s₁ (mkF m 74 #[.val (.int ((x0.toUInt32 >>> ((8 : Int32) &&& 31).toUInt32).toInt32)), .val (.int ((31 : Int32) + (-8 : Int32)))] [(.int ((31 : Int32) + (-8 : Int32)))])
            refine Dn.st (fun t q => XS.iloadN X0.here hx rfl (hb hby d6_74) rfl  q) ?_
            show Dn p e below s _ _ _ s₁ (mkF m 75 #[.val (.int ((x0.toUInt32 >>> ((8 : Int32) &&& 31).toUInt32).toInt32)), .val (.int ((31 : Int32) + (-8 : Int32)))] [(.int ((x0.toUInt32 >>> ((8 : Int32) &&& 31).toUInt32).toInt32)), (.int ((31 : Int32) + (-8 : Int32)))])
            refine Dn.st (fun t q => XS.iconst X0.here hx rfl (hb hby d6_75) q) ?_
            show Dn p e below s _ _ _ s₁ (mkF m 76 #[.val (.int ((x0.toUInt32 >>> ((8 : Int32) &&& 31).toUInt32).toInt32)), .val (.int ((31 : Int32) + (-8 : Int32)))] [(.int (1 : Int32)), (.int ((x0.toUInt32 >>> ((8 : Int32) &&& 31).toUInt32).toInt32)), (.int ((31 : Int32) + (-8 : Int32)))])
            refine Dn.st (fun t q => XS.iushr X0.here hx rfl (hb hby d6_76) rfl q) ?_
            show Dn p e below s _ _ _ s₁ (mkF m 77 #[.val (.int ((x0.toUInt32 >>> ((8 : Int32) &&& 31).toUInt32).toInt32)), .val (.int ((31 : Int32) + (-8 : Int32)))] [(.int ((((x0.toUInt32 >>> ((8 : Int32) &&& 31).toUInt32).toInt32).toUInt32 >>> ((1 : Int32) &&& 31).toUInt32).toInt32)), (.int ((31 : Int32) + (-8 : Int32)))])
            refine Dn.st (fun t q => XS.isub X0.here hx rfl (hb hby d6_77) rfl q) ?_
            show Dn p e below s _ _ _ s₁ (mkF m 78 #[.val (.int ((x0.toUInt32 >>> ((8 : Int32) &&& 31).toUInt32).toInt32)), .val (.int ((31 : Int32) + (-8 : Int32)))] [(.int (((31 : Int32) + (-8 : Int32)) - ((((x0.toUInt32 >>> ((8 : Int32) &&& 31).toUInt32).toInt32).toUInt32 >>> ((1 : Int32) &&& 31).toUInt32).toInt32)))])
            exact Dn.retI X0 hx Bd.notSynchronized Bd.returns (hb hby d6_78) (by rw [e0]; exact ⟨by show some (Value.int (((31 : Int32) + (-8 : Int32)) - ((((x0.toUInt32 >>> ((8 : Int32) &&& 31).toUInt32).toInt32).toUInt32 >>> ((1 : Int32) &&& 31).toUInt32).toInt32))) = some (Value.int (own_nlz x0)); rw [own_nlz, if_pos c1, if_pos c2, if_neg c3, if_pos c7, if_pos c8], N0, rfl⟩) (by decide) (by decide)
          · refine Dn.st (fun t q => XS.icmpNo X0.here hx rfl (hb hby d6_63) rfl (flt c8).1 q) ?_
            show Dn p e below s _ _ _ s₁ (mkF m 66 #[.val (.int ((x0.toUInt32 >>> ((8 : Int32) &&& 31).toUInt32).toInt32)), .val (.int ((31 : Int32) + (-8 : Int32)))] [])
            refine Dn.st (fun t q => XS.iinc X0.here hx rfl (hb hby d6_66) rfl (l' := #[.val (.int ((x0.toUInt32 >>> ((8 : Int32) &&& 31).toUInt32).toInt32)), .val (.int (((31 : Int32) + (-8 : Int32)) + (-2 : Int32)))]) rfl q) ?_
            show Dn p e below s _ _ _ s₁ (mkF m 69 #[.val (.int ((x0.toUInt32 >>> ((8 : Int32) &&& 31).toUInt32).toInt32)), .val (.int (((31 : Int32) + (-8 : Int32)) + (-2 : Int32)))] [])
            refine Dn.st (fun t q => XS.iloadN X0.here hx rfl (hb hby d6_69) rfl  q) ?_
            show Dn p e below s _ _ _ s₁ (mkF m 70 #[.val (.int ((x0.toUInt32 >>> ((8 : Int32) &&& 31).toUInt32).toInt32)), .val (.int (((31 : Int32) + (-8 : Int32)) + (-2 : Int32)))] [(.int ((x0.toUInt32 >>> ((8 : Int32) &&& 31).toUInt32).toInt32))])
            refine Dn.st (fun t q => XS.iconst X0.here hx rfl (hb hby d6_70) q) ?_
            show Dn p e below s _ _ _ s₁ (mkF m 71 #[.val (.int ((x0.toUInt32 >>> ((8 : Int32) &&& 31).toUInt32).toInt32)), .val (.int (((31 : Int32) + (-8 : Int32)) + (-2 : Int32)))] [(.int (2 : Int32)), (.int ((x0.toUInt32 >>> ((8 : Int32) &&& 31).toUInt32).toInt32))])
            refine Dn.st (fun t q => XS.iushr X0.here hx rfl (hb hby d6_71) rfl q) ?_
            show Dn p e below s _ _ _ s₁ (mkF m 72 #[.val (.int ((x0.toUInt32 >>> ((8 : Int32) &&& 31).toUInt32).toInt32)), .val (.int (((31 : Int32) + (-8 : Int32)) + (-2 : Int32)))] [(.int ((((x0.toUInt32 >>> ((8 : Int32) &&& 31).toUInt32).toInt32).toUInt32 >>> ((2 : Int32) &&& 31).toUInt32).toInt32))])
            refine Dn.st (fun t q => XS.istoreN X0.here hx rfl (hb hby d6_72) rfl (l' := #[.val (.int ((((x0.toUInt32 >>> ((8 : Int32) &&& 31).toUInt32).toInt32).toUInt32 >>> ((2 : Int32) &&& 31).toUInt32).toInt32)), .val (.int (((31 : Int32) + (-8 : Int32)) + (-2 : Int32)))]) rfl q) ?_
            show Dn p e below s _ _ _ s₁ (mkF m 73 #[.val (.int ((((x0.toUInt32 >>> ((8 : Int32) &&& 31).toUInt32).toInt32).toUInt32 >>> ((2 : Int32) &&& 31).toUInt32).toInt32)), .val (.int (((31 : Int32) + (-8 : Int32)) + (-2 : Int32)))] [])
            refine Dn.st (fun t q => XS.iloadN X0.here hx rfl (hb hby d6_73) rfl  q) ?_
            show Dn p e below s _ _ _ s₁ (mkF m 74 #[.val (.int ((((x0.toUInt32 >>> ((8 : Int32) &&& 31).toUInt32).toInt32).toUInt32 >>> ((2 : Int32) &&& 31).toUInt32).toInt32)), .val (.int (((31 : Int32) + (-8 : Int32)) + (-2 : Int32)))] [(.int (((31 : Int32) + (-8 : Int32)) + (-2 : Int32)))])
            refine Dn.st (fun t q => XS.iloadN X0.here hx rfl (hb hby d6_74) rfl  q) ?_
            show Dn p e below s _ _ _ s₁ (mkF m 75 #[.val (.int ((((x0.toUInt32 >>> ((8 : Int32) &&& 31).toUInt32).toInt32).toUInt32 >>> ((2 : Int32) &&& 31).toUInt32).toInt32)), .val (.int (((31 : Int32) + (-8 : Int32)) + (-2 : Int32)))] [(.int ((((x0.toUInt32 >>> ((8 : Int32) &&& 31).toUInt32).toInt32).toUInt32 >>> ((2 : Int32) &&& 31).toUInt32).toInt32)), (.int (((31 : Int32) + (-8 : Int32)) + (-2 : Int32)))])
            refine Dn.st (fun t q => XS.iconst X0.here hx rfl (hb hby d6_75) q) ?_
            show Dn p e below s _ _ _ s₁ (mkF m 76 #[.val (.int ((((x0.toUInt32 >>> ((8 : Int32) &&& 31).toUInt32).toInt32).toUInt32 >>> ((2 : Int32) &&& 31).toUInt32).toInt32)), .val (.int (((31 : Int32) + (-8 : Int32)) + (-2 : Int32)))] [(.int (1 : Int32)), (.int ((((x0.toUInt32 >>> ((8 : Int32) &&& 31).toUInt32).toInt32).toUInt32 >>> ((2 : Int32) &&& 31).toUInt32).toInt32)), (.int (((31 : Int32) + (-8 : Int32)) + (-2 : Int32)))])
            refine Dn.st (fun t q => XS.iushr X0.here hx rfl (hb hby d6_76) rfl q) ?_
            show Dn p e below s _ _ _ s₁ (mkF m 77 #[.val (.int ((((x0.toUInt32 >>> ((8 : Int32) &&& 31).toUInt32).toInt32).toUInt32 >>> ((2 : Int32) &&& 31).toUInt32).toInt32)), .val (.int (((31 : Int32) + (-8 : Int32)) + (-2 : Int32)))] [(.int ((((((x0.toUInt32 >>> ((8 : Int32) &&& 31).toUInt32).toInt32).toUInt32 >>> ((2 : Int32) &&& 31).toUInt32).toInt32).toUInt32 >>> ((1 : Int32) &&& 31).toUInt32).toInt32)), (.int (((31 : Int32) + (-8 : Int32)) + (-2 : Int32)))])
            refine Dn.st (fun t q => XS.isub X0.here hx rfl (hb hby d6_77) rfl q) ?_
            show Dn p e below s _ _ _ s₁ (mkF m 78 #[.val (.int ((((x0.toUInt32 >>> ((8 : Int32) &&& 31).toUInt32).toInt32).toUInt32 >>> ((2 : Int32) &&& 31).toUInt32).toInt32)), .val (.int (((31 : Int32) + (-8 : Int32)) + (-2 : Int32)))] [(.int ((((31 : Int32) + (-8 : Int32)) + (-2 : Int32)) - ((((((x0.toUInt32 >>> ((8 : Int32) &&& 31).toUInt32).toInt32).toUInt32 >>> ((2 : Int32) &&& 31).toUInt32).toInt32).toUInt32 >>> ((1 : Int32) &&& 31).toUInt32).toInt32)))])
            exact Dn.retI X0 hx Bd.notSynchronized Bd.returns (hb hby d6_78) (by rw [e0]; exact ⟨by show some (Value.int ((((31 : Int32) + (-8 : Int32)) + (-2 : Int32)) - ((((((x0.toUInt32 >>> ((8 : Int32) &&& 31).toUInt32).toInt32).toUInt32 >>> ((2 : Int32) &&& 31).toUInt32).toInt32).toUInt32 >>> ((1 : Int32) &&& 31).toUInt32).toInt32))) = some (Value.int (own_nlz x0)); rw [own_nlz, if_pos c1, if_pos c2, if_neg c3, if_pos c7, if_neg c8], N0, rfl⟩) (by decide) (by decide)
        · refine Dn.st (fun t q => XS.icmpNo X0.here hx rfl (hb hby d6_51) rfl (flt c7).1 q) ?_
          show Dn p e below s _ _ _ s₁ (mkF m 54 #[.val (.int ((x0.toUInt32 >>> ((8 : Int32) &&& 31).toUInt32).toInt32)), .val (.int ((31 : Int32) + (-8 : Int32)))] [])
          refine Dn.st (fun t q => XS.iinc X0.here hx rfl (hb hby d6_54) rfl (l' := #[.val (.int ((x0.toUInt32 >>> ((8 : Int32) &&& 31).toUInt32).toInt32)), .val (.int (((31 : Int32) + (-8 : Int32)) + (-4 : Int32)))]) rfl q) ?_
          show Dn p e below s _ _ _ s₁ (mkF m 57 #[.val (.int ((x0.toUInt32 >>> ((8 : Int32) &&& 31).toUInt32).toInt32)), .val (.int (((31 : Int32) + (-8 : Int32)) + (-4 : Int32)))] [])
          refine Dn.st (fun t q => XS.iloadN X0.here hx rfl (hb hby d6_57) rfl  q) ?_
          show Dn p e below s _ _ _ s₁ (mkF m 58 #[.val (.int ((x0.toUInt32 >>> ((8 : Int32) &&& 31).toUInt32).toInt32)), .val (.int (((31 : Int32) + (-8 : Int32)) + (-4 : Int32)))] [(.int ((x0.toUInt32 >>> ((8 : Int32) &&& 31).toUInt32).toInt32))])
          refine Dn.st (fun t q => XS.iconst X0.here hx rfl (hb hby d6_58) q) ?_
          show Dn p e below s _ _ _ s₁ (mkF m 59 #[.val (.int ((x0.toUInt32 >>> ((8 : Int32) &&& 31).toUInt32).toInt32)), .val (.int (((31 : Int32) + (-8 : Int32)) + (-4 : Int32)))] [(.int (4 : Int32)), (.int ((x0.toUInt32 >>> ((8 : Int32) &&& 31).toUInt32).toInt32))])
          refine Dn.st (fun t q => XS.iushr X0.here hx rfl (hb hby d6_59) rfl q) ?_
          show Dn p e below s _ _ _ s₁ (mkF m 60 #[.val (.int ((x0.toUInt32 >>> ((8 : Int32) &&& 31).toUInt32).toInt32)), .val (.int (((31 : Int32) + (-8 : Int32)) + (-4 : Int32)))] [(.int ((((x0.toUInt32 >>> ((8 : Int32) &&& 31).toUInt32).toInt32).toUInt32 >>> ((4 : Int32) &&& 31).toUInt32).toInt32))])
          refine Dn.st (fun t q => XS.istoreN X0.here hx rfl (hb hby d6_60) rfl (l' := #[.val (.int ((((x0.toUInt32 >>> ((8 : Int32) &&& 31).toUInt32).toInt32).toUInt32 >>> ((4 : Int32) &&& 31).toUInt32).toInt32)), .val (.int (((31 : Int32) + (-8 : Int32)) + (-4 : Int32)))]) rfl q) ?_
          show Dn p e below s _ _ _ s₁ (mkF m 61 #[.val (.int ((((x0.toUInt32 >>> ((8 : Int32) &&& 31).toUInt32).toInt32).toUInt32 >>> ((4 : Int32) &&& 31).toUInt32).toInt32)), .val (.int (((31 : Int32) + (-8 : Int32)) + (-4 : Int32)))] [])
          refine Dn.st (fun t q => XS.iloadN X0.here hx rfl (hb hby d6_61) rfl  q) ?_
          show Dn p e below s _ _ _ s₁ (mkF m 62 #[.val (.int ((((x0.toUInt32 >>> ((8 : Int32) &&& 31).toUInt32).toInt32).toUInt32 >>> ((4 : Int32) &&& 31).toUInt32).toInt32)), .val (.int (((31 : Int32) + (-8 : Int32)) + (-4 : Int32)))] [(.int ((((x0.toUInt32 >>> ((8 : Int32) &&& 31).toUInt32).toInt32).toUInt32 >>> ((4 : Int32) &&& 31).toUInt32).toInt32))])
          refine Dn.st (fun t q => XS.iconst X0.here hx rfl (hb hby d6_62) q) ?_
          show Dn p e below s _ _ _ s₁ (mkF m 63 #[.val (.int ((((x0.toUInt32 >>> ((8 : Int32) &&& 31).toUInt32).toInt32).toUInt32 >>> ((4 : Int32) &&& 31).toUInt32).toInt32)), .val (.int (((31 : Int32) + (-8 : Int32)) + (-4 : Int32)))] [(.int (4 : Int32)), (.int ((((x0.toUInt32 >>> ((8 : Int32) &&& 31).toUInt32).toInt32).toUInt32 >>> ((4 : Int32) &&& 31).toUInt32).toInt32))])
          by_cases c9 : ((((x0.toUInt32 >>> ((8 : Int32) &&& 31).toUInt32).toInt32).toUInt32 >>> ((4 : Int32) &&& 31).toUInt32).toInt32) < (4 : Int32)
          · refine Dn.st (fun t q => XS.icmpYes X0.here hx rfl (pc0 := 63) (pc' := 73) rfl (hb hby d6_63) rfl (tlt c9).1 (by decide) (by decide) q) ?_
            show Dn p e below s _ _ _ s₁ (mkF m 73 #[.val (.int ((((x0.toUInt32 >>> ((8 : Int32) &&& 31).toUInt32).toInt32).toUInt32 >>> ((4 : Int32) &&& 31).toUInt32).toInt32)), .val (.int (((31 : Int32) + (-8 : Int32)) + (-4 : Int32)))] [])
            refine Dn.st (fun t q => XS.iloadN X0.here hx rfl (hb hby d6_73) rfl  q) ?_
            show Dn p e below s _ _ _ s₁ (mkF m 74 #[.val (.int ((((x0.toUInt32 >>> ((8 : Int32) &&& 31).toUInt32).toInt32).toUInt32 >>> ((4 : Int32) &&& 31).toUInt32).toInt32)), .val (.int (((31 : Int32) + (-8 : Int32)) + (-4 : Int32)))] [(.int (((31 : Int32) + (-8 : Int32)) + (-4 : Int32)))])
            refine Dn.st (fun t q => XS.iloadN X0.here hx rfl (hb hby d6_74) rfl  q) ?_
            show Dn p e below s _ _ _ s₁ (mkF m 75 #[.val (.int ((((x0.toUInt32 >>> ((8 : Int32) &&& 31).toUInt32).toInt32).toUInt32 >>> ((4 : Int32) &&& 31).toUInt32).toInt32)), .val (.int (((31 : Int32) + (-8 : Int32)) + (-4 : Int32)))] [(.int ((((x0.toUInt32 >>> ((8 : Int32) &&& 31).toUInt32).toInt32).toUInt32 >>> ((4 : Int32) &&& 31).toUInt32).toInt32)), (.int (((31 : Int32) + (-8 : Int32)) + (-4 : Int32)))])
            refine Dn.st (fun t q => XS.iconst X0.here hx rfl (hb hby d6_75) q) ?_
            show Dn p e below s _ _ _ s₁ (mkF m 76 #[.val (.int ((((x0.toUInt32 >>> ((8 : Int32) &&& 31).toUInt32).toInt32).toUInt32 >>> ((4 : Int32) &&& 31).toUInt32).toInt32)), .val (.int (((31 : Int32) + (-8 : Int32)) + (-4 : Int32)))] [(.int (1 : Int32)), (.int ((((x0.toUInt32 >>> ((8 : Int32) &&& 31).toUInt32).toInt32).toUInt32 >>> ((4 : Int32) &&& 31).toUInt32).toInt32)), (.int (((31 : Int32) + (-8 : Int32)) + (-4 : Int32)))])
            refine Dn.st (fun t q => XS.iushr X0.here hx rfl (hb hby d6_76) rfl q) ?_
            show Dn p e below s _ _ _ s₁ (mkF m 77 #[.val (.int ((((x0.toUInt32 >>> ((8 : Int32) &&& 31).toUInt32).toInt32).toUInt32 >>> ((4 : Int32) &&& 31).toUInt32).toInt32)), .val (.int (((31 : Int32) + (-8 : Int32)) + (-4 : Int32)))] [(.int ((((((x0.toUInt32 >>> ((8 : Int32) &&& 31).toUInt32).toInt32).toUInt32 >>> ((4 : Int32) &&& 31).toUInt32).toInt32).toUInt32 >>> ((1 : Int32) &&& 31).toUInt32).toInt32)), (.int (((31 : Int32) + (-8 : Int32)) + (-4 : Int32)))])
            refine Dn.st (fun t q => XS.isub X0.here hx rfl (hb hby d6_77) rfl q) ?_
            show Dn p e below s _ _ _ s₁ (mkF m 78 #[.val (.int ((((x0.toUInt32 >>> ((8 : Int32) &&& 31).toUInt32).toInt32).toUInt32 >>> ((4 : Int32) &&& 31).toUInt32).toInt32)), .val (.int (((31 : Int32) + (-8 : Int32)) + (-4 : Int32)))] [(.int ((((31 : Int32) + (-8 : Int32)) + (-4 : Int32)) - ((((((x0.toUInt32 >>> ((8 : Int32) &&& 31).toUInt32).toInt32).toUInt32 >>> ((4 : Int32) &&& 31).toUInt32).toInt32).toUInt32 >>> ((1 : Int32) &&& 31).toUInt32).toInt32)))])
            exact Dn.retI X0 hx Bd.notSynchronized Bd.returns (hb hby d6_78) (by rw [e0]; exact ⟨by show some (Value.int ((((31 : Int32) + (-8 : Int32)) + (-4 : Int32)) - ((((((x0.toUInt32 >>> ((8 : Int32) &&& 31).toUInt32).toInt32).toUInt32 >>> ((4 : Int32) &&& 31).toUInt32).toInt32).toUInt32 >>> ((1 : Int32) &&& 31).toUInt32).toInt32))) = some (Value.int (own_nlz x0)); rw [own_nlz, if_pos c1, if_pos c2, if_neg c3, if_neg c7, if_pos c9], N0, rfl⟩) (by decide) (by decide)
          · refine Dn.st (fun t q => XS.icmpNo X0.here hx rfl (hb hby d6_63) rfl (flt c9).1 q) ?_
            show Dn p e below s _ _ _ s₁ (mkF m 66 #[.val (.int ((((x0.toUInt32 >>> ((8 : Int32) &&& 31).toUInt32).toInt32).toUInt32 >>> ((4 : Int32) &&& 31).toUInt32).toInt32)), .val (.int (((31 : Int32) + (-8 : Int32)) + (-4 : Int32)))] [])
            refine Dn.st (fun t q => XS.iinc X0.here hx rfl (hb hby d6_66) rfl (l' := #[.val (.int ((((x0.toUInt32 >>> ((8 : Int32) &&& 31).toUInt32).toInt32).toUInt32 >>> ((4 : Int32) &&& 31).toUInt32).toInt32)), .val (.int ((((31 : Int32) + (-8 : Int32)) + (-4 : Int32)) + (-2 : Int32)))]) rfl q) ?_
            show Dn p e below s _ _ _ s₁ (mkF m 69 #[.val (.int ((((x0.toUInt32 >>> ((8 : Int32) &&& 31).toUInt32).toInt32).toUInt32 >>> ((4 : Int32) &&& 31).toUInt32).toInt32)), .val (.int ((((31 : Int32) + (-8 : Int32)) + (-4 : Int32)) + (-2 : Int32)))] [])
            refine Dn.st (fun t q => XS.iloadN X0.here hx rfl (hb hby d6_69) rfl  q) ?_
            show Dn p e below s _ _ _ s₁ (mkF m 70 #[.val (.int ((((x0.toUInt32 >>> ((8 : Int32) &&& 31).toUInt32).toInt32).toUInt32 >>> ((4 : Int32) &&& 31).toUInt32).toInt32)), .val (.int ((((31 : Int32) + (-8 : Int32)) + (-4 : Int32)) + (-2 : Int32)))] [(.int ((((x0.toUInt32 >>> ((8 : Int32) &&& 31).toUInt32).toInt32).toUInt32 >>> ((4 : Int32) &&& 31).toUInt32).toInt32))])
            refine Dn.st (fun t q => XS.iconst X0.here hx rfl (hb hby d6_70) q) ?_
            show Dn p e below s _ _ _ s₁ (mkF m 71 #[.val (.int ((((x0.toUInt32 >>> ((8 : Int32) &&& 31).toUInt32).toInt32).toUInt32 >>> ((4 : Int32) &&& 31).toUInt32).toInt32)), .val (.int ((((31 : Int32) + (-8 : Int32)) + (-4 : Int32)) + (-2 : Int32)))] [(.int (2 : Int32)), (.int ((((x0.toUInt32 >>> ((8 : Int32) &&& 31).toUInt32).toInt32).toUInt32 >>> ((4 : Int32) &&& 31).toUInt32).toInt32))])
            refine Dn.st (fun t q => XS.iushr X0.here hx rfl (hb hby d6_71) rfl q) ?_
            show Dn p e below s _ _ _ s₁ (mkF m 72 #[.val (.int ((((x0.toUInt32 >>> ((8 : Int32) &&& 31).toUInt32).toInt32).toUInt32 >>> ((4 : Int32) &&& 31).toUInt32).toInt32)), .val (.int ((((31 : Int32) + (-8 : Int32)) + (-4 : Int32)) + (-2 : Int32)))] [(.int ((((((x0.toUInt32 >>> ((8 : Int32) &&& 31).toUInt32).toInt32).toUInt32 >>> ((4 : Int32) &&& 31).toUInt32).toInt32).toUInt32 >>> ((2 : Int32) &&& 31).toUInt32).toInt32))])
            refine Dn.st (fun t q => XS.istoreN X0.here hx rfl (hb hby d6_72) rfl (l' := #[.val (.int ((((((x0.toUInt32 >>> ((8 : Int32) &&& 31).toUInt32).toInt32).toUInt32 >>> ((4 : Int32) &&& 31).toUInt32).toInt32).toUInt32 >>> ((2 : Int32) &&& 31).toUInt32).toInt32)), .val (.int ((((31 : Int32) + (-8 : Int32)) + (-4 : Int32)) + (-2 : Int32)))]) rfl q) ?_
            show Dn p e below s _ _ _ s₁ (mkF m 73 #[.val (.int ((((((x0.toUInt32 >>> ((8 : Int32) &&& 31).toUInt32).toInt32).toUInt32 >>> ((4 : Int32) &&& 31).toUInt32).toInt32).toUInt32 >>> ((2 : Int32) &&& 31).toUInt32).toInt32)), .val (.int ((((31 : Int32) + (-8 : Int32)) + (-4 : Int32)) + (-2 : Int32)))] [])
            refine Dn.st (fun t q => XS.iloadN X0.here hx rfl (hb hby d6_73) rfl  q) ?_
            show Dn p e below s _ _ _ s₁ (mkF m 74 #[.val (.int ((((((x0.toUInt32 >>> ((8 : Int32) &&& 31).toUInt32).toInt32).toUInt32 >>> ((4 : Int32) &&& 31).toUInt32).toInt32).toUInt32 >>> ((2 : Int32) &&& 31).toUInt32).toInt32)), .val (.int ((((31 : Int32) + (-8 : Int32)) + (-4 : Int32)) + (-2 : Int32)))] [(.int ((((31 : Int32) + (-8 : Int32)) + (-4 : Int32)) + (-2 : Int32)))])
            refine Dn.st (fun t q => XS.iloadN X0.here hx rfl (hb hby d6_74) rfl  q) ?_
            show Dn p e below s _ _ _ s₁ (mkF m 75 #[.val (.int ((((((x0.toUInt32 >>> ((8 : Int32) &&& 31).toUInt32).toInt32).toUInt32 >>> ((4 : Int32) &&& 31).toUInt32).toInt32).toUInt32 >>> ((2 : Int32) &&& 31).toUInt32).toInt32)), .val (.int ((((31 : Int32) + (-8 : Int32)) + (-4 : Int32)) + (-2 : Int32)))] [(.int ((((((x0.toUInt32 >>> ((8 : Int32) &&& 31).toUInt32).toInt32).toUInt32 >>> ((4 : Int32) &&& 31).toUInt32).toInt32).toUInt32 >>> ((2 : Int32) &&& 31).toUInt32).toInt32)), (.int ((((31 : Int32) + (-8 : Int32)) + (-4 : Int32)) + (-2 : Int32)))])
            refine Dn.st (fun t q => XS.iconst X0.here hx rfl (hb hby d6_75) q) ?_
            show Dn p e below s _ _ _ s₁ (mkF m 76 #[.val (.int ((((((x0.toUInt32 >>> ((8 : Int32) &&& 31).toUInt32).toInt32).toUInt32 >>> ((4 : Int32) &&& 31).toUInt32).toInt32).toUInt32 >>> ((2 : Int32) &&& 31).toUInt32).toInt32)), .val (.int ((((31 : Int32) + (-8 : Int32)) + (-4 : Int32)) + (-2 : Int32)))] [(.int (1 : Int32)), (.int ((((((x0.toUInt32 >>> ((8 : Int32) &&& 31).toUInt32).toInt32).toUInt32 >>> ((4 : Int32) &&& 31).toUInt32).toInt32).toUInt32 >>> ((2 : Int32) &&& 31).toUInt32).toInt32)), (.int ((((31 : Int32) + (-8 : Int32)) + (-4 : Int32)) + (-2 : Int32)))])
            refine Dn.st (fun t q => XS.iushr X0.here hx rfl (hb hby d6_76) rfl q) ?_
            show Dn p e below s _ _ _ s₁ (mkF m 77 #[.val (.int ((((((x0.toUInt32 >>> ((8 : Int32) &&& 31).toUInt32).toInt32).toUInt32 >>> ((4 : Int32) &&& 31).toUInt32).toInt32).toUInt32 >>> ((2 : Int32) &&& 31).toUInt32).toInt32)), .val (.int ((((31 : Int32) + (-8 : Int32)) + (-4 : Int32)) + (-2 : Int32)))] [(.int ((((((((x0.toUInt32 >>> ((8 : Int32) &&& 31).toUInt32).toInt32).toUInt32 >>> ((4 : Int32) &&& 31).toUInt32).toInt32).toUInt32 >>> ((2 : Int32) &&& 31).toUInt32).toInt32).toUInt32 >>> ((1 : Int32) &&& 31).toUInt32).toInt32)), (.int ((((31 : Int32) + (-8 : Int32)) + (-4 : Int32)) + (-2 : Int32)))])
            refine Dn.st (fun t q => XS.isub X0.here hx rfl (hb hby d6_77) rfl q) ?_
            show Dn p e below s _ _ _ s₁ (mkF m 78 #[.val (.int ((((((x0.toUInt32 >>> ((8 : Int32) &&& 31).toUInt32).toInt32).toUInt32 >>> ((4 : Int32) &&& 31).toUInt32).toInt32).toUInt32 >>> ((2 : Int32) &&& 31).toUInt32).toInt32)), .val (.int ((((31 : Int32) + (-8 : Int32)) + (-4 : Int32)) + (-2 : Int32)))] [(.int (((((31 : Int32) + (-8 : Int32)) + (-4 : Int32)) + (-2 : Int32)) - ((((((((x0.toUInt32 >>> ((8 : Int32) &&& 31).toUInt32).toInt32).toUInt32 >>> ((4 : Int32) &&& 31).toUInt32).toInt32).toUInt32 >>> ((2 : Int32) &&& 31).toUInt32).toInt32).toUInt32 >>> ((1 : Int32) &&& 31).toUInt32).toInt32)))])
            exact Dn.retI X0 hx Bd.notSynchronized Bd.returns (hb hby d6_78) (by rw [e0]; exact ⟨by show some (Value.int (((((31 : Int32) + (-8 : Int32)) + (-4 : Int32)) + (-2 : Int32)) - ((((((((x0.toUInt32 >>> ((8 : Int32) &&& 31).toUInt32).toInt32).toUInt32 >>> ((4 : Int32) &&& 31).toUInt32).toInt32).toUInt32 >>> ((2 : Int32) &&& 31).toUInt32).toInt32).toUInt32 >>> ((1 : Int32) &&& 31).toUInt32).toInt32))) = some (Value.int (own_nlz x0)); rw [own_nlz, if_pos c1, if_pos c2, if_neg c3, if_neg c7, if_neg c9], N0, rfl⟩) (by decide) (by decide)
    · refine Dn.st (fun t q => XS.icmpNo X0.here hx rfl (hb hby d6_22) rfl (flt c2).1 q) ?_
      show Dn p e below s _ _ _ s₁ (mkF m 25 #[.val (.int x0), .val (.int (31 : Int32))] [])
      refine Dn.st (fun t q => XS.iinc X0.here hx rfl (hb hby d6_25) rfl (l' := #[.val (.int x0), .val (.int ((31 : Int32) + (-16 : Int32)))]) rfl q) ?_
      show Dn p e below s _ _ _ s₁ (mkF m 28 #[.val (.int x0), .val (.int ((31 : Int32) + (-16 : Int32)))] [])
      refine Dn.st (fun t q => XS.iloadN X0.here hx rfl (hb hby d6_28) rfl  q) ?_
      show Dn p e below s _ _ _ s₁ (mkF m 29 #[.val (.int x0), .val (.int ((31 : Int32) + (-16 : Int32)))] [(.int x0)])
      refine Dn.st (fun t q => XS.bipush X0.here hx rfl (hb hby d6_29) q) ?_
      show Dn p e below s _ _ _ s₁ (mkF m 31 #[.val (.int x0), .val (.int ((31 : Int32) + (-16 : Int32)))] [(.int (16 : Int32)), (.int x0)])
      refine Dn.st (fun t q => XS.iushr X0.here hx rfl (hb hby d6_31) rfl q) ?_
      show Dn p e below s _ _ _ s₁ (mkF m 32 #[.val (.int x0), .val (.int ((31 : Int32) + (-16 : Int32)))] [(.int ((x0.toUInt32 >>> ((16 : Int32) &&& 31).toUInt32).toInt32))])
      refine Dn.st (fun t q => XS.istoreN X0.here hx rfl (hb hby d6_32) rfl (l' := #[.val (.int ((x0.toUInt32 >>> ((16 : Int32) &&& 31).toUInt32).toInt32)), .val (.int ((31 : Int32) + (-16 : Int32)))]) rfl q) ?_
      show Dn p e below s _ _ _ s₁ (mkF m 33 #[.val (.int ((x0.toUInt32 >>> ((16 : Int32) &&& 31).toUInt32).toInt32)), .val (.int ((31 : Int32) + (-16 : Int32)))] [])
      refine Dn.st (fun t q => XS.iloadN X0.here hx rfl (hb hby d6_33) rfl  q) ?_
      show Dn p e below s _ _ _ s₁ (mkF m 34 #[.val (.int ((x0.toUInt32 >>> ((16 : Int32) &&& 31).toUInt32).toInt32)), .val (.int ((31 : Int32) + (-16 : Int32)))] [(.int ((x0.toUInt32 >>> ((16 : Int32) &&& 31).toUInt32).toInt32))])
      refine Dn.st (fun t q => XS.sipush X0.here hx rfl (hb hby d6_34) q) ?_
      show Dn p e below s _ _ _ s₁ (mkF m 37 #[.val (.int ((x0.toUInt32 >>> ((16 : Int32) &&& 31).toUInt32).toInt32)), .val (.int ((31 : Int32) + (-16 : Int32)))] [(.int (256 : Int32)), (.int ((x0.toUInt32 >>> ((16 : Int32) &&& 31).toUInt32).toInt32))])
      by_cases c10 : ((x0.toUInt32 >>> ((16 : Int32) &&& 31).toUInt32).toInt32) < (256 : Int32)
      · refine Dn.st (fun t q => XS.icmpYes X0.here hx rfl (pc0 := 37) (pc' := 48) rfl (hb hby d6_37) rfl (tlt c10).1 (by decide) (by decide) q) ?_
        show Dn p e below s _ _ _ s₁ (mkF m 48 #[.val (.int ((x0.toUInt32 >>> ((16 : Int32) &&& 31).toUInt32).toInt32)), .val (.int ((31 : Int32) + (-16 : Int32)))] [])
        refine Dn.st (fun t q => XS.iloadN X0.here hx rfl (hb hby d6_48) rfl  q) ?_
        show Dn p e below s _ _ _ s₁ (mkF m 49 #[.val (.int ((x0.toUInt32 >>> ((16 : Int32) &&& 31).toUInt32).toInt32)), .val (.int ((31 : Int32) + (-16 : Int32)))] [(.int ((x0.toUInt32 >>> ((16 : Int32) &&& 31).toUInt32).toInt32))])
        refine Dn.st (fun t q => XS.bipush X0.here hx rfl (hb hby d6_49) q) ?_
        show Dn p e below s _ _ _ s₁ (mkF m 51 #[.val (.int ((x0.toUInt32 >>> ((16 : Int32) &&& 31).toUInt32).toInt32)), .val (.int ((31 : Int32) + (-16 : Int32)))] [(.int (16 : Int32)), (.int ((x0.toUInt32 >>> ((16 : Int32) &&& 31).toUInt32).toInt32))])
        by_cases c11 : ((x0.toUInt32 >>> ((16 : Int32) &&& 31).toUInt32).toInt32) < (16 : Int32)
        · refine Dn.st (fun t q => XS.icmpYes X0.here hx rfl (pc0 := 51) (pc' := 61) rfl (hb hby d6_51) rfl (tlt c11).1 (by decide) (by decide) q) ?_
          show Dn p e below s _ _ _ s₁ (mkF m 61 #[.val (.int ((x0.toUInt32 >>> ((16 : Int32) &&& 31).toUInt32).toInt32)), .val (.int ((31 : Int32) + (-16 : Int32)))] [])
          refine Dn.st (fun t q => XS.iloadN X0.here hx rfl (hb hby d6_61) rfl  q) ?_
          show Dn p e below s _ _ _ s₁ (mkF m 62 #[.val (.int ((x0.toUInt32 >>> ((16 : Int32) &&& 31).toUInt32).toInt32)), .val (.int ((31 : Int32) + (-16 : Int32)))] [(.int ((x0.toUInt32 >>> ((16 : Int32) &&& 31).toUInt32).toInt32))])
          refine Dn.st (fun t q => XS.iconst X0.here hx rfl (hb hby d6_62) q) ?_
          show Dn p e below s _ _ _ s₁ (mkF m 63 #[.val (.int ((x0.toUInt32 >>> ((16 : Int32) &&& 31).toUInt32).toInt32)), .val (.int ((31 : Int32) + (-16 : Int32)))] [(.int (4 : Int32)), (.int ((x0.toUInt32 >>> ((16 : Int32) &&& 31).toUInt32).toInt32))])
          by_cases c12 : ((x0.toUInt32 >>> ((16 : Int32) &&& 31).toUInt32).toInt32) < (4 : Int32)
          · refine Dn.st (fun t q => XS.icmpYes X0.here hx rfl (pc0 := 63) (pc' := 73) rfl (hb hby d6_63) rfl (tlt c12).1 (by decide) (by decide) q) ?_
            show Dn p e below s _ _ _ s₁ (mkF m 73 #[.val (.int ((x0.toUInt32 >>> ((16 : Int32) &&& 31).toUInt32).toInt32)), .val (.int ((31 : Int32) + (-16 : Int32)))] [])
            refine Dn.st (fun t q => XS.iloadN X0.here hx rfl (hb hby d6_73) rfl  q) ?_
            show Dn p e below s _ _ _ s₁ (mkF m 74 #[.val (.int ((x0.toUInt32 >>> ((16 : Int32) &&& 31).toUInt32).toInt32)), .val (.int ((31 : Int32) + (-16 : Int32)))] [(.int ((31 : Int32) + (-16 : Int32)))])
            refine Dn.st (fun t q => XS.iloadN X0.here hx rfl (hb hby d6_74) rfl  q) ?_
            show Dn p e below s _ _ _ s₁ (mkF m 75 #[.val (.int ((x0.toUInt32 >>> ((16 : Int32) &&& 31).toUInt32).toInt32)), .val (.int ((31 : Int32) + (-16 : Int32)))] [(.int ((x0.toUInt32 >>> ((16 : Int32) &&& 31).toUInt32).toInt32)), (.int ((31 : Int32) + (-16 : Int32)))])
            refine Dn.st (fun t q => XS.iconst X0.here hx rfl (hb hby d6_75) q) ?_
            show Dn p e below s _ _ _ s₁ (mkF m 76 #[.val (.int ((x0.toUInt32 >>> ((16 : Int32) &&& 31).toUInt32).toInt32)), .val (.int ((31 : Int32) + (-16 : Int32)))] [(.int (1 : Int32)), (.int ((x0.toUInt32 >>> ((16 : Int32) &&& 31).toUInt32).toInt32)), (.int ((31 : Int32) + (-16 : Int32)))])
            refine Dn.st (fun t q => XS.iushr X0.here hx rfl (hb hby d6_76) rfl q) ?_
            show Dn p e below s _ _ _ s₁ (mkF m 77 #[.val (.int ((x0.toUInt32 >>> ((16 : Int32) &&& 31).toUInt32).toInt32)), .val (.int ((31 : Int32) + (-16 : Int32)))] [(.int ((((x0.toUInt32 >>> ((16 : Int32) &&& 31).toUInt32).toInt32).toUInt32 >>> ((1 : Int32) &&& 31).toUInt32).toInt32)), (.int ((31 : Int32) + (-16 : Int32)))])
            refine Dn.st (fun t q => XS.isub X0.here hx rfl (hb hby d6_77) rfl q) ?_
            show Dn p e below s _ _ _ s₁ (mkF m 78 #[.val (.int ((x0.toUInt32 >>> ((16 : Int32) &&& 31).toUInt32).toInt32)), .val (.int ((31 : Int32) + (-16 : Int32)))] [(.int (((31 : Int32) + (-16 : Int32)) - ((((x0.toUInt32 >>> ((16 : Int32) &&& 31).toUInt32).toInt32).toUInt32 >>> ((1 : Int32) &&& 31).toUInt32).toInt32)))])
            exact Dn.retI X0 hx Bd.notSynchronized Bd.returns (hb hby d6_78) (by rw [e0]; exact ⟨by show some (Value.int (((31 : Int32) + (-16 : Int32)) - ((((x0.toUInt32 >>> ((16 : Int32) &&& 31).toUInt32).toInt32).toUInt32 >>> ((1 : Int32) &&& 31).toUInt32).toInt32))) = some (Value.int (own_nlz x0)); rw [own_nlz, if_pos c1, if_neg c2, if_pos c10, if_pos c11, if_pos c12], N0, rfl⟩) (by decide) (by decide)
          · refine Dn.st (fun t q => XS.icmpNo X0.here hx rfl (hb hby d6_63) rfl (flt c12).1 q) ?_
            show Dn p e below s _ _ _ s₁ (mkF m 66 #[.val (.int ((x0.toUInt32 >>> ((16 : Int32) &&& 31).toUInt32).toInt32)), .val (.int ((31 : Int32) + (-16 : Int32)))] [])
            refine Dn.st (fun t q => XS.iinc X0.here hx rfl (hb hby d6_66) rfl (l' := #[.val (.int ((x0.toUInt32 >>> ((16 : Int32) &&& 31).toUInt32).toInt32)), .val (.int (((31 : Int32) + (-16 : Int32)) + (-2 : Int32)))]) rfl q) ?_
            show Dn p e below s _ _ _ s₁ (mkF m 69 #[.val (.int ((x0.toUInt32 >>> ((16 : Int32) &&& 31).toUInt32).toInt32)), .val (.int (((31 : Int32) + (-16 : Int32)) + (-2 : Int32)))] [])
            refine Dn.st (fun t q => XS.iloadN X0.here hx rfl (hb hby d6_69) rfl  q) ?_
            show Dn p e below s _ _ _ s₁ (mkF m 70 #[.val (.int ((x0.toUInt32 >>> ((16 : Int32) &&& 31).toUInt32).toInt32)), .val (.int (((31 : Int32) + (-16 : Int32)) + (-2 : Int32)))] [(.int ((x0.toUInt32 >>> ((16 : Int32) &&& 31).toUInt32).toInt32))])
            refine Dn.st (fun t q => XS.iconst X0.here hx rfl (hb hby d6_70) q) ?_
            show Dn p e below s _ _ _ s₁ (mkF m 71 #[.val (.int ((x0.toUInt32 >>> ((16 : Int32) &&& 31).toUInt32).toInt32)), .val (.int (((31 : Int32) + (-16 : Int32)) + (-2 : Int32)))] [(.int (2 : Int32)), (.int ((x0.toUInt32 >>> ((16 : Int32) &&& 31).toUInt32).toInt32))])
            refine Dn.st (fun t q => XS.iushr X0.here hx rfl (hb hby d6_71) rfl q) ?_
            show Dn p e below s _ _ _ s₁ (mkF m 72 #[.val (.int ((x0.toUInt32 >>> ((16 : Int32) &&& 31).toUInt32).toInt32)), .val (.int (((31 : Int32) + (-16 : Int32)) + (-2 : Int32)))] [(.int ((((x0.toUInt32 >>> ((16 : Int32) &&& 31).toUInt32).toInt32).toUInt32 >>> ((2 : Int32) &&& 31).toUInt32).toInt32))])
            refine Dn.st (fun t q => XS.istoreN X0.here hx rfl (hb hby d6_72) rfl (l' := #[.val (.int ((((x0.toUInt32 >>> ((16 : Int32) &&& 31).toUInt32).toInt32).toUInt32 >>> ((2 : Int32) &&& 31).toUInt32).toInt32)), .val (.int (((31 : Int32) + (-16 : Int32)) + (-2 : Int32)))]) rfl q) ?_
            show Dn p e below s _ _ _ s₁ (mkF m 73 #[.val (.int ((((x0.toUInt32 >>> ((16 : Int32) &&& 31).toUInt32).toInt32).toUInt32 >>> ((2 : Int32) &&& 31).toUInt32).toInt32)), .val (.int (((31 : Int32) + (-16 : Int32)) + (-2 : Int32)))] [])
            refine Dn.st (fun t q => XS.iloadN X0.here hx rfl (hb hby d6_73) rfl  q) ?_
            show Dn p e below s _ _ _ s₁ (mkF m 74 #[.val (.int ((((x0.toUInt32 >>> ((16 : Int32) &&& 31).toUInt32).toInt32).toUInt32 >>> ((2 : Int32) &&& 31).toUInt32).toInt32)), .val (.int (((31 : Int32) + (-16 : Int32)) + (-2 : Int32)))] [(.int (((31 : Int32) + (-16 : Int32)) + (-2 : Int32)))])
            refine Dn.st (fun t q => XS.iloadN X0.here hx rfl (hb hby d6_74) rfl  q) ?_
            show Dn p e below s _ _ _ s₁ (mkF m 75 #[.val (.int ((((x0.toUInt32 >>> ((16 : Int32) &&& 31).toUInt32).toInt32).toUInt32 >>> ((2 : Int32) &&& 31).toUInt32).toInt32)), .val (.int (((31 : Int32) + (-16 : Int32)) + (-2 : Int32)))] [(.int ((((x0.toUInt32 >>> ((16 : Int32) &&& 31).toUInt32).toInt32).toUInt32 >>> ((2 : Int32) &&& 31).toUInt32).toInt32)), (.int (((31 : Int32) + (-16 : Int32)) + (-2 : Int32)))])
            refine Dn.st (fun t q => XS.iconst X0.here hx rfl (hb hby d6_75) q) ?_
            show Dn p e below s _ _ _ s₁ (mkF m 76 #[.val (.int ((((x0.toUInt32 >>> ((16 : Int32) &&& 31).toUInt32).toInt32).toUInt32 >>> ((2 : Int32) &&& 31).toUInt32).toInt32)), .val (.int (((31 : Int32) + (-16 : Int32)) + (-2 : Int32)))] [(.int (1 : Int32)), (.int ((((x0.toUInt32 >>> ((16 : Int32) &&& 31).toUInt32).toInt32).toUInt32 >>> ((2 : Int32) &&& 31).toUInt32).toInt32)), (.int (((31 : Int32) + (-16 : Int32)) + (-2 : Int32)))])
            refine Dn.st (fun t q => XS.iushr X0.here hx rfl (hb hby d6_76) rfl q) ?_
            show Dn p e below s _ _ _ s₁ (mkF m 77 #[.val (.int ((((x0.toUInt32 >>> ((16 : Int32) &&& 31).toUInt32).toInt32).toUInt32 >>> ((2 : Int32) &&& 31).toUInt32).toInt32)), .val (.int (((31 : Int32) + (-16 : Int32)) + (-2 : Int32)))] [(.int ((((((x0.toUInt32 >>> ((16 : Int32) &&& 31).toUInt32).toInt32).toUInt32 >>> ((2 : Int32) &&& 31).toUInt32).toInt32).toUInt32 >>> ((1 : Int32) &&& 31).toUInt32).toInt32)), (.int (((31 : Int32) + (-16 : Int32)) + (-2 : Int32)))])
            refine Dn.st (fun t q => XS.isub X0.here hx rfl (hb hby d6_77) rfl q) ?_
            show Dn p e below s _ _ _ s₁ (mkF m 78 #[.val (.int ((((x0.toUInt32 >>> ((16 : Int32) &&& 31).toUInt32).toInt32).toUInt32 >>> ((2 : Int32) &&& 31).toUInt32).toInt32)), .val (.int (((31 : Int32) + (-16 : Int32)) + (-2 : Int32)))] [(.int ((((31 : Int32) + (-16 : Int32)) + (-2 : Int32)) - ((((((x0.toUInt32 >>> ((16 : Int32) &&& 31).toUInt32).toInt32).toUInt32 >>> ((2 : Int32) &&& 31).toUInt32).toInt32).toUInt32 >>> ((1 : Int32) &&& 31).toUInt32).toInt32)))])
            exact Dn.retI X0 hx Bd.notSynchronized Bd.returns (hb hby d6_78) (by rw [e0]; exact ⟨by show some (Value.int ((((31 : Int32) + (-16 : Int32)) + (-2 : Int32)) - ((((((x0.toUInt32 >>> ((16 : Int32) &&& 31).toUInt32).toInt32).toUInt32 >>> ((2 : Int32) &&& 31).toUInt32).toInt32).toUInt32 >>> ((1 : Int32) &&& 31).toUInt32).toInt32))) = some (Value.int (own_nlz x0)); rw [own_nlz, if_pos c1, if_neg c2, if_pos c10, if_pos c11, if_neg c12], N0, rfl⟩) (by decide) (by decide)
        · refine Dn.st (fun t q => XS.icmpNo X0.here hx rfl (hb hby d6_51) rfl (flt c11).1 q) ?_
          show Dn p e below s _ _ _ s₁ (mkF m 54 #[.val (.int ((x0.toUInt32 >>> ((16 : Int32) &&& 31).toUInt32).toInt32)), .val (.int ((31 : Int32) + (-16 : Int32)))] [])
          refine Dn.st (fun t q => XS.iinc X0.here hx rfl (hb hby d6_54) rfl (l' := #[.val (.int ((x0.toUInt32 >>> ((16 : Int32) &&& 31).toUInt32).toInt32)), .val (.int (((31 : Int32) + (-16 : Int32)) + (-4 : Int32)))]) rfl q) ?_
          show Dn p e below s _ _ _ s₁ (mkF m 57 #[.val (.int ((x0.toUInt32 >>> ((16 : Int32) &&& 31).toUInt32).toInt32)), .val (.int (((31 : Int32) + (-16 : Int32)) + (-4 : Int32)))] [])
          refine Dn.st (fun t q => XS.iloadN X0.here hx rfl (hb hby d6_57) rfl  q) ?_
          show Dn p e below s _ _ _ s₁ (mkF m 58 #[.val (.int ((x0.toUInt32 >>> ((16 : Int32) &&& 31).toUInt32).toInt32)), .val (.int (((31 : Int32) + (-16 : Int32)) + (-4 : Int32)))] [(.int ((x0.toUInt32 >>> ((16 : Int32) &&& 31).toUInt32).toInt32))])
          refine Dn.st (fun t q => XS.iconst X0.here hx rfl (hb hby d6_58) q) ?_
          show Dn p e below s _ _ _ s₁ (mkF m 59 #[.val (.int ((x0.toUInt32 >>> ((16 : Int32) &&& 31).toUInt32).toInt32)), .val (.int (((31 : Int32) + (-16 : Int32)) + (-4 : Int32)))] [(.int (4 : Int32)), (.int ((x0.toUInt32 >>> ((16 : Int32) &&& 31).toUInt32).toInt32))])
          refine Dn.st (fun t q => XS.iushr X0.here hx rfl (hb hby d6_59) rfl q) ?_
          show Dn p e below s _ _ _ s₁ (mkF m 60 #[.val (.int ((x0.toUInt32 >>> ((16 : Int32) &&& 31).toUInt32).toInt32)), .val (.int (((31 : Int32) + (-16 : Int32)) + (-4 : Int32)))] [(.int ((((x0.toUInt32 >>> ((16 : Int32) &&& 31).toUInt32).toInt32).toUInt32 >>> ((4 : Int32) &&& 31).toUInt32).toInt32))])
          refine Dn.st (fun t q => XS.istoreN X0.here hx rfl (hb hby d6_60) rfl (l' := #[.val (.int ((((x0.toUInt32 >>> ((16 : Int32) &&& 31).toUInt32).toInt32).toUInt32 >>> ((4 : Int32) &&& 31).toUInt32).toInt32)), .val (.int (((31 : Int32) + (-16 : Int32)) + (-4 : Int32)))]) rfl q) ?_
          show Dn p e below s _ _ _ s₁ (mkF m 61 #[.val (.int ((((x0.toUInt32 >>> ((16 : Int32) &&& 31).toUInt32).toInt32).toUInt32 >>> ((4 : Int32) &&& 31).toUInt32).toInt32)), .val (.int (((31 : Int32) + (-16 : Int32)) + (-4 : Int32)))] [])
          refine Dn.st (fun t q => XS.iloadN X0.here hx rfl (hb hby d6_61) rfl  q) ?_
          show Dn p e below s _ _ _ s₁ (mkF m 62 #[.val (.int ((((x0.toUInt32 >>> ((16 : Int32) &&& 31).toUInt32).toInt32).toUInt32 >>> ((4 : Int32) &&& 31).toUInt32).toInt32)), .val (.int (((31 : Int32) + (-16 : Int32)) + (-4 : Int32)))] [(.int ((((x0.toUInt32 >>> ((16 : Int32) &&& 31).toUInt32).toInt32).toUInt32 >>> ((4 : Int32) &&& 31).toUInt32).toInt32))])
          refine Dn.st (fun t q => XS.iconst X0.here hx rfl (hb hby d6_62) q) ?_
          show Dn p e below s _ _ _ s₁ (mkF m 63 #[.val (.int ((((x0.toUInt32 >>> ((16 : Int32) &&& 31).toUInt32).toInt32).toUInt32 >>> ((4 : Int32) &&& 31).toUInt32).toInt32)), .val (.int (((31 : Int32) + (-16 : Int32)) + (-4 : Int32)))] [(.int (4 : Int32)), (.int ((((x0.toUInt32 >>> ((16 : Int32) &&& 31).toUInt32).toInt32).toUInt32 >>> ((4 : Int32) &&& 31).toUInt32).toInt32))])
          by_cases c13 : ((((x0.toUInt32 >>> ((16 : Int32) &&& 31).toUInt32).toInt32).toUInt32 >>> ((4 : Int32) &&& 31).toUInt32).toInt32) < (4 : Int32)
          · refine Dn.st (fun t q => XS.icmpYes X0.here hx rfl (pc0 := 63) (pc' := 73) rfl (hb hby d6_63) rfl (tlt c13).1 (by decide) (by decide) q) ?_
            show Dn p e below s _ _ _ s₁ (mkF m 73 #[.val (.int ((((x0.toUInt32 >>> ((16 : Int32) &&& 31).toUInt32).toInt32).toUInt32 >>> ((4 : Int32) &&& 31).toUInt32).toInt32)), .val (.int (((31 : Int32) + (-16 : Int32)) + (-4 : Int32)))] [])
            refine Dn.st (fun t q => XS.iloadN X0.here hx rfl (hb hby d6_73) rfl  q) ?_
            show Dn p e below s _ _ _ s₁ (mkF m 74 #[.val (.int ((((x0.toUInt32 >>> ((16 : Int32) &&& 31).toUInt32).toInt32).toUInt32 >>> ((4 : Int32) &&& 31).toUInt32).toInt32)), .val (.int (((31 : Int32) + (-16 : Int32)) + (-4 : Int32)))] [(.int (((31 : Int32) + (-16 : Int32)) + (-4 : Int32)))])
            refine Dn.st (fun t q => XS.iloadN X0.here hx rfl (hb hby d6_74) rfl  q) ?_
            show Dn p e below s _ _ _ s₁ (mkF m 75 #[.val (.int ((((x0.toUInt32 >>> ((16 : Int32) &&& 31).toUInt32).toInt32).toUInt32 >>> ((4 : Int32) &&& 31).toUInt32).toInt32)), .val (.int (((31 : Int32) + (-16 : Int32)) + (-4 : Int32)))] [(.int ((((x0.toUInt32 >>> ((16 : Int32) &&& 31).toUInt32).toInt32).toUInt32 >>> ((4 : Int32) &&& 31).toUInt32).toInt32)), (.int (((31 : Int32) + (-16 : Int32)) + (-4 : Int32)))])
            refine Dn.st (fun t q => XS.iconst X0.here hx rfl (hb hby d6_75) q) ?_
            show Dn p e below s _ _ _ s₁ (mkF m 76 #[.val (.int ((((x0.toUInt32 >>> ((16 : Int32) &&& 31).toUInt32).toInt32).toUInt32 >>> ((4 : Int32) &&& 31).toUInt32).toInt32)), .val (.int (((31 : Int32) + (-16 : Int32)) + (-4 : Int32)))] [(.int (1 : Int32)), (.int ((((x0.toUInt32 >>> ((16 : Int32) &&& 31).toUInt32).toInt32).toUInt32 >>> ((4 : Int32) &&& 31).toUInt32).toInt32)), (.int (((31 : Int32) + (-16 : Int32)) + (-4 : Int32)))])
            refine Dn.st (fun t q => XS.iushr X0.here hx rfl (hb hby d6_76) rfl q) ?_
            show Dn p e below s _ _ _ s₁ (mkF m 77 #[.val (.int ((((x0.toUInt32 >>> ((16 : Int32) &&& 31).toUInt32).toInt32).toUInt32 >>> ((4 : Int32) &&& 31).toUInt32).toInt32)), .val (.int (((31 : Int32) + (-16 : Int32)) + (-4 : Int32)))] [(.int ((((((x0.toUInt32 >>> ((16 : Int32) &&& 31).toUInt32).toInt32).toUInt32 >>> ((4 : Int32) &&& 31).toUInt32).toInt32).toUInt32 >>> ((1 : Int32) &&& 31).toUInt32).toInt32)), (.int (((31 : Int32) + (-16 : Int32)) + (-4 : Int32)))])
            refine Dn.st (fun t q => XS.isub X0.here hx rfl (hb hby d6_77) rfl q) ?_
            show Dn p e below s _ _ _ s₁ (mkF m 78 #[.val (.int ((((x0.toUInt32 >>> ((16 : Int32) &&& 31).toUInt32).toInt32).toUInt32 >>> ((4 : Int32) &&& 31).toUInt32).toInt32)), .val (.int (((31 : Int32) + (-16 : Int32)) + (-4 : Int32)))] [(.int ((((31 : Int32) + (-16 : Int32)) + (-4 : Int32)) - ((((((x0.toUInt32 >>> ((16 : Int32) &&& 31).toUInt32).toInt32).toUInt32 >>> ((4 : Int32) &&& 31).toUInt32).toInt32).toUInt32 >>> ((1 : Int32) &&& 31).toUInt32).toInt32)))])
            exact Dn.retI X0 hx Bd.notSynchronized Bd.returns (hb hby d6_78) (by rw [e0]; exact ⟨by show some (Value.int ((((31 : Int32) + (-16 : Int32)) + (-4 : Int32)) - ((((((x0.toUInt32 >>> ((16 : Int32) &&& 31).toUInt32).toInt32).toUInt32 >>> ((4 : Int32) &&& 31).toUInt32).toInt32).toUInt32 >>> ((1 : Int32) &&& 31).toUInt32).toInt32))) = some (Value.int (own_nlz x0)); rw [own_nlz, if_pos c1, if_neg c2, if_pos c10, if_neg c11, if_pos c13], N0, rfl⟩) (by decide) (by decide)
          · refine Dn.st (fun t q => XS.icmpNo X0.here hx rfl (hb hby d6_63) rfl (flt c13).1 q) ?_
            show Dn p e below s _ _ _ s₁ (mkF m 66 #[.val (.int ((((x0.toUInt32 >>> ((16 : Int32) &&& 31).toUInt32).toInt32).toUInt32 >>> ((4 : Int32) &&& 31).toUInt32).toInt32)), .val (.int (((31 : Int32) + (-16 : Int32)) + (-4 : Int32)))] [])
            refine Dn.st (fun t q => XS.iinc X0.here hx rfl (hb hby d6_66) rfl (l' := #[.val (.int ((((x0.toUInt32 >>> ((16 : Int32) &&& 31).toUInt32).toInt32).toUInt32 >>> ((4 : Int32) &&& 31).toUInt32).toInt32)), .val (.int ((((31 : Int32) + (-16 : Int32)) + (-4 : Int32)) + (-2 : Int32)))]) rfl q) ?_
            show Dn p e below s _ _ _ s₁ (mkF m 69 #[.val (.int ((((x0.toUInt32 >>> ((16 : Int32) &&& 31).toUInt32).toInt32).toUInt32 >>> ((4 : Int32) &&& 31).toUInt32).toInt32)), .val (.int ((((31 : Int32) + (-16 : Int32)) + (-4 : Int32)) + (-2 : Int32)))] [])
            refine Dn.st (fun t q => XS.iloadN X0.here hx rfl (hb hby d6_69) rfl  q) ?_
            show Dn p e below s _ _ _ s₁ (mkF m 70 #[.val (.int ((((x0.toUInt32 >>> ((16 : Int32) &&& 31).toUInt32).toInt32).toUInt32 >>> ((4 : Int32) &&& 31).toUInt32).toInt32)), .val (.int ((((31 : Int32) + (-16 : Int32)) + (-4 : Int32)) + (-2 : Int32)))] [(.int ((((x0.toUInt32 >>> ((16 : Int32) &&& 31).toUInt32).toInt32).toUInt32 >>> ((4 : Int32) &&& 31).toUInt32).toInt32))])
            refine Dn.st (fun t q => XS.iconst X0.here hx rfl (hb hby d6_70) q) ?_
            show Dn p e below s _ _ _ s₁ (mkF m 71 #[.val (.int ((((x0.toUInt32 >>> ((16 : Int32) &&& 31).toUInt32).toInt32).toUInt32 >>> ((4 : Int32) &&& 31).toUInt32).toInt32)), .val (.int ((((31 : Int32) + (-16 : Int32)) + (-4 : Int32)) + (-2 : Int32)))] [(.int (2 : Int32)), (.int ((((x0.toUInt32 >>> ((16 : Int32) &&& 31).toUInt32).toInt32).toUInt32 >>> ((4 : Int32) &&& 31).toUInt32).toInt32))])
            refine Dn.st (fun t q => XS.iushr X0.here hx rfl (hb hby d6_71) rfl q) ?_
            show Dn p e below s _ _ _ s₁ (mkF m 72 #[.val (.int ((((x0.toUInt32 >>> ((16 : Int32) &&& 31).toUInt32).toInt32).toUInt32 >>> ((4 : Int32) &&& 31).toUInt32).toInt32)), .val (.int ((((31 : Int32) + (-16 : Int32)) + (-4 : Int32)) + (-2 : Int32)))] [(.int ((((((x0.toUInt32 >>> ((16 : Int32) &&& 31).toUInt32).toInt32).toUInt32 >>> ((4 : Int32) &&& 31).toUInt32).toInt32).toUInt32 >>> ((2 : Int32) &&& 31).toUInt32).toInt32))])
            refine Dn.st (fun t q => XS.istoreN X0.here hx rfl (hb hby d6_72) rfl (l' := #[.val (.int ((((((x0.toUInt32 >>> ((16 : Int32) &&& 31).toUInt32).toInt32).toUInt32 >>> ((4 : Int32) &&& 31).toUInt32).toInt32).toUInt32 >>> ((2 : Int32) &&& 31).toUInt32).toInt32)), .val (.int ((((31 : Int32) + (-16 : Int32)) + (-4 : Int32)) + (-2 : Int32)))]) rfl q) ?_
            show Dn p e below s _ _ _ s₁ (mkF m 73 #[.val (.int ((((((x0.toUInt32 >>> ((16 : Int32) &&& 31).toUInt32).toInt32).toUInt32 >>> ((4 : Int32) &&& 31).toUInt32).toInt32).toUInt32 >>> ((2 : Int32) &&& 31).toUInt32).toInt32)), .val (.int ((((31 : Int32) + (-16 : Int32)) + (-4 : Int32)) + (-2 : Int32)))] [])
            refine Dn.st (fun t q => XS.iloadN X0.here hx rfl (hb hby d6_73) rfl  q) ?_
            show Dn p e below s _ _ _ s₁ (mkF m 74 #[.val (.int ((((((x0.toUInt32 >>> ((16 : Int32) &&& 31).toUInt32).toInt32).toUInt32 >>> ((4 : Int32) &&& 31).toUInt32).toInt32).toUInt32 >>> ((2 : Int32) &&& 31).toUInt32).toInt32)), .val (.int ((((31 : Int32) + (-16 : Int32)) + (-4 : Int32)) + (-2 : Int32)))] [(.int ((((31 : Int32) + (-16 : Int32)) + (-4 : Int32)) + (-2 : Int32)))])
            refine Dn.st (fun t q => XS.iloadN X0.here hx rfl (hb hby d6_74) rfl  q) ?_
            show Dn p e below s _ _ _ s₁ (mkF m 75 #[.val (.int ((((((x0.toUInt32 >>> ((16 : Int32) &&& 31).toUInt32).toInt32).toUInt32 >>> ((4 : Int32) &&& 31).toUInt32).toInt32).toUInt32 >>> ((2 : Int32) &&& 31).toUInt32).toInt32)), .val (.int ((((31 : Int32) + (-16 : Int32)) + (-4 : Int32)) + (-2 : Int32)))] [(.int ((((((x0.toUInt32 >>> ((16 : Int32) &&& 31).toUInt32).toInt32).toUInt32 >>> ((4 : Int32) &&& 31).toUInt32).toInt32).toUInt32 >>> ((2 : Int32) &&& 31).toUInt32).toInt32)), (.int ((((31 : Int32) + (-16 : Int32)) + (-4 : Int32)) + (-2 : Int32)))])
            refine Dn.st (fun t q => XS.iconst X0.here hx rfl (hb hby d6_75) q) ?_
            show Dn p e below s _ _ _ s₁ (mkF m 76 #[.val (.int ((((((x0.toUInt32 >>> ((16 : Int32) &&& 31).toUInt32).toInt32).toUInt32 >>> ((4 : Int32) &&& 31).toUInt32).toInt32).toUInt32 >>> ((2 : Int32) &&& 31).toUInt32).toInt32)), .val (.int ((((31 : Int32) + (-16 : Int32)) + (-4 : Int32)) + (-2 : Int32)))] [(.int (1 : Int32)), (.int ((((((x0.toUInt32 >>> ((16 : Int32) &&& 31).toUInt32).toInt32).toUInt32 >>> ((4 : Int32) &&& 31).toUInt32).toInt32).toUInt32 >>> ((2 : Int32) &&& 31).toUInt32).toInt32)), (.int ((((31 : Int32) + (-16 : Int32)) + (-4 : Int32)) + (-2 : Int32)))])
            refine Dn.st (fun t q => XS.iushr X0.here hx rfl (hb hby d6_76) rfl q) ?_
            show Dn p e below s _ _ _ s₁ (mkF m 77 #[.val (.int ((((((x0.toUInt32 >>> ((16 : Int32) &&& 31).toUInt32).toInt32).toUInt32 >>> ((4 : Int32) &&& 31).toUInt32).toInt32).toUInt32 >>> ((2 : Int32) &&& 31).toUInt32).toInt32)), .val (.int ((((31 : Int32) + (-16 : Int32)) + (-4 : Int32)) + (-2 : Int32)))] [(.int ((((((((x0.toUInt32 >>> ((16 : Int32) &&& 31).toUInt32).toInt32).toUInt32 >>> ((4 : Int32) &&& 31).toUInt32).toInt32).toUInt32 >>> ((2 : Int32) &&& 31).toUInt32).toInt32).toUInt32 >>> ((1 : Int32) &&& 31).toUInt32).toInt32)), (.int ((((31 : Int32) + (-16 : Int32)) + (-4 : Int32)) + (-2 : Int32)))])
            refine Dn.st (fun t q => XS.isub X0.here hx rfl (hb hby d6_77) rfl q) ?_
            show Dn p e below s _ _ _ s₁ (mkF m 78 #[.val (.int ((((((x0.toUInt32 >>> ((16 : Int32) &&& 31).toUInt32).toInt32).toUInt32 >>> ((4 : Int32) &&& 31).toUInt32).toInt32).toUInt32 >>> ((2 : Int32) &&& 31).toUInt32).toInt32)), .val (.int ((((31 : Int32) + (-16 : Int32)) + (-4 : Int32)) + (-2 : Int32)))] [(.int (((((31 : Int32) + (-16 : Int32)) + (-4 : Int32)) + (-2 : Int32)) - ((((((((x0.toUInt32 >>> ((16 : Int32) &&& 31).toUInt32).toInt32).toUInt32 >>> ((4 : Int32) &&& 31).toUInt32).toInt32).toUInt32 >>> ((2 : Int32) &&& 31).toUInt32).toInt32).toUInt32 >>> ((1 : Int32) &&& 31).toUInt32).toInt32)))])
            exact Dn.retI X0 hx Bd.notSynchronized Bd.returns (hb hby d6_78) (by rw [e0]; exact ⟨by show some (Value.int (((((31 : Int32) + (-16 : Int32)) + (-4 : Int32)) + (-2 : Int32)) - ((((((((x0.toUInt32 >>> ((16 : Int32) &&& 31).toUInt32).toInt32).toUInt32 >>> ((4 : Int32) &&& 31).toUInt32).toInt32).toUInt32 >>> ((2 : Int32) &&& 31).toUInt32).toInt32).toUInt32 >>> ((1 : Int32) &&& 31).toUInt32).toInt32))) = some (Value.int (own_nlz x0)); rw [own_nlz, if_pos c1, if_neg c2, if_pos c10, if_neg c11, if_neg c13], N0, rfl⟩) (by decide) (by decide)
      · refine Dn.st (fun t q => XS.icmpNo X0.here hx rfl (hb hby d6_37) rfl (flt c10).1 q) ?_
        show Dn p e below s _ _ _ s₁ (mkF m 40 #[.val (.int ((x0.toUInt32 >>> ((16 : Int32) &&& 31).toUInt32).toInt32)), .val (.int ((31 : Int32) + (-16 : Int32)))] [])
        refine Dn.st (fun t q => XS.iinc X0.here hx rfl (hb hby d6_40) rfl (l' := #[.val (.int ((x0.toUInt32 >>> ((16 : Int32) &&& 31).toUInt32).toInt32)), .val (.int (((31 : Int32) + (-16 : Int32)) + (-8 : Int32)))]) rfl q) ?_
        show Dn p e below s _ _ _ s₁ (mkF m 43 #[.val (.int ((x0.toUInt32 >>> ((16 : Int32) &&& 31).toUInt32).toInt32)), .val (.int (((31 : Int32) + (-16 : Int32)) + (-8 : Int32)))] [])
        refine Dn.st (fun t q => XS.iloadN X0.here hx rfl (hb hby d6_43) rfl  q) ?_
        show Dn p e below s _ _ _ s₁ (mkF m 44 #[.val (.int ((x0.toUInt32 >>> ((16 : Int32) &&& 31).toUInt32).toInt32)), .val (.int (((31 : Int32) + (-16 : Int32)) + (-8 : Int32)))] [(.int ((x0.toUInt32 >>> ((16 : Int32) &&& 31).toUInt32).toInt32))])
        refine Dn.st (fun t q => XS.bipush X0.here hx rfl (hb hby d6_44) q) ?_
        show Dn p e below s _ _ _ s₁ (mkF m 46 #[.val (.int ((x0.toUInt32 >>> ((16 : Int32) &&& 31).toUInt32).toInt32)), .val (.int (((31 : Int32) + (-16 : Int32)) + (-8 : Int32)))] [(.int (8 : Int32)), (.int ((x0.toUInt32 >>> ((16 : Int32) &&& 31).toUInt32).toInt32))])
        refine Dn.st (fun t q => XS.iushr X0.here hx rfl (hb hby d6_46) rfl q) ?_
        show Dn p e below s _ _ _ s₁ (mkF m 47 #[.val (.int ((x0.toUInt32 >>> ((16 : Int32) &&& 31).toUInt32).toInt32)), .val (.int (((31 : Int32) + (-16 : Int32)) + (-8 : Int32)))] [(.int ((((x0.toUInt32 >>> ((16 : Int32) &&& 31).toUInt32).toInt32).toUInt32 >>> ((8 : Int32) &&& 31).toUInt32).toInt32))])
        refine Dn.st (fun t q => XS.istoreN X0.here hx rfl (hb hby d6_47) rfl (l' := #[.val (.int ((((x0.toUInt32 >>> ((16 : Int32) &&& 31).toUInt32).toInt32).toUInt32 >>> ((8 : Int32) &&& 31).toUInt32).toInt32)), .val (.int (((31 : Int32) + (-16 : Int32)) + (-8 : Int32)))]) rfl q) ?_
        show Dn p e below s _ _ _ s₁ (mkF m 48 #[.val (.int ((((x0.toUInt32 >>> ((16 : Int32) &&& 31).toUInt32).toInt32).toUInt32 >>> ((8 : Int32) &&& 31).toUInt32).toInt32)), .val (.int (((31 : Int32) + (-16 : Int32)) + (-8 : Int32)))] [])
        refine Dn.st (fun t q => XS.iloadN X0.here hx rfl (hb hby d6_48) rfl  q) ?_
        show Dn p e below s _ _ _ s₁ (mkF m 49 #[.val (.int ((((x0.toUInt32 >>> ((16 : Int32) &&& 31).toUInt32).toInt32).toUInt32 >>> ((8 : Int32) &&& 31).toUInt32).toInt32)), .val (.int (((31 : Int32) + (-16 : Int32)) + (-8 : Int32)))] [(.int ((((x0.toUInt32 >>> ((16 : Int32) &&& 31).toUInt32).toInt32).toUInt32 >>> ((8 : Int32) &&& 31).toUInt32).toInt32))])
        refine Dn.st (fun t q => XS.bipush X0.here hx rfl (hb hby d6_49) q) ?_
        show Dn p e below s _ _ _ s₁ (mkF m 51 #[.val (.int ((((x0.toUInt32 >>> ((16 : Int32) &&& 31).toUInt32).toInt32).toUInt32 >>> ((8 : Int32) &&& 31).toUInt32).toInt32)), .val (.int (((31 : Int32) + (-16 : Int32)) + (-8 : Int32)))] [(.int (16 : Int32)), (.int ((((x0.toUInt32 >>> ((16 : Int32) &&& 31).toUInt32).toInt32).toUInt32 >>> ((8 : Int32) &&& 31).toUInt32).toInt32))])
        by_cases c14 : ((((x0.toUInt32 >>> ((16 : Int32) &&& 31).toUInt32).toInt32).toUInt32 >>> ((8 : Int32) &&& 31).toUInt32).toInt32) < (16 : Int32)
        · refine Dn.st (fun t q => XS.icmpYes X0.here hx rfl (pc0 := 51) (pc' := 61) rfl (hb hby d6_51) rfl (tlt c14).1 (by decide) (by decide) q) ?_
          show Dn p e below s _ _ _ s₁ (mkF m 61 #[.val (.int ((((x0.toUInt32 >>> ((16 : Int32) &&& 31).toUInt32).toInt32).toUInt32 >>> ((8 : Int32) &&& 31).toUInt32).toInt32)), .val (.int (((31 : Int32) + (-16 : Int32)) + (-8 : Int32)))] [])
          refine Dn.st (fun t q => XS.iloadN X0.here hx rfl (hb hby d6_61) rfl  q) ?_
          show Dn p e below s _ _ _ s₁ (mkF m 62 #[.val (.int ((((x0.toUInt32 >>> ((16 : Int32) &&& 31).toUInt32).toInt32).toUInt32 >>> ((8 : Int32) &&& 31).toUInt32).toInt32)), .val (.int (((31 : Int32) + (-16 : Int32)) + (-8 : Int32)))] [(.int ((((x0.toUInt32 >>> ((16 : Int32) &&& 31).toUInt32).toInt32).toUInt32 >>> ((8 : Int32) &&& 31).toUInt32).toInt32))])
          refine Dn.st (fun t q => XS.iconst X0.here hx rfl (hb hby d6_62) q) ?_
          show Dn p e below s _ _ _ s₁ (mkF m 63 #[.val (.int ((((x0.toUInt32 >>> ((16 : Int32) &&& 31).toUInt32).toInt32).toUInt32 >>> ((8 : Int32) &&& 31).toUInt32).toInt32)), .val (.int (((31 : Int32) + (-16 : Int32)) + (-8 : Int32)))] [(.int (4 : Int32)), (.int ((((x0.toUInt32 >>> ((16 : Int32) &&& 31).toUInt32).toInt32).toUInt32 >>> ((8 : Int32) &&& 31).toUInt32).toInt32))])
          by_cases c15 : ((((x0.toUInt32 >>> ((16 : Int32) &&& 31).toUInt32).toInt32).toUInt32 >>> ((8 : Int32) &&& 31).toUInt32).toInt32) < (4 : Int32)
          · refine Dn.st (fun t q => XS.icmpYes X0.here hx rfl (pc0 := 63) (pc' := 73) rfl (hb hby d6_63) rfl (tlt c15).1 (by decide) (by decide) q) ?_
            show Dn p e below s _ _ _ s₁ (mkF m 73 #[.val (.int ((((x0.toUInt32 >>> ((16 : Int32) &&& 31).toUInt32).toInt32).toUInt32 >>> ((8 : Int32) &&& 31).toUInt32).toInt32)), .val (.int (((31 : Int32) + (-16 : Int32)) + (-8 : Int32)))] [])
            refine Dn.st (fun t q => XS.iloadN X0.here hx rfl (hb hby d6_73) rfl  q) ?_
            show Dn p e below s _ _ _ s₁ (mkF m 74 #[.val (.int ((((x0.toUInt32 >>> ((16 : Int32) &&& 31).toUInt32).toInt32).toUInt32 >>> ((8 : Int32) &&& 31).toUInt32).toInt32)), .val (.int (((31 : Int32) + (-16 : Int32)) + (-8 : Int32)))] [(.int (((31 : Int32) + (-16 : Int32)) + (-8 : Int32)))])
            refine Dn.st (fun t q => XS.iloadN X0.here hx rfl (hb hby d6_74) rfl  q) ?_
            show Dn p e below s _ _ _ s₁ (mkF m 75 #[.val (.int ((((x0.toUInt32 >>> ((16 : Int32) &&& 31).toUInt32).toInt32).toUInt32 >>> ((8 : Int32) &&& 31).toUInt32).toInt32)), .val (.int (((31 : Int32) + (-16 : Int32)) + (-8 : Int32)))] [(.int ((((x0.toUInt32 >>> ((16 : Int32) &&& 31).toUInt32).toInt32).toUInt32 >>> ((8 : Int32) &&& 31).toUInt32).toInt32)), (.int (((31 : Int32) + (-16 : Int32)) + (-8 : Int32)))])
            refine Dn.st (fun t q => XS.iconst X0.here hx rfl (hb hby d6_75) q) ?_
            show Dn p e below s _ _ _ s₁ (mkF m 76 #[.val (.int ((((x0.toUInt32 >>> ((16 : Int32) &&& 31).toUInt32).toInt32).toUInt32 >>> ((8 : Int32) &&& 31).toUInt32).toInt32)), .val (.int (((31 : Int32) + (-16 : Int32)) + (-8 : Int32)))] [(.int (1 : Int32)), (.int ((((x0.toUInt32 >>> ((16 : Int32) &&& 31).toUInt32).toInt32).toUInt32 >>> ((8 : Int32) &&& 31).toUInt32).toInt32)), (.int (((31 : Int32) + (-16 : Int32)) + (-8 : Int32)))])
            refine Dn.st (fun t q => XS.iushr X0.here hx rfl (hb hby d6_76) rfl q) ?_
            show Dn p e below s _ _ _ s₁ (mkF m 77 #[.val (.int ((((x0.toUInt32 >>> ((16 : Int32) &&& 31).toUInt32).toInt32).toUInt32 >>> ((8 : Int32) &&& 31).toUInt32).toInt32)), .val (.int (((31 : Int32) + (-16 : Int32)) + (-8 : Int32)))] [(.int ((((((x0.toUInt32 >>> ((16 : Int32) &&& 31).toUInt32).toInt32).toUInt32 >>> ((8 : Int32) &&& 31).toUInt32).toInt32).toUInt32 >>> ((1 : Int32) &&& 31).toUInt32).toInt32)), (.int (((31 : Int32) + (-16 : Int32)) + (-8 : Int32)))])
            refine Dn.st (fun t q => XS.isub X0.here hx rfl (hb hby d6_77) rfl q) ?_
            show Dn p e below s _ _ _ s₁ (mkF m 78 #[.val (.int ((((x0.toUInt32 >>> ((16 : Int32) &&& 31).toUInt32).toInt32).toUInt32 >>> ((8 : Int32) &&& 31).toUInt32).toInt32)), .val (.int (((31 : Int32) + (-16 : Int32)) + (-8 : Int32)))] [(.int ((((31 : Int32) + (-16 : Int32)) + (-8 : Int32)) - ((((((x0.toUInt32 >>> ((16 : Int32) &&& 31).toUInt32).toInt32).toUInt32 >>> ((8 : Int32) &&& 31).toUInt32).toInt32).toUInt32 >>> ((1 : Int32) &&& 31).toUInt32).toInt32)))])
            exact Dn.retI X0 hx Bd.notSynchronized Bd.returns (hb hby d6_78) (by rw [e0]; exact ⟨by show some (Value.int ((((31 : Int32) + (-16 : Int32)) + (-8 : Int32)) - ((((((x0.toUInt32 >>> ((16 : Int32) &&& 31).toUInt32).toInt32).toUInt32 >>> ((8 : Int32) &&& 31).toUInt32).toInt32).toUInt32 >>> ((1 : Int32) &&& 31).toUInt32).toInt32))) = some (Value.int (own_nlz x0)); rw [own_nlz, if_pos c1, if_neg c2, if_neg c10, if_pos c14, if_pos c15], N0, rfl⟩) (by decide) (by decide)
          · refine Dn.st (fun t q => XS.icmpNo X0.here hx rfl (hb hby d6_63) rfl (flt c15).1 q) ?_
            show Dn p e below s _ _ _ s₁ (mkF m 66 #[.val (.int ((((x0.toUInt32 >>> ((16 : Int32) &&& 31).toUInt32).toInt32).toUInt32 >>> ((8 : Int32) &&& 31).toUInt32).toInt32)), .val (.int (((31 : Int32) + (-16 : Int32)) + (-8 : Int32)))] [])
            refine Dn.st (fun t q => XS.iinc X0.here hx rfl (hb hby d6_66) rfl (l' := #[.val (.int ((((x0.toUInt32 >>> ((16 : Int32) &&& 31).toUInt32).toInt32).toUInt32 >>> ((8 : Int32) &&& 31).toUInt32).toInt32)), .val (.int ((((31 : Int32) + (-16 : Int32)) + (-8 : Int32)) + (-2 : Int32)))]) rfl q) ?_
            show Dn p e below s _ _ _ s₁ (mkF m 69 #[.val (.int ((((x0.toUInt32 >>> ((16 : Int32) &&& 31).toUInt32).toInt32).toUInt32 >>> ((8 : Int32) &&& 31).toUInt32).toInt32)), .val (.int ((((31 : Int32) + (-16 : Int32)) + (-8 : Int32)) + (-2 : Int32)))] [])
            refine Dn.st (fun t q => XS.iloadN X0.here hx rfl (hb hby d6_69) rfl  q) ?_
            show Dn p e below s _ _ _ s₁ (mkF m 70 #[.val (.int ((((x0.toUInt32 >>> ((16 : Int32) &&& 31).toUInt32).toInt32).toUInt32 >>> ((8 : Int32) &&& 31).toUInt32).toInt32)), .val (.int ((((31 : Int32) + (-16 : Int32)) + (-8 : Int32)) + (-2 : Int32)))] [(.int ((((x0.toUInt32 >>> ((16 : Int32) &&& 31).toUInt32).toInt32).toUInt32 >>> ((8 : Int32) &&& 31).toUInt32).toInt32))])
            refine Dn.st (fun t q => XS.iconst X0.here hx rfl (hb hby d6_70) q) ?_
            show Dn p e below s _ _ _ s₁ (mkF m 71 #[.val (.int ((((x0.toUInt32 >>> ((16 : Int32) &&& 31).toUInt32).toInt32).toUInt32 >>> ((8 : Int32) &&& 31).toUInt32).toInt32)), .val (.int ((((31 : Int32) + (-16 : Int32)) + (-8 : Int32)) + (-2 : Int32)))] [(.int (2 : Int32)), (.int ((((x0.toUInt32 >>> ((16 : Int32) &&& 31).toUInt32).toInt32).toUInt32 >>> ((8 : Int32) &&& 31).toUInt32).toInt32))])
            refine Dn.st (fun t q => XS.iushr X0.here hx rfl (hb hby d6_71) rfl q) ?_
            show Dn p e below s _ _ _ s₁ (mkF m 72 #[.val (.int ((((x0.toUInt32 >>> ((16 : Int32) &&& 31).toUInt32).toInt32).toUInt32 >>> ((8 : Int32) &&& 31).toUInt32).toInt32)), .val (.int ((((31 : Int32) + (-16 : Int32)) + (-8 : Int32)) + (-2 : Int32)))] [(.int ((((((x0.toUInt32 >>> ((16 : Int32) &&& 31).toUInt32).toInt32).toUInt32 >>> ((8 : Int32) &&& 31).toUInt32).toInt32).toUInt32 >>> ((2 : Int32) &&& 31).toUInt32).toInt32))])
            refine Dn.st (fun t q => XS.istoreN X0.here hx rfl (hb hby d6_72) rfl (l' := #[.val (.int ((((((x0.toUInt32 >>> ((16 : Int32) &&& 31).toUInt32).toInt32).toUInt32 >>> ((8 : Int32) &&& 31).toUInt32).toInt32).toUInt32 >>> ((2 : Int32) &&& 31).toUInt32).toInt32)), .val (.int ((((31 : Int32) + (-16 : Int32)) + (-8 : Int32)) + (-2 : Int32)))]) rfl q) ?_
            show Dn p e below s _ _ _ s₁ (mkF m 73 #[.val (.int ((((((x0.toUInt32 >>> ((16 : Int32) &&& 31).toUInt32).toInt32).toUInt32 >>> ((8 : Int32) &&& 31).toUInt32).toInt32).toUInt32 >>> ((2 : Int32) &&& 31).toUInt32).toInt32)), .val (.int ((((31 : Int32) + (-16 : Int32)) + (-8 : Int32)) + (-2 : Int32)))] [])
            refine Dn.st (fun t q => XS.iloadN X0.here hx rfl (hb hby d6_73) rfl  q) ?_
            show Dn p e below s _ _ _ s₁ (mkF m 74 #[.val (.int ((((((x0.toUInt32 >>> ((16 : Int32) &&& 31).toUInt32).toInt32).toUInt32 >>> ((8 : Int32) &&& 31).toUInt32).toInt32).toUInt32 >>> ((2 : Int32) &&& 31).toUInt32).toInt32)), .val (.int ((((31 : Int32) + (-16 : Int32)) + (-8 : Int32)) + (-2 : Int32)))] [(.int ((((31 : Int32) + (-16 : Int32)) + (-8 : Int32)) + (-2 : Int32)))])
            refine Dn.st (fun t q => XS.iloadN X0.here hx rfl (hb hby d6_74) rfl  q) ?_
            show Dn p e below s _ _ _ s₁ (mkF m 75 #[.val (.int ((((((x0.toUInt32 >>> ((16 : Int32) &&& 31).toUInt32).toInt32).toUInt32 >>> ((8 : Int32) &&& 31).toUInt32).toInt32).toUInt32 >>> ((2 : Int32) &&& 31).toUInt32).toInt32)), .val (.int ((((31 : Int32) + (-16 : Int32)) + (-8 : Int32)) + (-2 : Int32)))] [(.int ((((((x0.toUInt32 >>> ((16 : Int32) &&& 31).toUInt32).toInt32).toUInt32 >>> ((8 : Int32) &&& 31).toUInt32).toInt32).toUInt32 >>> ((2 : Int32) &&& 31).toUInt32).toInt32)), (.int ((((31 : Int32) + (-16 : Int32)) + (-8 : Int32)) + (-2 : Int32)))])
            refine Dn.st (fun t q => XS.iconst X0.here hx rfl (hb hby d6_75) q) ?_
            show Dn p e below s _ _ _ s₁ (mkF m 76 #[.val (.int ((((((x0.toUInt32 >>> ((16 : Int32) &&& 31).toUInt32).toInt32).toUInt32 >>> ((8 : Int32) &&& 31).toUInt32).toInt32).toUInt32 >>> ((2 : Int32) &&& 31).toUInt32).toInt32)), .val (.int ((((31 : Int32) + (-16 : Int32)) + (-8 : Int32)) + (-2 : Int32)))] [(.int (1 : Int32)), (.int ((((((x0.toUInt32 >>> ((16 : Int32) &&& 31).toUInt32).toInt32).toUInt32 >>> ((8 : Int32) &&& 31).toUInt32).toInt32).toUInt32 >>> ((2 : Int32) &&& 31).toUInt32).toInt32)), (.int ((((31 : Int32) + (-16 : Int32)) + (-8 : Int32)) + (-2 : Int32)))])
            refine Dn.st (fun t q => XS.iushr X0.here hx rfl (hb hby d6_76) rfl q) ?_
            show Dn p e below s _ _ _ s₁ (mkF m 77 #[.val (.int ((((((x0.toUInt32 >>> ((16 : Int32) &&& 31).toUInt32).toInt32).toUInt32 >>> ((8 : Int32) &&& 31).toUInt32).toInt32).toUInt32 >>> ((2 : Int32) &&& 31).toUInt32).toInt32)), .val (.int ((((31 : Int32) + (-16 : Int32)) + (-8 : Int32)) + (-2 : Int32)))] [(.int ((((((((x0.toUInt32 >>> ((16 : Int32) &&& 31).toUInt32).toInt32).toUInt32 >>> ((8 : Int32) &&& 31).toUInt32).toInt32).toUInt32 >>> ((2 : Int32) &&& 31).toUInt32).toInt32).toUInt32 >>> ((1 : Int32) &&& 31).toUInt32).toInt32)), (.int ((((31 : Int32) + (-16 : Int32)) + (-8 : Int32)) + (-2 : Int32)))])
            refine Dn.st (fun t q => XS.isub X0.here hx rfl (hb hby d6_77) rfl q) ?_
            show Dn p e below s _ _ _ s₁ (mkF m 78 #[.val (.int ((((((x0.toUInt32 >>> ((16 : Int32) &&& 31).toUInt32).toInt32).toUInt32 >>> ((8 : Int32) &&& 31).toUInt32).toInt32).toUInt32 >>> ((2 : Int32) &&& 31).toUInt32).toInt32)), .val (.int ((((31 : Int32) + (-16 : Int32)) + (-8 : Int32)) + (-2 : Int32)))] [(.int (((((31 : Int32) + (-16 : Int32)) + (-8 : Int32)) + (-2 : Int32)) - ((((((((x0.toUInt32 >>> ((16 : Int32) &&& 31).toUInt32).toInt32).toUInt32 >>> ((8 : Int32) &&& 31).toUInt32).toInt32).toUInt32 >>> ((2 : Int32) &&& 31).toUInt32).toInt32).toUInt32 >>> ((1 : Int32) &&& 31).toUInt32).toInt32)))])
            exact Dn.retI X0 hx Bd.notSynchronized Bd.returns (hb hby d6_78) (by rw [e0]; exact ⟨by show some (Value.int (((((31 : Int32) + (-16 : Int32)) + (-8 : Int32)) + (-2 : Int32)) - ((((((((x0.toUInt32 >>> ((16 : Int32) &&& 31).toUInt32).toInt32).toUInt32 >>> ((8 : Int32) &&& 31).toUInt32).toInt32).toUInt32 >>> ((2 : Int32) &&& 31).toUInt32).toInt32).toUInt32 >>> ((1 : Int32) &&& 31).toUInt32).toInt32))) = some (Value.int (own_nlz x0)); rw [own_nlz, if_pos c1, if_neg c2, if_neg c10, if_pos c14, if_neg c15], N0, rfl⟩) (by decide) (by decide)
        · refine Dn.st (fun t q => XS.icmpNo X0.here hx rfl (hb hby d6_51) rfl (flt c14).1 q) ?_
          show Dn p e below s _ _ _ s₁ (mkF m 54 #[.val (.int ((((x0.toUInt32 >>> ((16 : Int32) &&& 31).toUInt32).toInt32).toUInt32 >>> ((8 : Int32) &&& 31).toUInt32).toInt32)), .val (.int (((31 : Int32) + (-16 : Int32)) + (-8 : Int32)))] [])
          refine Dn.st (fun t q => XS.iinc X0.here hx rfl (hb hby d6_54) rfl (l' := #[.val (.int ((((x0.toUInt32 >>> ((16 : Int32) &&& 31).toUInt32).toInt32).toUInt32 >>> ((8 : Int32) &&& 31).toUInt32).toInt32)), .val (.int ((((31 : Int32) + (-16 : Int32)) + (-8 : Int32)) + (-4 : Int32)))]) rfl q) ?_
          show Dn p e below s _ _ _ s₁ (mkF m 57 #[.val (.int ((((x0.toUInt32 >>> ((16 : Int32) &&& 31).toUInt32).toInt32).toUInt32 >>> ((8 : Int32) &&& 31).toUInt32).toInt32)), .val (.int ((((31 : Int32) + (-16 : Int32)) + (-8 : Int32)) + (-4 : Int32)))] [])
          refine Dn.st (fun t q => XS.iloadN X0.here hx rfl (hb hby d6_57) rfl  q) ?_
          show Dn p e below s _ _ _ s₁ (mkF m 58 #[.val (.int ((((x0.toUInt32 >>> ((16 : Int32) &&& 31).toUInt32).toInt32).toUInt32 >>> ((8 : Int32) &&& 31).toUInt32).toInt32)), .val (.int ((((31 : Int32) + (-16 : Int32)) + (-8 : Int32)) + (-4 : Int32)))] [(.int ((((x0.toUInt32 >>> ((16 : Int32) &&& 31).toUInt32).toInt32).toUInt32 >>> ((8 : Int32) &&& 31).toUInt32).toInt32))])
          refine Dn.st (fun t q => XS.iconst X0.here hx rfl (hb hby d6_58) q) ?_
          show Dn p e below s _ _ _ s₁ (mkF m 59 #[.val (.int ((((x0.toUInt32 >>> ((16 : Int32) &&& 31).toUInt32).toInt32).toUInt32 >>> ((8 : Int32) &&& 31).toUInt32).toInt32)), .val (.int ((((31 : Int32) + (-16 : Int32)) + (-8 : Int32)) + (-4 : Int32)))] [(.int (4 : Int32)), (.int ((((x0.toUInt32 >>> ((16 : Int32) &&& 31).toUInt32).toInt32).toUInt32 >>> ((8 : Int32) &&& 31).toUInt32).toInt32))])
          refine Dn.st (fun t q => XS.iushr X0.here hx rfl (hb hby d6_59) rfl q) ?_
          show Dn p e below s _ _ _ s₁ (mkF m 60 #[.val (.int ((((x0.toUInt32 >>> ((16 : Int32) &&& 31).toUInt32).toInt32).toUInt32 >>> ((8 : Int32) &&& 31).toUInt32).toInt32)), .val (.int ((((31 : Int32) + (-16 : Int32)) + (-8 : Int32)) + (-4 : Int32)))] [(.int ((((((x0.toUInt32 >>> ((16 : Int32) &&& 31).toUInt32).toInt32).toUInt32 >>> ((8 : Int32) &&& 31).toUInt32).toInt32).toUInt32 >>> ((4 : Int32) &&& 31).toUInt32).toInt32))])
          refine Dn.st (fun t q => XS.istoreN X0.here hx rfl (hb hby d6_60) rfl (l' := #[.val (.int ((((((x0.toUInt32 >>> ((16 : Int32) &&& 31).toUInt32).toInt32).toUInt32 >>> ((8 : Int32) &&& 31).toUInt32).toInt32).toUInt32 >>> ((4 : Int32) &&& 31).toUInt32).toInt32)), .val (.int ((((31 : Int32) + (-16 : Int32)) + (-8 : Int32)) + (-4 : Int32)))]) rfl q) ?_
          show Dn p e below s _ _ _ s₁ (mkF m 61 #[.val (.int ((((((x0.toUInt32 >>> ((16 : Int32) &&& 31).toUInt32).toInt32).toUInt32 >>> ((8 : Int32) &&& 31).toUInt32).toInt32).toUInt32 >>> ((4 : Int32) &&& 31).toUInt32).toInt32)), .val (.int ((((31 : Int32) + (-16 : Int32)) + (-8 : Int32)) + (-4 : Int32)))] [])
          refine Dn.st (fun t q => XS.iloadN X0.here hx rfl (hb hby d6_61) rfl  q) ?_
          show Dn p e below s _ _ _ s₁ (mkF m 62 #[.val (.int ((((((x0.toUInt32 >>> ((16 : Int32) &&& 31).toUInt32).toInt32).toUInt32 >>> ((8 : Int32) &&& 31).toUInt32).toInt32).toUInt32 >>> ((4 : Int32) &&& 31).toUInt32).toInt32)), .val (.int ((((31 : Int32) + (-16 : Int32)) + (-8 : Int32)) + (-4 : Int32)))] [(.int ((((((x0.toUInt32 >>> ((16 : Int32) &&& 31).toUInt32).toInt32).toUInt32 >>> ((8 : Int32) &&& 31).toUInt32).toInt32).toUInt32 >>> ((4 : Int32) &&& 31).toUInt32).toInt32))])
          refine Dn.st (fun t q => XS.iconst X0.here hx rfl (hb hby d6_62) q) ?_
          show Dn p e below s _ _ _ s₁ (mkF m 63 #[.val (.int ((((((x0.toUInt32 >>> ((16 : Int32) &&& 31).toUInt32).toInt32).toUInt32 >>> ((8 : Int32) &&& 31).toUInt32).toInt32).toUInt32 >>> ((4 : Int32) &&& 31).toUInt32).toInt32)), .val (.int ((((31 : Int32) + (-16 : Int32)) + (-8 : Int32)) + (-4 : Int32)))] [(.int (4 : Int32)), (.int ((((((x0.toUInt32 >>> ((16 : Int32) &&& 31).toUInt32).toInt32).toUInt32 >>> ((8 : Int32) &&& 31).toUInt32).toInt32).toUInt32 >>> ((4 : Int32) &&& 31).toUInt32).toInt32))])
          by_cases c16 : ((((((x0.toUInt32 >>> ((16 : Int32) &&& 31).toUInt32).toInt32).toUInt32 >>> ((8 : Int32) &&& 31).toUInt32).toInt32).toUInt32 >>> ((4 : Int32) &&& 31).toUInt32).toInt32) < (4 : Int32)
          · refine Dn.st (fun t q => XS.icmpYes X0.here hx rfl (pc0 := 63) (pc' := 73) rfl (hb hby d6_63) rfl (tlt c16).1 (by decide) (by decide) q) ?_
            show Dn p e below s _ _ _ s₁ (mkF m 73 #[.val (.int ((((((x0.toUInt32 >>> ((16 : Int32) &&& 31).toUInt32).toInt32).toUInt32 >>> ((8 : Int32) &&& 31).toUInt32).toInt32).toUInt32 >>> ((4 : Int32) &&& 31).toUInt32).toInt32)), .val (.int ((((31 : Int32) + (-16 : Int32)) + (-8 : Int32)) + (-4 : Int32)))] [])
            refine Dn.st (fun t q => XS.iloadN X0.here hx rfl (hb hby d6_73) rfl  q) ?_
            show Dn p e below s _ _ _ s₁ (mkF m 74 #[.val (.int ((((((x0.toUInt32 >>> ((16 : Int32) &&& 31).toUInt32).toInt32).toUInt32 >>> ((8 : Int32) &&& 31).toUInt32).toInt32).toUInt32 >>> ((4 : Int32) &&& 31).toUInt32).toInt32)), .val (.int ((((31 : Int32) + (-16 : Int32)) + (-8 : Int32)) + (-4 : Int32)))] [(.int ((((31 : Int32) + (-16 : Int32)) + (-8 : Int32)) + (-4 : Int32)))])
            refine Dn.st (fun t q => XS.iloadN X0.here hx rfl (hb hby d6_74) rfl  q) ?_
            show Dn p e below s _ _ _ s₁ (mkF m 75 #[.val (.int ((((((x0.toUInt32 >>> ((16 : Int32) &&& 31).toUInt32).toInt32).toUInt32 >>> ((8 : Int32) &&& 31).toUInt32).toInt32).toUInt32 >>> ((4 : Int32) &&& 31).toUInt32).toInt32)), .val (.int ((((31 : Int32) + (-16 : Int32)) + (-8 : Int32)) + (-4 : Int32)))] [(.int ((((((x0.toUInt32 >>> ((16 : Int32) &&& 31).toUInt32).toInt32).toUInt32 >>> ((8 : Int32) &&& 31).toUInt32).toInt32).toUInt32 >>> ((4 : Int32) &&& 31).toUInt32).toInt32)), (.int ((((31 : Int32) + (-16 : Int32)) + (-8 : Int32)) + (-4 : Int32)))])
            refine Dn.st (fun t q => XS.iconst X0.here hx rfl (hb hby d6_75) q) ?_
            show Dn p e below s _ _ _ s₁ (mkF m 76 #[.val (.int ((((((x0.toUInt32 >>> ((16 : Int32) &&& 31).toUInt32).toInt32).toUInt32 >>> ((8 : Int32) &&& 31).toUInt32).toInt32).toUInt32 >>> ((4 : Int32) &&& 31).toUInt32).toInt32)), .val (.int ((((31 : Int32) + (-16 : Int32)) + (-8 : Int32)) + (-4 : Int32)))] [(.int (1 : Int32)), (.int ((((((x0.toUInt32 >>> ((16 : Int32) &&& 31).toUInt32).toInt32).toUInt32 >>> ((8 : Int32) &&& 31).toUInt32).toInt32).toUInt32 >>> ((4 : Int32) &&& 31).toUInt32).toInt32)), (.int ((((31 : Int32) + (-16 : Int32)) + (-8 : Int32)) + (-4 : Int32)))])
            refine Dn.st (fun t q => XS.iushr X0.here hx rfl (hb hby d6_76) rfl q) ?_
            show Dn p e below s _ _ _ s₁ (mkF m 77 #[.val (.int ((((((x0.toUInt32 >>> ((16 : Int32) &&& 31).toUInt32).toInt32).toUInt32 >>> ((8 : Int32) &&& 31).toUInt32).toInt32).toUInt32 >>> ((4 : Int32) &&& 31).toUInt32).toInt32)), .val (.int ((((31 : Int32) + (-16 : Int32)) + (-8 : Int32)) + (-4 : Int32)))] [(.int ((((((((x0.toUInt32 >>> ((16 : Int32) &&& 31).toUInt32).toInt32).toUInt32 >>> ((8 : Int32) &&& 31).toUInt32).toInt32).toUInt32 >>> ((4 : Int32) &&& 31).toUInt32).toInt32).toUInt32 >>> ((1 : Int32) &&& 31).toUInt32).toInt32)), (.int ((((31 : Int32) + (-16 : Int32)) + (-8 : Int32)) + (-4 : Int32)))])
            refine Dn.st (fun t q => XS.isub X0.here hx rfl (hb hby d6_77) rfl q) ?_
            show Dn p e below s _ _ _ s₁ (mkF m 78 #[.val (.int ((((((x0.toUInt32 >>> ((16 : Int32) &&& 31).toUInt32).toInt32).toUInt32 >>> ((8 : Int32) &&& 31).toUInt32).toInt32).toUInt32 >>> ((4 : Int32) &&& 31).toUInt32).toInt32)), .val (.int ((((31 : Int32) + (-16 : Int32)) + (-8 : Int32)) + (-4 : Int32)))] [(.int (((((31 : Int32) + (-16 : Int32)) + (-8 : Int32)) + (-4 : Int32)) - ((((((((x0.toUInt32 >>> ((16 : Int32) &&& 31).toUInt32).toInt32).toUInt32 >>> ((8 : Int32) &&& 31).toUInt32).toInt32).toUInt32 >>> ((4 : Int32) &&& 31).toUInt32).toInt32).toUInt32 >>> ((1 : Int32) &&& 31).toUInt32).toInt32)))])
            exact Dn.retI X0 hx Bd.notSynchronized Bd.returns (hb hby d6_78) (by rw [e0]; exact ⟨by show some (Value.int (((((31 : Int32) + (-16 : Int32)) + (-8 : Int32)) + (-4 : Int32)) - ((((((((x0.toUInt32 >>> ((16 : Int32) &&& 31).toUInt32).toInt32).toUInt32 >>> ((8 : Int32) &&& 31).toUInt32).toInt32).toUInt32 >>> ((4 : Int32) &&& 31).toUInt32).toInt32).toUInt32 >>> ((1 : Int32) &&& 31).toUInt32).toInt32))) = some (Value.int (own_nlz x0)); rw [own_nlz, if_pos c1, if_neg c2, if_neg c10, if_neg c14, if_pos c16], N0, rfl⟩) (by decide) (by decide)
          · refine Dn.st (fun t q => XS.icmpNo X0.here hx rfl (hb hby d6_63) rfl (flt c16).1 q) ?_
            show Dn p e below s _ _ _ s₁ (mkF m 66 #[.val (.int ((((((x0.toUInt32 >>> ((16 : Int32) &&& 31).toUInt32).toInt32).toUInt32 >>> ((8 : Int32) &&& 31).toUInt32).toInt32).toUInt32 >>> ((4 : Int32) &&& 31).toUInt32).toInt32)), .val (.int ((((31 : Int32) + (-16 : Int32)) + (-8 : Int32)) + (-4 : Int32)))] [])
            refine Dn.st (fun t q => XS.iinc X0.here hx rfl (hb hby d6_66) rfl (l' := #[.val (.int ((((((x0.toUInt32 >>> ((16 : Int32) &&& 31).toUInt32).toInt32).toUInt32 >>> ((8 : Int32) &&& 31).toUInt32).toInt32).toUInt32 >>> ((4 : Int32) &&& 31).toUInt32).toInt32)), .val (.int (((((31 : Int32) + (-16 : Int32)) + (-8 : Int32)) + (-4 : Int32)) + (-2 : Int32)))]) rfl q) ?_
            show Dn p e below s _ _ _ s₁ (mkF m 69 #[.val (.int ((((((x0.toUInt32 >>> ((16 : Int32) &&& 31).toUInt32).toInt32).toUInt32 >>> ((8 : Int32) &&& 31).toUInt32).toInt32).toUInt32 >>> ((4 : Int32) &&& 31).toUInt32).toInt32)), .val (.int (((((31 : Int32) + (-16 : Int32)) + (-8 : Int32)) + (-4 : Int32)) + (-2 : Int32)))] [])
            refine Dn.st (fun t q => XS.iloadN X0.here hx rfl (hb hby d6_69) rfl  q) ?_
            show Dn p e below s _ _ _ s₁ (mkF m 70 #[.val (.int ((((((x0.toUInt32 >>> ((16 : Int32) &&& 31).toUInt32).toInt32).toUInt32 >>> ((8 : Int32) &&& 31).toUInt32).toInt32).toUInt32 >>> ((4 : Int32) &&& 31).toUInt32).toInt32)), .val (.int (((((31 : Int32) + (-16 : Int32)) + (-8 : Int32)) + (-4 : Int32)) + (-2 : Int32)))] [(.int ((((((x0.toUInt32 >>> ((16 : Int32) &&& 31).toUInt32).toInt32).toUInt32 >>> ((8 : Int32) &&& 31).toUInt32).toInt32).toUInt32 >>> ((4 : Int32) &&& 31).toUInt32).toInt32))])
            refine Dn.st (fun t q => XS.iconst X0.here hx rfl (hb hby d6_70) q) ?_
            show Dn p e below s _ _ _ s₁ (mkF m 71 #[.val (.int ((((((x0.toUInt32 >>> ((16 : Int32) &&& 31).toUInt32).toInt32).toUInt32 >>> ((8 : Int32) &&& 31).toUInt32).toInt32).toUInt32 >>> ((4 : Int32) &&& 31).toUInt32).toInt32)), .val (.int (((((31 : Int32) + (-16 : Int32)) + (-8 : Int32)) + (-4 : Int32)) + (-2 : Int32)))] [(.int (2 : Int32)), (.int ((((((x0.toUInt32 >>> ((16 : Int32) &&& 31).toUInt32).toInt32).toUInt32 >>> ((8 : Int32) &&& 31).toUInt32).toInt32).toUInt32 >>> ((4 : Int32) &&& 31).toUInt32).toInt32))])
            refine Dn.st (fun t q => XS.iushr X0.here hx rfl (hb hby d6_71) rfl q) ?_
            show Dn p e below s _ _ _ s₁ (mkF m 72 #[.val (.int ((((((x0.toUInt32 >>> ((16 : Int32) &&& 31).toUInt32).toInt32).toUInt32 >>> ((8 : Int32) &&& 31).toUInt32).toInt32).toUInt32 >>> ((4 : Int32) &&& 31).toUInt32).toInt32)), .val (.int (((((31 : Int32) + (-16 : Int32)) + (-8 : Int32)) + (-4 : Int32)) + (-2 : Int32)))] [(.int ((((((((x0.toUInt32 >>> ((16 : Int32) &&& 31).toUInt32).toInt32).toUInt32 >>> ((8 : Int32) &&& 31).toUInt32).toInt32).toUInt32 >>> ((4 : Int32) &&& 31).toUInt32).toInt32).toUInt32 >>> ((2 : Int32) &&& 31).toUInt32).toInt32))])
            refine Dn.st (fun t q => XS.istoreN X0.here hx rfl (hb hby d6_72) rfl (l' := #[.val (.int ((((((((x0.toUInt32 >>> ((16 : Int32) &&& 31).toUInt32).toInt32).toUInt32 >>> ((8 : Int32) &&& 31).toUInt32).toInt32).toUInt32 >>> ((4 : Int32) &&& 31).toUInt32).toInt32).toUInt32 >>> ((2 : Int32) &&& 31).toUInt32).toInt32)), .val (.int (((((31 : Int32) + (-16 : Int32)) + (-8 : Int32)) + (-4 : Int32)) + (-2 : Int32)))]) rfl q) ?_
            show Dn p e below s _ _ _ s₁ (mkF m 73 #[.val (.int ((((((((x0.toUInt32 >>> ((16 : Int32) &&& 31).toUInt32).toInt32).toUInt32 >>> ((8 : Int32) &&& 31).toUInt32).toInt32).toUInt32 >>> ((4 : Int32) &&& 31).toUInt32).toInt32).toUInt32 >>> ((2 : Int32) &&& 31).toUInt32).toInt32)), .val (.int (((((31 : Int32) + (-16 : Int32)) + (-8 : Int32)) + (-4 : Int32)) + (-2 : Int32)))] [])
            refine Dn.st (fun t q => XS.iloadN X0.here hx rfl (hb hby d6_73) rfl  q) ?_
            show Dn p e below s _ _ _ s₁ (mkF m 74 #[.val (.int ((((((((x0.toUInt32 >>> ((16 : Int32) &&& 31).toUInt32).toInt32).toUInt32 >>> ((8 : Int32) &&& 31).toUInt32).toInt32).toUInt32 >>> ((4 : Int32) &&& 31).toUInt32).toInt32).toUInt32 >>> ((2 : Int32) &&& 31).toUInt32).toInt32)), .val (.int (((((31 : Int32) + (-16 : Int32)) + (-8 : Int32)) + (-4 : Int32)) + (-2 : Int32)))] [(.int (((((31 : Int32) + (-16 : Int32)) + (-8 : Int32)) + (-4 : Int32)) + (-2 : Int32)))])
            refine Dn.st (fun t q => XS.iloadN X0.here hx rfl (hb hby d6_74) rfl  q) ?_
            show Dn p e below s _ _ _ s₁ (mkF m 75 #[.val (.int ((((((((x0.toUInt32 >>> ((16 : Int32) &&& 31).toUInt32).toInt32).toUInt32 >>> ((8 : Int32) &&& 31).toUInt32).toInt32).toUInt32 >>> ((4 : Int32) &&& 31).toUInt32).toInt32).toUInt32 >>> ((2 : Int32) &&& 31).toUInt32).toInt32)), .val (.int (((((31 : Int32) + (-16 : Int32)) + (-8 : Int32)) + (-4 : Int32)) + (-2 : Int32)))] [(.int ((((((((x0.toUInt32 >>> ((16 : Int32) &&& 31).toUInt32).toInt32).toUInt32 >>> ((8 : Int32) &&& 31).toUInt32).toInt32).toUInt32 >>> ((4 : Int32) &&& 31).toUInt32).toInt32).toUInt32 >>> ((2 : Int32) &&& 31).toUInt32).toInt32)), (.int (((((31 : Int32) + (-16 : Int32)) + (-8 : Int32)) + (-4 : Int32)) + (-2 : Int32)))])
            refine Dn.st (fun t q => XS.iconst X0.here hx rfl (hb hby d6_75) q) ?_
            show Dn p e below s _ _ _ s₁ (mkF m 76 #[.val (.int ((((((((x0.toUInt32 >>> ((16 : Int32) &&& 31).toUInt32).toInt32).toUInt32 >>> ((8 : Int32) &&& 31).toUInt32).toInt32).toUInt32 >>> ((4 : Int32) &&& 31).toUInt32).toInt32).toUInt32 >>> ((2 : Int32) &&& 31).toUInt32).toInt32)), .val (.int (((((31 : Int32) + (-16 : Int32)) + (-8 : Int32)) + (-4 : Int32)) + (-2 : Int32)))] [(.int (1 : Int32)), (.int ((((((((x0.toUInt32 >>> ((16 : Int32) &&& 31).toUInt32).toInt32).toUInt32 >>> ((8 : Int32) &&& 31).toUInt32).toInt32).toUInt32 >>> ((4 : Int32) &&& 31).toUInt32).toInt32).toUInt32 >>> ((2 : Int32) &&& 31).toUInt32).toInt32)), (.int (((((31 : Int32) + (-16 : Int32)) + (-8 : Int32)) + (-4 : Int32)) + (-2 : Int32)))])
            refine Dn.st (fun t q => XS.iushr X0.here hx rfl (hb hby d6_76) rfl q) ?_
            show Dn p e below s _ _ _ s₁ (mkF m 77 #[.val (.int ((((((((x0.toUInt32 >>> ((16 : Int32) &&& 31).toUInt32).toInt32).toUInt32 >>> ((8 : Int32) &&& 31).toUInt32).toInt32).toUInt32 >>> ((4 : Int32) &&& 31).toUInt32).toInt32).toUInt32 >>> ((2 : Int32) &&& 31).toUInt32).toInt32)), .val (.int (((((31 : Int32) + (-16 : Int32)) + (-8 : Int32)) + (-4 : Int32)) + (-2 : Int32)))] [(.int ((((((((((x0.toUInt32 >>> ((16 : Int32) &&& 31).toUInt32).toInt32).toUInt32 >>> ((8 : Int32) &&& 31).toUInt32).toInt32).toUInt32 >>> ((4 : Int32) &&& 31).toUInt32).toInt32).toUInt32 >>> ((2 : Int32) &&& 31).toUInt32).toInt32).toUInt32 >>> ((1 : Int32) &&& 31).toUInt32).toInt32)), (.int (((((31 : Int32) + (-16 : Int32)) + (-8 : Int32)) + (-4 : Int32)) + (-2 : Int32)))])
            refine Dn.st (fun t q => XS.isub X0.here hx rfl (hb hby d6_77) rfl q) ?_
            show Dn p e below s _ _ _ s₁ (mkF m 78 #[.val (.int ((((((((x0.toUInt32 >>> ((16 : Int32) &&& 31).toUInt32).toInt32).toUInt32 >>> ((8 : Int32) &&& 31).toUInt32).toInt32).toUInt32 >>> ((4 : Int32) &&& 31).toUInt32).toInt32).toUInt32 >>> ((2 : Int32) &&& 31).toUInt32).toInt32)), .val (.int (((((31 : Int32) + (-16 : Int32)) + (-8 : Int32)) + (-4 : Int32)) + (-2 : Int32)))] [(.int ((((((31 : Int32) + (-16 : Int32)) + (-8 : Int32)) + (-4 : Int32)) + (-2 : Int32)) - ((((((((((x0.toUInt32 >>> ((16 : Int32) &&& 31).toUInt32).toInt32).toUInt32 >>> ((8 : Int32) &&& 31).toUInt32).toInt32).toUInt32 >>> ((4 : Int32) &&& 31).toUInt32).toInt32).toUInt32 >>> ((2 : Int32) &&& 31).toUInt32).toInt32).toUInt32 >>> ((1 : Int32) &&& 31).toUInt32).toInt32)))])
            exact Dn.retI X0 hx Bd.notSynchronized Bd.returns (hb hby d6_78) (by rw [e0]; exact ⟨by show some (Value.int ((((((31 : Int32) + (-16 : Int32)) + (-8 : Int32)) + (-4 : Int32)) + (-2 : Int32)) - ((((((((((x0.toUInt32 >>> ((16 : Int32) &&& 31).toUInt32).toInt32).toUInt32 >>> ((8 : Int32) &&& 31).toUInt32).toInt32).toUInt32 >>> ((4 : Int32) &&& 31).toUInt32).toInt32).toUInt32 >>> ((2 : Int32) &&& 31).toUInt32).toInt32).toUInt32 >>> ((1 : Int32) &&& 31).toUInt32).toInt32))) = some (Value.int (own_nlz x0)); rw [own_nlz, if_pos c1, if_neg c2, if_neg c10, if_neg c14, if_neg c16], N0, rfl⟩) (by decide) (by decide)
  · refine Dn.st (fun t q => XS.ifNo X0.here hx rfl (hb hby d6_1) rfl ((if0 _ _).trans (flt c1).2.2.1) q) ?_
    show Dn p e below s _ _ _ s₁ (mkF m 4 #[.val (.int x0), .unset] [])
    refine Dn.st (fun t q => XS.iloadN X0.here hx rfl (hb hby d6_4) rfl  q) ?_
    show Dn p e below s _ _ _ s₁ (mkF m 5 #[.val (.int x0), .unset] [(.int x0)])
    by_cases c17 : x0 = (0 : Int32)
    · refine Dn.st (fun t q => XS.ifNo X0.here hx rfl (hb hby d6_5) rfl ((if0 _ _).trans (teq c17).2) q) ?_
      show Dn p e below s _ _ _ s₁ (mkF m 8 #[.val (.int x0), .unset] [])
      refine Dn.st (fun t q => XS.bipush X0.here hx rfl (hb hby d6_8) q) ?_
      show Dn p e below s _ _ _ s₁ (mkF m 10 #[.val (.int x0), .unset] [(.int (32 : Int32))])
      refine Dn.st (fun t q => XS.goto X0.here hx rfl (pc0 := 10) (pc' := 14) rfl (hb hby d6_10) (by decide) (by decide) q) ?_
      show Dn p e below s _ _ _ s₁ (mkF m 14 #[.val (.int x0), .unset] [(.int (32 : Int32))])
      exact Dn.retI X0 hx Bd.notSynchronized Bd.returns (hb hby d6_14) (by rw [e0]; exact ⟨by show some (Value.int (32 : Int32)) = some (Value.int (own_nlz x0)); rw [own_nlz, if_neg c1, if_pos c17], N0, rfl⟩) (by decide) (by decide)
    · refine Dn.st (fun t q => XS.ifYes X0.here hx rfl (pc0 := 5) (pc' := 13) rfl (hb hby d6_5) rfl ((if0 _ _).trans (feq c17).2) (by decide) (by decide) q) ?_
      show Dn p e below s _ _ _ s₁ (mkF m 13 #[.val (.int x0), .unset] [])
      refine Dn.st (fun t q => XS.iconst X0.here hx rfl (hb hby d6_13) q) ?_
      show Dn p e below s _ _ _ s₁ (mkF m 14 #[.val (.int x0), .unset] [(.int (0 : Int32))])
      exact Dn.retI X0 hx Bd.notSynchronized Bd.returns (hb hby d6_14) (by rw [e0]; exact ⟨by show some (Value.int (0 : Int32)) = some (Value.int (own_nlz x0)); rw [own_nlz, if_neg c1, if_neg c17], N0, rfl⟩) (by decide) (by decide)
theorem d5_0 : decode prog_95_method_2_code 0 = .ok (.bipush 31, 2) := by decide +kernel
theorem d5_2 : decode prog_95_method_2_code 2 = .ok (.iload_n 0, 1) := by decide +kernel
theorem d5_3 : decode prog_95_method_2_code 3 = .ok (.invokestatic 9, 3) := by decide +kernel
theorem pd_0 : parseMethodDescriptor "(I)I" = some ⟨[.int], some .int⟩ := by decide +kernel
theorem d5_6 : decode prog_95_method_2_code 6 = .ok (.isub, 1) := by decide +kernel
theorem d5_7 : decode prog_95_method_2_code 7 = .ok (.ireturn, 1) := by decide +kernel
theorem pn_2 : plainName "keyfold/ZstdBits" = true := by first | (simp [plainName, overriddenIn]; done) | decide +kernel
theorem ef_rm5 (m : MethodId) (x0 : Int32) : entryFrame m #[(.int x0)] 1 = mkF m 0 #[.val (.int x0)] [] := by first | (simp [entryFrame, mkF, argsToLocals, Value.category]; done) | rfl
def Q5 (Z : State) (x0 : Int32) (h0 : Heap) (n0 : Nat) (v : Option Value) (h : Heap) (L : List Loc) : Prop := v = some (.int ((31 : Int32) - (own_nlz x0))) ∧ Fr n0 L ∧ h = h0
set_option maxRecDepth 65536 in
set_option maxHeartbeats 40000000 in
theorem rm5 (l : Launch) (Z : State) (a0 : Array Value) (hw : ∀ d ∈ tables_1, d.before a0 Z = true) (ws : List Jvm.Cond) (x0 : Int32) (h0 : Heap) (n0 : Nat) (Z0 : n0 ≤ h0.size) :
    MetFree l (⟨"keyfold/ZstdBits", "highBit", "(I)I"⟩ : MethodName) (head1 (Jvm.Cond.code (⟨"keyfold/ZstdBits", "highBit", "(I)I"⟩ : MethodName) prog_95_method_2_code 1 (some .int) :: ws) ({ frames := 1, cells := 0, slots := 0, locals := 14 } : Room)) (fun a U => a = #[(.int x0)] ∧ Z.Warmed39 U.vm ∧ U.heap = h0) (fun _ _ _ _ _ => True) (fun _ U o U' => ∃ v L, o = .returned v ∧ Q5 Z x0 h0 n0 v U'.heap L ∧ FrameEnd U o U' L ({ frames := 1, cells := 0, slots := 0, locals := 14 } : Room).cells ({ frames := 1, cells := 0, slots := 0, locals := 14 } : Room).slots) := by
  refine MetFree.of_bodySF (plainFor_of_name pn_2) hisR ?_
  intro p e s m args below meth c s₁ Bd hml0 hP hK
  obtain ⟨rfl, hZ, hh⟩ := hP
  have hx := Bd.exec
  have hby := Bd.bytes
  have hml : c.maxLocals = 1 := hml0
  have hown : s.vm.findClass "keyfold/ZstdBits" = some m.cls := findClass_of_methodNamed Bd.named
  have hnm := (name_of_methodNamed Bd.named Bd.method).1
  have X0 : Stand p l e ({ frames := 1, cells := 0, slots := 0, locals := 14 } : Room) s m #[(.int x0)] below meth c s₁ [] 0 0 := Stand.of_body Bd
  have e0 : s₁.heap = h0 := by rw [← hh, Bd.state]; rfl
  have N0 := Fr.nil n0
  have K0 := Keep.refl h0 []
  suffices hD : Dn p e below s (Q5 Z x0 h0 n0) ({ frames := 1, cells := 0, slots := 0, locals := 14 } : Room).cells ({ frames := 1, cells := 0, slots := 0, locals := 14 } : Room).slots s₁ (mkF m 0 #[.val (.int x0)] []) from by
    obtain ⟨s₂, o, q1, q2⟩ := hD
    exact ⟨s₂, o, castTop (ef_rm5 m x0) q1, q2⟩
  refine Dn.st (fun t q => XS.bipush X0.here hx rfl (hb hby d5_0) q) ?_
  show Dn p e below s _ _ _ s₁ (mkF m 2 #[.val (.int x0)] [(.int (31 : Int32))])
  refine Dn.st (fun t q => XS.iloadN X0.here hx rfl (hb hby d5_2) rfl  q) ?_
  show Dn p e below s _ _ _ s₁ (mkF m 3 #[.val (.int x0)] [(.int x0), (.int (31 : Int32))])
  obtain ⟨_, _, ⟨T1, Lq1, kq_1, nq_1⟩, -, X1, ⟨Lc1, hQ1, lq1, yq1, zq1⟩, st1⟩ := Jvm.LawKit.callS X0 hx (y := (⟨"java/lang/Integer", "numberOfLeadingZeros", "(I)I"⟩ : MethodName)) hown (mvT hZ (hw _ (List.mem_of_getElem? (i := 43) rfl))) (mvT hZ (hw _ (List.mem_of_getElem? (i := 44) rfl))) (mvT hZ (hw _ (List.mem_of_getElem? (i := 45) rfl))) (mvT hZ (hw _ (List.mem_of_getElem? (i := 46) rfl))) (by decide) (backOf (W := 1) (rm6 l Z a0 hw [] x0  h0 n0 Z0 ) hZ (hw _ (List.mem_of_getElem? (i := 46) rfl)) (hw _ (List.mem_of_getElem? (i := 45) rfl)) (by decide) (by decide)) (g := (mkF m 3 #[.val (.int x0)] [(.int x0), (.int (31 : Int32))])) rfl (by rw [hml]; rfl) (argsL := [(.int x0)]) (rest := [(.int (31 : Int32))]) (lenOf pd_0 rfl) rfl (by show 2 * 0 + _ ≤ _; exact Nat.le_of_eq rfl) (hb hby d5_3) (fun _ _ => ⟨rfl, e0, (by decide : 0 + 0 ≤ _), (by decide : 0 + 0 ≤ _)⟩)
  dsimp only [Pt.U, Pt.locs, Pt.cells, Pt.slots] at X1 lq1 yq1 zq1 st1 hQ1
  subst lq1 yq1 zq1
  obtain ⟨rfl, N1q, hq1⟩ := hQ1
  have N0 := Fr.app N0 N1q
  have e1 : T1.heap = h0 := hq1
  refine Dn.st st1 ?_
  show Dn p e below s _ _ _ T1 (mkF m 6 #[.val (.int x0)] [(.int (own_nlz x0)), (.int (31 : Int32))])
  refine Dn.st (fun t q => XS.isub X1.here hx rfl (hb hby d5_6) rfl q) ?_
  show Dn p e below s _ _ _ T1 (mkF m 7 #[.val (.int x0)] [(.int ((31 : Int32) - (own_nlz x0)))])
  exact Dn.retI X1 hx Bd.notSynchronized Bd.returns (hb hby d5_7) (by rw [e1]; exact ⟨rfl, N0, rfl⟩) (by decide) (by decide)
theorem own_ite {p : Prop} [Decidable p] {a b : Int32} : Value.int (if p then a else b) = if p then Value.int a else Value.int b := by split <;> rfl
section OwnFse
variable {P : Nat → Int32} {nn : Nat} {i i6 i7 : Int32} {s r H k : Nat} {Y : Nat → Nat}
theorem own_n5 (h : own_ok P nn) : nn ≤ 5 := by rcases h.1 with rfl | rfl <;> decide
theorem own_pp32 {t : Nat} (h : own_ok P nn) (ht : t < nn) : own_pp (P t) ≤ 32 := by
  have q := own_cz_le h.2.2.1 ht
  unfold own_cz at q
  by_cases r : P t = (-1 : Int32)
  · rw [own_pp_m1 r]; decide
  · rw [if_neg r] at q; omega
theorem own_tl (h : own_ok P nn) : (Nat.toInt32 nn).toInt = (nn : Int) := by rcases h.1 with rfl | rfl <;> rfl
theorem own_out (h : own_ok P nn) (h7 : i.toInt = (s : Int)) (hs : s + 0 = nn) : ¬ (i < (Nat.toInt32 nn)) := by rw [Int32.lt_iff_toInt_lt, own_tl h]; omega
theorem own_in (h : own_ok P nn) (h7 : i.toInt = (s : Int)) (hs : s + (r + 1) = nn) : i < (Nat.toInt32 nn) := by rw [Int32.lt_iff_toInt_lt, own_tl h]; omega
theorem own_cast1 (hs : s + 0 = nn) (hJ : own_J1 P nn s H Y) : own_J1 P nn nn H Y := by have : s = nn := hs; subst this; exact hJ
theorem own_cast2 (hs : s + 0 = nn) (hJ : own_J2 P nn H s 0 k Y) : own_J2 P nn H nn 0 k Y := by have : s = nn := hs; subst this; exact hJ
theorem own_cend (hs : s + 0 = nn) : ∀ j, j < nn → Value.int (own_cn (P j)) = Value.int (if j < s then own_cn (P j) else (0 : Int32)) := fun j hj => by rw [if_pos (by omega)]
theorem own_ud_eq (h7 : i7.toInt = (s : Int)) : ∀ j, j < 32 → Value.int (Int32.ofNat (own_ud Y H s j)) = if j = H then Value.int i7 else Value.int (Int32.ofNat (Y j)) := fun j _ => by
  unfold own_ud; rw [own_ofNat h7]; split <;> rfl
theorem own_cnt_eq {z : Int32} (hv : own_cn (P s) = z) : ∀ j, j < nn → Value.int (if j < s + 1 then own_cn (P j) else (0 : Int32)) = if j = s then Value.int z else Value.int (if j < s then own_cn (P j) else (0 : Int32)) := fun j _ => by
  by_cases q : j = s
  · subst q; rw [if_pos (by omega), if_pos rfl, hv]
  · rw [if_neg q]
    by_cases t : j < s
    · rw [if_pos t, if_pos (by omega)]
    · rw [if_neg t, if_neg (by omega)]
theorem own_cnm (hp : P s = (-1 : Int32)) : own_cn (P s) = (1 : Int32) := by unfold own_cn; rw [if_pos hp]
theorem own_cnp (hp : ¬ (P s = (-1 : Int32))) : own_cn (P s) = P s := by unfold own_cn; rw [if_neg hp]
theorem own_decH (h6 : i6.toInt = (H : Int)) (h : 1 ≤ H) : (i6 + (-1 : Int32)).toInt = ((H - 1 : Nat) : Int) := by
  have := i6.toInt_lt
  have e : (-1 : Int32).toInt = -1 := rfl
  rw [Jvm.Kit.i32_add (by omega) (by omega), h6, e]; omega
theorem own_iout {j : Nat} (h : i.toInt = (j : Int)) (h3 : j + 0 = own_pp (P s)) : ¬ (i < P s) := by rw [Int32.lt_iff_toInt_lt]; unfold own_pp at h3; omega
theorem own_iin {j : Nat} (h : i.toInt = (j : Int)) (h3 : j + (r + 1) = own_pp (P s)) : i < P s := by rw [Int32.lt_iff_toInt_lt]; unfold own_pp at h3; omega
theorem own_step1' : ∀ p, p < 32 → ((Int32.ofNat p + (23 : Int32)) &&& ((32 : Int32) - (1 : Int32))) = Int32.ofNat ((p + 23) % 32) := by decide +kernel
theorem own_step1 {p : Nat} (h : p < 32) : ((Int32.ofNat p + (23 : Int32)) &&& ((32 : Int32) - (1 : Int32))) = Int32.ofNat ((p + 23) % 32) := own_step1' p h
theorem own_step2' : ∀ p, p < 32 → ((Int32.ofNat ((p + 23) % 32) + (23 : Int32)) &&& ((32 : Int32) - (1 : Int32))) = Int32.ofNat ((p + 46) % 32) := by decide +kernel
theorem own_step2 {p : Nat} (h : p < 32) : ((Int32.ofNat ((p + 23) % 32) + (23 : Int32)) &&& ((32 : Int32) - (1 : Int32))) = Int32.ofNat ((p + 46) % 32) := own_step2' p h
theorem own_gtH {p : Nat} (h6 : i6.toInt = (H : Int)) (hp : p < 32) : i6 < Int32.ofNat p ↔ H < p := by
  rw [Int32.lt_iff_toInt_lt, h6, own_toN (by omega)]; omega
theorem own_nover {p : Nat} (h6 : i6.toInt = (H : Int)) (hH : 27 ≤ H ∧ H < 32 ∧ own_k P nn = H + 1) (hp : p ≤ H) (hgt : i6 < Int32.ofNat ((p + 23) % 32)) : ¬ (i6 < Int32.ofNat ((p + 46) % 32)) := by
  rw [own_gtH h6 (by omega)] at hgt ⊢; omega
theorem own_sg1 (h6 : i6.toInt = (H : Int)) (hgt : ¬ (i6 < Int32.ofNat ((own_sg H k + 23) % 32))) : Int32.ofNat ((own_sg H k + 23) % 32) = Int32.ofNat (own_sg H (k + 1)) := by
  rw [own_gtH h6 (by omega)] at hgt
  show _ = Int32.ofNat (own_nx H (own_sg H k))
  unfold own_nx; rw [if_pos (by omega)]
theorem own_sg2 (h6 : i6.toInt = (H : Int)) (hgt : i6 < Int32.ofNat ((own_sg H k + 23) % 32)) : Int32.ofNat ((own_sg H k + 46) % 32) = Int32.ofNat (own_sg H (k + 1)) := by
  rw [own_gtH h6 (by omega)] at hgt
  show _ = Int32.ofNat (own_nx H (own_sg H k))
  unfold own_nx; rw [if_neg (by omega)]
theorem own_f0 (P : Nat → Int32) {nn : Nat} : ∀ j, j < nn → Value.int (Int32.ofNat (if j < 0 + 1 then own_F P j else 0)) = Value.int (0 : Int32) := fun j _ => by
  by_cases q : j < 0 + 1
  · have : j = 0 := by omega
    subst this; rfl
  · rw [if_neg q]; rfl
theorem own_fend {q4 : Nat} (g4 : (q4 + 1) + 0 = nn) : ∀ j, j < nn → Value.int (Int32.ofNat (own_F P j)) = Value.int (Int32.ofNat (if j < q4 + 1 then own_F P j else 0)) := fun j hj => by rw [if_pos (by omega)]
theorem own_pred1 {q4 : Nat} (g9 : i.toInt = ((q4 + 1 : Nat) : Int)) : (i - (1 : Int32)).toInt = (q4 : Int) := by
  have := i.toInt_lt
  have e : (1 : Int32).toInt = 1 := rfl
  rw [Jvm.Kit.i32_sub (by omega) (by omega), g9, e]; omega
theorem own_f_eq {q4 : Nat} (h : own_ok P nn) (hq : q4 + 1 < nn) : ∀ j, j < nn → Value.int (Int32.ofNat (if j < (q4 + 1) + 1 then own_F P j else 0)) = if j = q4 + 1 then Value.int (Int32.ofNat (if q4 < q4 + 1 then own_F P q4 else 0) + own_cn (P q4)) else Value.int (Int32.ofNat (if j < q4 + 1 then own_F P j else 0)) := fun j _ => by
  by_cases q : j = q4 + 1
  · subst q
    rw [if_pos (by omega), if_pos rfl, if_pos (by omega), own_cz_val h (by omega)]
    show Value.int (Int32.ofNat (own_F P q4 + own_cz (P q4))) = _
    rw [Int32.ofNat_add]
  · rw [if_neg q]
    by_cases t : j < q4 + 1
    · rw [if_pos t, if_pos (by omega)]
    · rw [if_neg t, if_neg (by omega)]
theorem own_nn1 (h : own_ok P nn) : (0 + 1) + (nn - 1) = nn := by rcases h.1 with rfl | rfl <;> rfl
theorem own_n0 (h : own_ok P nn) : ∀ j, j < nn → Value.int (Int32.ofNat (own_cz (P j) + own_c Y j (List.range 0))) = Value.int (own_cn (P j)) := fun j hj => by rw [own_cz_val h hj]; rfl
theorem own_out32 {st : Nat} (g : i.toInt = (st : Int)) (g5 : st + 0 = 32) : ¬ (i < (32 : Int32)) := by rw [Int32.lt_iff_toInt_lt, show (32 : Int32).toInt = 32 from rfl]; omega
theorem own_in32 {st : Nat} (g : i.toInt = (st : Int)) (g5 : st + (r + 1) = 32) : i < (32 : Int32) := by rw [Int32.lt_iff_toInt_lt, show (32 : Int32).toInt = 32 from rfl]; omega
theorem own_nx_eq {st : Nat} {xx : Int32} (hxx : Int32.ofNat (own_cz (P (Y st)) + own_c Y (Y st) (List.range st)) = xx) : ∀ j, j < nn → Value.int (Int32.ofNat (own_cz (P j) + own_c Y j (List.range (st + 1)))) = if j = Y st then Value.int (xx + (1 : Int32)) else Value.int (Int32.ofNat (own_cz (P j) + own_c Y j (List.range st))) := fun j _ => by
  rw [own_c_succ]
  by_cases q : j = Y st
  · rw [if_pos q, if_pos q.symm, ← hxx, ← q, ← Nat.add_assoc, Int32.ofNat_add]; rfl
  · rw [if_neg q, if_neg (fun z => q z.symm), Nat.add_zero]
theorem own_bidx {st : Nat} {xx : Int32} (h : own_ok P nn) (hY : own_Y P nn Y) (hst : st < 32) (hxx : Int32.ofNat (own_cz (P (Y st)) + own_c Y (Y st) (List.range st)) = xx) : ((((Int32.ofNat (own_F P (Y st))) + xx) - (own_cn (P (Y st))))).toInt = ((own_F P (Y st) + own_c Y (Y st) (List.range st) : Nat) : Int) := by
  have h1 := own_idx h hY hst
  have h2 := own_cz_le h.2.2.1 (hY.1 st)
  have e1 : (Int32.ofNat (own_F P (Y st))).toInt = (own_F P (Y st) : Int) := own_toN (by omega)
  have e2 : xx.toInt = ((own_cz (P (Y st)) + own_c Y (Y st) (List.range st) : Nat) : Int) := by rw [← hxx]; exact own_toN (by omega)
  have e3 : (own_cn (P (Y st))).toInt = (own_cz (P (Y st)) : Int) := by rw [own_cz_val h (hY.1 st)]; exact own_toN (by omega)
  have e4 : ((Int32.ofNat (own_F P (Y st))) + xx).toInt = (own_F P (Y st) : Int) + ((own_cz (P (Y st)) + own_c Y (Y st) (List.range st) : Nat) : Int) := by rw [Jvm.Kit.i32_add (by omega) (by omega), e1, e2]
  rw [Jvm.Kit.i32_sub (by omega) (by omega), e4, e3]; omega
end OwnFse
def own_has (P : Nat → Int32) (nn : Nat) (x : Int32) : Int32 := if x < (Nat.toInt32 nn) then (if (0 : Int32) < own_cn (P x.toInt.toNat) then (1 : Int32) else (0 : Int32)) else (0 : Int32)
section OwnHas
variable {P : Nat → Int32} {nn i1 : Nat} {x1 : Int32}
theorem own_lt1 (hx1 : x1.toInt = (i1 : Int)) (hn : nn ≤ 5) (h1 : x1 < (Nat.toInt32 nn)) : i1 < nn := by
  rw [Int32.lt_iff_toInt_lt, hx1, show (Nat.toInt32 nn).toInt = (nn : Int) from Int32.toInt_ofNat_of_lt (by omega)] at h1; omega
theorem own_tn (hx1 : x1.toInt = (i1 : Int)) : x1.toInt.toNat = i1 := by rw [hx1]; rfl
theorem own_has_1 (hx1 : x1.toInt = (i1 : Int)) (h1 : x1 < (Nat.toInt32 nn)) (h2 : (0 : Int32) < own_cn (P i1)) : own_has P nn x1 = 1 := by unfold own_has; rw [if_pos h1, own_tn hx1, if_pos h2]
theorem own_has_0 (hx1 : x1.toInt = (i1 : Int)) (h1 : x1 < (Nat.toInt32 nn)) (h2 : ¬ ((0 : Int32) < own_cn (P i1))) : own_has P nn x1 = 0 := by unfold own_has; rw [if_pos h1, own_tn hx1, if_neg h2]
theorem own_has_n (h1 : ¬ (x1 < (Nat.toInt32 nn))) : own_has P nn x1 = 0 := by unfold own_has; rw [if_neg h1]
end OwnHas
def own_exp (P : Nat → Int32) (nn : Nat) (x : Int32) : Int32 := if x < (Nat.toInt32 nn) then (if P x.toInt.toNat = (0 : Int32) then (0 : Int32) else (1 : Int32)) else (0 : Int32)
section OwnExp
variable {P : Nat → Int32} {nn i1 : Nat} {x1 : Int32}
theorem own_exp_0 (hx1 : x1.toInt = (i1 : Int)) (h1 : x1 < (Nat.toInt32 nn)) (h2 : P i1 = (0 : Int32)) : (0 : Int32) = own_exp P nn x1 := by unfold own_exp; rw [if_pos h1, own_tn hx1, if_pos h2]
theorem own_exp_1 (hx1 : x1.toInt = (i1 : Int)) (h1 : x1 < (Nat.toInt32 nn)) (h2 : ¬ (P i1 = (0 : Int32))) : (1 : Int32) = own_exp P nn x1 := by unfold own_exp; rw [if_pos h1, own_tn hx1, if_neg h2]
theorem own_exp_n (h1 : ¬ (x1 < (Nat.toInt32 nn))) : (0 : Int32) = own_exp P nn x1 := by unfold own_exp; rw [if_neg h1]
theorem own_hasexp (h : own_ok P nn) (hx1 : x1.toInt = (i1 : Int)) : own_has P nn x1 = own_exp P nn x1 := by
  by_cases h1 : x1 < (Nat.toInt32 nn)
  · have hi := own_lt1 hx1 (own_n5 h) h1
    by_cases h0 : P i1 = (0 : Int32)
    · rw [← own_exp_0 hx1 h1 h0]; refine own_has_0 hx1 h1 ?_
      unfold own_cn; rw [h0]; decide
    · rw [← own_exp_1 hx1 h1 h0]; refine own_has_1 hx1 h1 ?_
      unfold own_cn
      by_cases q : P i1 = (-1 : Int32)
      · rw [if_pos q]; decide
      · rw [if_neg q, Int32.lt_iff_toInt_lt, show (0 : Int32).toInt = 0 from rfl]
        have a := (h.2.1 i1 hi).resolve_left q
        have b : (P i1).toInt ≠ 0 := fun z => h0 (Int32.toInt_inj.mp z)
        omega
  · rw [own_has_n h1, ← own_exp_n h1]
end OwnExp
/-! the law's own numbers -/
theorem own_sh (x : Int32) : (x &&& (1 : Int32)) = (0 : Int32) ∨ (x &&& (1 : Int32)) = (1 : Int32) := by
  have e : (x &&& 1).toInt = x.toInt % 2 ^ 1 := Jvm.Kit.i32_mask x 1 (k := 1) (by decide) (by decide)
  rcases (show x.toInt % 2 ^ 1 = 0 ∨ x.toInt % 2 ^ 1 = 1 by omega) with q | q
  · exact Or.inl (Int32.toInt_inj.mp (by rw [e, q]; rfl))
  · exact Or.inr (Int32.toInt_inj.mp (by rw [e, q]; rfl))
theorem own_rem (x d : Int32) (D : Nat) (hd : d.toInt = (D : Int)) (hD : 0 < D) : ∃ k : Nat, ((x &&& 2147483647) % d).toInt = (k : Int) ∧ k < D := by
  have e : (x &&& 2147483647).toInt = x.toInt % 2 ^ 31 := Jvm.Kit.i32_mask x 2147483647 (k := 31) (by decide) (by decide)
  have h0 : 0 ≤ (x &&& 2147483647).toInt := by rw [e]; omega
  have r : ((x &&& 2147483647) % d).toInt = (x &&& 2147483647).toInt % (D : Int) := by rw [Jvm.Kit.i32_rem_nonneg h0, hd]
  have h1 := Int.emod_nonneg (x &&& 2147483647).toInt (show (D : Int) ≠ 0 by omega)
  have h2 := Int.emod_lt_of_pos (x &&& 2147483647).toInt (show (0 : Int) < D by omega)
  exact ⟨((x &&& 2147483647).toInt % (D : Int)).toNat, by rw [r]; omega, by omega⟩
def own_pv (f x0 x1 i : Int32) : Int32 := if f = i then (0 : Int32) else own_draw x0 x1 i
theorem own_pv_y {f x0 x1 i : Int32} (h : f = i) : (0 : Int32) = own_pv f x0 x1 i := by unfold own_pv; rw [if_pos h]
theorem own_pv_n {f x0 x1 i : Int32} (h : ¬ (f = i)) : own_draw x0 x1 i = own_pv f x0 x1 i := by unfold own_pv; rw [if_neg h]
def own_P4 (f x0 x1 : Int32) (x : Nat) : Int32 := (if x = 3 then own_pv f x0 x1 (3 : Int32) else (if x = 2 then own_pv f x0 x1 (2 : Int32) else (if x = 1 then own_pv f x0 x1 (1 : Int32) else (if x = 0 then own_pv f x0 x1 (0 : Int32) else (0 : Int32)))))
def own_P5 (f x0 x1 : Int32) (x : Nat) : Int32 := (if x = 4 then own_pv f x0 x1 (4 : Int32) else (if x = 3 then own_pv f x0 x1 (3 : Int32) else (if x = 2 then own_pv f x0 x1 (2 : Int32) else (if x = 1 then own_pv f x0 x1 (1 : Int32) else (if x = 0 then own_pv f x0 x1 (0 : Int32) else (0 : Int32))))))
def own_Q4 (f x0 x1 : Int32) (f1 : Nat) (us : Int32) (x : Nat) : Int32 := if x = f1 then ((32 : Int32) - us) else own_P4 f x0 x1 x
def own_Q5 (f x0 x1 : Int32) (f1 : Nat) (us : Int32) (x : Nat) : Int32 := if x = f1 then ((32 : Int32) - us) else own_P5 f x0 x1 x
theorem own_Q4_eq {f x0 x1 us : Int32} {f1 : Nat} : ∀ j, j < 4 → Value.int (own_Q4 f x0 x1 f1 us j) = if j = f1 then Value.int ((32 : Int32) - us) else Value.int (own_P4 f x0 x1 j) := fun j _ => own_ite
theorem own_Q5_eq {f x0 x1 us : Int32} {f1 : Nat} : ∀ j, j < 5 → Value.int (own_Q5 f x0 x1 f1 us j) = if j = f1 then Value.int ((32 : Int32) - us) else Value.int (own_P5 f x0 x1 j) := fun j _ => own_ite
def own_good (d : Int32) : Prop := d = (-1 : Int32) ∨ (0 ≤ d.toInt ∧ d.toInt ≤ 8)
theorem own_draw_good (x0 x1 i : Int32) : own_good (own_draw x0 x1 i) := by
  unfold own_draw
  split
  · exact Or.inr (by decide)
  · split
    · exact Or.inl rfl
    · refine Or.inr ?_
      generalize ((x1.toUInt32 >>> (((3 : Int32) * i) &&& 31).toUInt32).toInt32) = z
      have e : (z &&& 7).toInt = z.toInt % 2 ^ 3 := Jvm.Kit.i32_mask z 7 (k := 3) (by decide) (by decide)
      have e1 : (1 : Int32).toInt = 1 := rfl
      rw [Jvm.Kit.i32_add (by rw [e, e1]; omega) (by rw [e, e1]; omega), e, e1]; omega
theorem own_pv_good (f x0 x1 i : Int32) : own_good (own_pv f x0 x1 i) := by
  unfold own_pv; split
  · exact Or.inr (by decide)
  · exact own_draw_good x0 x1 i
theorem own_wt_cz {d : Int32} (h : own_good d) : (own_wt d).toInt = (own_cz d : Int) ∧ own_cz d ≤ 8 := by
  unfold own_wt own_cz
  by_cases q : d = (-1 : Int32)
  · rw [if_pos q, if_pos q]; decide
  · rw [if_neg q, if_neg q]
    have := h.resolve_left q
    unfold own_pp; omega
theorem own_good_ok {d : Int32} (h : own_good d) : d = (-1 : Int32) ∨ 0 ≤ d.toInt := h.imp id (·.1)
theorem own_cz0 : own_cz (0 : Int32) = 0 := by decide
theorem own_is (d : Int32) : (if d = (-1 : Int32) then 1 else 0) ≤ 1 := by split <;> decide
theorem own_top {us : Int32} {u : Nat} (h : us.toInt = (u : Int)) (hu : u ≤ 32) : ((32 : Int32) - us).toInt = ((32 - u : Nat) : Int) ∧ own_cz ((32 : Int32) - us) = 32 - u ∧ (if ((32 : Int32) - us) = (-1 : Int32) then 1 else 0) = 0 ∧ 0 ≤ ((32 : Int32) - us).toInt := by
  have e : ((32 : Int32) - us).toInt = ((32 - u : Nat) : Int) := by
    have e1 : (32 : Int32).toInt = 32 := rfl
    rw [Jvm.Kit.i32_sub (by omega) (by omega), h, e1]; omega
  have n : ¬ (((32 : Int32) - us) = (-1 : Int32)) := fun q => by rw [q, show (-1 : Int32).toInt = -1 from rfl] at e; omega
  refine ⟨e, ?_, by rw [if_neg n], by omega⟩
  unfold own_cz own_pp; rw [if_neg n]; omega
theorem own_law4 {f x0 x1 us : Int32} {f1 : Nat} (hf : f.toInt = (f1 : Int)) (hn : f1 < 4) (hus : (((own_wt (own_pv f x0 x1 (0 : Int32)) + own_wt (own_pv f x0 x1 (1 : Int32))) + own_wt (own_pv f x0 x1 (2 : Int32))) + own_wt (own_pv f x0 x1 (3 : Int32))) + (0 : Int32) = us) : own_ok (own_Q4 f x0 x1 f1 us) 4 := by
  have g := fun i => own_pv_good f x0 x1 i
  obtain ⟨a0, b0⟩ := own_wt_cz (g 0); obtain ⟨a1, b1⟩ := own_wt_cz (g 1); obtain ⟨a2, b2⟩ := own_wt_cz (g 2); obtain ⟨a3, b3⟩ := own_wt_cz (g 3)
  have c0 := own_is (own_pv f x0 x1 0); have c1 := own_is (own_pv f x0 x1 1); have c2 := own_is (own_pv f x0 x1 2); have c3 := own_is (own_pv f x0 x1 3)
  have z0 : (0 : Int32).toInt = 0 := rfl
  have s1 := Jvm.Kit.i32_add (p := own_wt (own_pv f x0 x1 (0 : Int32))) (q := own_wt (own_pv f x0 x1 (1 : Int32))) (by omega) (by omega)
  have s2 := Jvm.Kit.i32_add (p := own_wt (own_pv f x0 x1 (0 : Int32)) + own_wt (own_pv f x0 x1 (1 : Int32))) (q := own_wt (own_pv f x0 x1 (2 : Int32))) (by omega) (by omega)
  have s3 := Jvm.Kit.i32_add (p := own_wt (own_pv f x0 x1 (0 : Int32)) + own_wt (own_pv f x0 x1 (1 : Int32)) + own_wt (own_pv f x0 x1 (2 : Int32))) (q := own_wt (own_pv f x0 x1 (3 : Int32))) (by omega) (by omega)
  have s4 := Jvm.Kit.i32_add (p := own_wt (own_pv f x0 x1 (0 : Int32)) + own_wt (own_pv f x0 x1 (1 : Int32)) + own_wt (own_pv f x0 x1 (2 : Int32)) + own_wt (own_pv f x0 x1 (3 : Int32))) (q := (0 : Int32)) (by omega) (by omega)
  rw [hus] at s4
  have hz : ∀ i : Nat, i < 4 → f1 = i → own_cz (own_pv f x0 x1 (Int32.ofNat i)) = 0 := fun i hi q => by
    have : f = Int32.ofNat i := own_ofNat (by rw [hf, q])
    rw [← own_pv_y this]; exact own_cz0
  obtain ⟨t1, t2, t3, t4⟩ := own_top (us := us) (u := own_cz (own_pv f x0 x1 0) + own_cz (own_pv f x0 x1 1) + own_cz (own_pv f x0 x1 2) + own_cz (own_pv f x0 x1 3)) (by omega) (by
    match f1, hn with
    | 0, _ => have := hz 0 (by decide) rfl; change own_cz (own_pv f x0 x1 0) = 0 at this; omega
    | 1, _ => have := hz 1 (by decide) rfl; change own_cz (own_pv f x0 x1 1) = 0 at this; omega
    | 2, _ => have := hz 2 (by decide) rfl; change own_cz (own_pv f x0 x1 2) = 0 at this; omega
    | 3, _ => have := hz 3 (by decide) rfl; change own_cz (own_pv f x0 x1 3) = 0 at this; omega)
  refine ⟨Or.inl rfl, fun t ht => ?_, ?_, ?_⟩
  · unfold own_Q4; split
    · exact Or.inr t4
    · match t, ht with
      | 0, _ => exact own_good_ok (g 0)
      | 1, _ => exact own_good_ok (g 1)
      | 2, _ => exact own_good_ok (g 2)
      | 3, _ => exact own_good_ok (g 3)
  · show ((((0 + own_cz (own_Q4 f x0 x1 f1 us 0)) + own_cz (own_Q4 f x0 x1 f1 us 1)) + own_cz (own_Q4 f x0 x1 f1 us 2)) + own_cz (own_Q4 f x0 x1 f1 us 3)) = 32
    match f1, hn with
    | 0, _ => have := hz 0 (by decide) rfl; change own_cz (own_pv f x0 x1 0) = 0 at this; change ((((0 + own_cz ((32 : Int32) - us)) + own_cz (own_pv f x0 x1 1)) + own_cz (own_pv f x0 x1 2)) + own_cz (own_pv f x0 x1 3)) = 32; omega
    | 1, _ => have := hz 1 (by decide) rfl; change own_cz (own_pv f x0 x1 1) = 0 at this; change ((((0 + own_cz (own_pv f x0 x1 0)) + own_cz ((32 : Int32) - us)) + own_cz (own_pv f x0 x1 2)) + own_cz (own_pv f x0 x1 3)) = 32; omega
    | 2, _ => have := hz 2 (by decide) rfl; change own_cz (own_pv f x0 x1 2) = 0 at this; change ((((0 + own_cz (own_pv f x0 x1 0)) + own_cz (own_pv f x0 x1 1)) + own_cz ((32 : Int32) - us)) + own_cz (own_pv f x0 x1 3)) = 32; omega
    | 3, _ => have := hz 3 (by decide) rfl; change own_cz (own_pv f x0 x1 3) = 0 at this; change ((((0 + own_cz (own_pv f x0 x1 0)) + own_cz (own_pv f x0 x1 1)) + own_cz (own_pv f x0 x1 2)) + own_cz ((32 : Int32) - us)) = 32; omega
  · have q := fun t => own_is (own_Q4 f x0 x1 f1 us t)
    have q0 := q 0; have q1 := q 1; have q2 := q 2; have q3 := q 3
    show ((((0 + (if own_Q4 f x0 x1 f1 us 0 = (-1 : Int32) then 1 else 0)) + (if own_Q4 f x0 x1 f1 us 1 = (-1 : Int32) then 1 else 0)) + (if own_Q4 f x0 x1 f1 us 2 = (-1 : Int32) then 1 else 0)) + (if own_Q4 f x0 x1 f1 us 3 = (-1 : Int32) then 1 else 0)) ≤ 4
    omega
theorem own_law5 {f x0 x1 us : Int32} {f1 : Nat} (hf : f.toInt = (f1 : Int)) (hn : f1 < 5) (hus : (((own_wt (own_pv f x0 x1 (0 : Int32)) + own_wt (own_pv f x0 x1 (1 : Int32))) + own_wt (own_pv f x0 x1 (2 : Int32))) + own_wt (own_pv f x0 x1 (3 : Int32))) + own_wt (own_pv f x0 x1 (4 : Int32)) = us) : own_ok (own_Q5 f x0 x1 f1 us) 5 := by
  have g := fun i => own_pv_good f x0 x1 i
  obtain ⟨a0, b0⟩ := own_wt_cz (g 0); obtain ⟨a1, b1⟩ := own_wt_cz (g 1); obtain ⟨a2, b2⟩ := own_wt_cz (g 2); obtain ⟨a3, b3⟩ := own_wt_cz (g 3); obtain ⟨a4, b4⟩ := own_wt_cz (g 4)
  have s1 := Jvm.Kit.i32_add (p := own_wt (own_pv f x0 x1 (0 : Int32))) (q := own_wt (own_pv f x0 x1 (1 : Int32))) (by omega) (by omega)
  have s2 := Jvm.Kit.i32_add (p := own_wt (own_pv f x0 x1 (0 : Int32)) + own_wt (own_pv f x0 x1 (1 : Int32))) (q := own_wt (own_pv f x0 x1 (2 : Int32))) (by omega) (by omega)
  have s3 := Jvm.Kit.i32_add (p := own_wt (own_pv f x0 x1 (0 : Int32)) + own_wt (own_pv f x0 x1 (1 : Int32)) + own_wt (own_pv f x0 x1 (2 : Int32))) (q := own_wt (own_pv f x0 x1 (3 : Int32))) (by omega) (by omega)
  have s4 := Jvm.Kit.i32_add (p := own_wt (own_pv f x0 x1 (0 : Int32)) + own_wt (own_pv f x0 x1 (1 : Int32)) + own_wt (own_pv f x0 x1 (2 : Int32)) + own_wt (own_pv f x0 x1 (3 : Int32))) (q := own_wt (own_pv f x0 x1 (4 : Int32))) (by omega) (by omega)
  rw [hus] at s4
  have hz : ∀ i : Nat, i < 5 → f1 = i → own_cz (own_pv f x0 x1 (Int32.ofNat i)) = 0 ∧ own_pv f x0 x1 (Int32.ofNat i) = 0 := fun i hi q => by
    have : f = Int32.ofNat i := own_ofNat (by rw [hf, q])
    exact ⟨by rw [← own_pv_y this]; exact own_cz0, (own_pv_y this).symm⟩
  have hle : own_cz (own_pv f x0 x1 0) + own_cz (own_pv f x0 x1 1) + own_cz (own_pv f x0 x1 2) + own_cz (own_pv f x0 x1 3) + own_cz (own_pv f x0 x1 4) ≤ 32 := by
    match f1, hn with
    | 0, _ => have := (hz 0 (by decide) rfl).1; change own_cz (own_pv f x0 x1 0) = 0 at this; omega
    | 1, _ => have := (hz 1 (by decide) rfl).1; change own_cz (own_pv f x0 x1 1) = 0 at this; omega
    | 2, _ => have := (hz 2 (by decide) rfl).1; change own_cz (own_pv f x0 x1 2) = 0 at this; omega
    | 3, _ => have := (hz 3 (by decide) rfl).1; change own_cz (own_pv f x0 x1 3) = 0 at this; omega
    | 4, _ => have := (hz 4 (by decide) rfl).1; change own_cz (own_pv f x0 x1 4) = 0 at this; omega
  obtain ⟨t1, t2, t3, t4⟩ := own_top (us := us) (u := own_cz (own_pv f x0 x1 0) + own_cz (own_pv f x0 x1 1) + own_cz (own_pv f x0 x1 2) + own_cz (own_pv f x0 x1 3) + own_cz (own_pv f x0 x1 4)) (by omega) hle
  refine ⟨Or.inr rfl, fun t ht => ?_, ?_, ?_⟩
  · unfold own_Q5; split
    · exact Or.inr t4
    · match t, ht with
      | 0, _ => exact own_good_ok (g 0)
      | 1, _ => exact own_good_ok (g 1)
      | 2, _ => exact own_good_ok (g 2)
      | 3, _ => exact own_good_ok (g 3)
      | 4, _ => exact own_good_ok (g 4)
  · show (((((0 + own_cz (own_Q5 f x0 x1 f1 us 0)) + own_cz (own_Q5 f x0 x1 f1 us 1)) + own_cz (own_Q5 f x0 x1 f1 us 2)) + own_cz (own_Q5 f x0 x1 f1 us 3)) + own_cz (own_Q5 f x0 x1 f1 us 4)) = 32
    match f1, hn with
    | 0, _ => have := (hz 0 (by decide) rfl).1; change own_cz (own_pv f x0 x1 0) = 0 at this; change (((((0 + own_cz ((32 : Int32) - us)) + own_cz (own_pv f x0 x1 1)) + own_cz (own_pv f x0 x1 2)) + own_cz (own_pv f x0 x1 3)) + own_cz (own_pv f x0 x1 4)) = 32; omega
    | 1, _ => have := (hz 1 (by decide) rfl).1; change own_cz (own_pv f x0 x1 1) = 0 at this; change (((((0 + own_cz (own_pv f x0 x1 0)) + own_cz ((32 : Int32) - us)) + own_cz (own_pv f x0 x1 2)) + own_cz (own_pv f x0 x1 3)) + own_cz (own_pv f x0 x1 4)) = 32; omega
    | 2, _ => have := (hz 2 (by decide) rfl).1; change own_cz (own_pv f x0 x1 2) = 0 at this; change (((((0 + own_cz (own_pv f x0 x1 0)) + own_cz (own_pv f x0 x1 1)) + own_cz ((32 : Int32) - us)) + own_cz (own_pv f x0 x1 3)) + own_cz (own_pv f x0 x1 4)) = 32; omega
    | 3, _ => have := (hz 3 (by decide) rfl).1; change own_cz (own_pv f x0 x1 3) = 0 at this; change (((((0 + own_cz (own_pv f x0 x1 0)) + own_cz (own_pv f x0 x1 1)) + own_cz (own_pv f x0 x1 2)) + own_cz ((32 : Int32) - us)) + own_cz (own_pv f x0 x1 4)) = 32; omega
    | 4, _ => have := (hz 4 (by decide) rfl).1; change own_cz (own_pv f x0 x1 4) = 0 at this; change (((((0 + own_cz (own_pv f x0 x1 0)) + own_cz (own_pv f x0 x1 1)) + own_cz (own_pv f x0 x1 2)) + own_cz (own_pv f x0 x1 3)) + own_cz ((32 : Int32) - us)) = 32; omega
  · have q := fun t => own_is (own_Q5 f x0 x1 f1 us t)
    have q0 := q 0; have q1 := q 1; have q2 := q 2; have q3 := q 3; have q4 := q 4
    have qf : (if own_Q5 f x0 x1 f1 us f1 = (-1 : Int32) then 1 else 0) = 0 := by
      rw [show own_Q5 f x0 x1 f1 us f1 = (32 : Int32) - us by unfold own_Q5; rw [if_pos rfl]]; exact t3
    show (((((0 + (if own_Q5 f x0 x1 f1 us 0 = (-1 : Int32) then 1 else 0)) + (if own_Q5 f x0 x1 f1 us 1 = (-1 : Int32) then 1 else 0)) + (if own_Q5 f x0 x1 f1 us 2 = (-1 : Int32) then 1 else 0)) + (if own_Q5 f x0 x1 f1 us 3 = (-1 : Int32) then 1 else 0)) + (if own_Q5 f x0 x1 f1 us 4 = (-1 : Int32) then 1 else 0)) ≤ 4
    match f1, hn with
    | 0, _ => omega
    | 1, _ => omega
    | 2, _ => omega
    | 3, _ => omega
    | 4, _ => omega
def own_s (x3 x4 : Int32) : Int32 := if (x3 &&& (2 : Int32)) = (0 : Int32) then (x4 &&& (7 : Int32)) else (x4 &&& (2147483647 : Int32))
theorem own_s_y {x3 x4 : Int32} (h : (x3 &&& (2 : Int32)) = (0 : Int32)) : (x4 &&& (7 : Int32)) = own_s x3 x4 := by unfold own_s; rw [if_pos h]
theorem own_s_n {x3 x4 : Int32} (h : ¬ ((x3 &&& (2 : Int32)) = (0 : Int32))) : (x4 &&& (2147483647 : Int32)) = own_s x3 x4 := by unfold own_s; rw [if_neg h]
theorem own_snn (x3 x4 : Int32) : ∃ s1 : Nat, (own_s x3 x4).toInt = (s1 : Int) := by
  unfold own_s; split
  · have e : (x4 &&& 7).toInt = x4.toInt % 2 ^ 3 := Jvm.Kit.i32_mask x4 7 (k := 3) (by decide) (by decide)
    exact ⟨(x4.toInt % 2 ^ 3).toNat, by rw [e]; omega⟩
  · have e : (x4 &&& 2147483647).toInt = x4.toInt % 2 ^ 31 := Jvm.Kit.i32_mask x4 2147483647 (k := 31) (by decide) (by decide)
    exact ⟨(x4.toInt % 2 ^ 31).toNat, by rw [e]; omega⟩
theorem d3_0 : decode prog_10_method_1_code 0 = .ok (.aload_n 0, 1) := by decide +kernel
theorem d3_1 : decode prog_10_method_1_code 1 = .ok (.invokespecial 1, 3) := by decide +kernel
theorem d3_4 : decode prog_10_method_1_code 4 = .ok (.aload_n 0, 1) := by decide +kernel
theorem d3_5 : decode prog_10_method_1_code 5 = .ok (.iload_n 2, 1) := by decide +kernel
theorem d3_6 : decode prog_10_method_1_code 6 = .ok (.putfield 7, 3) := by decide +kernel
theorem d3_9 : decode prog_10_method_1_code 9 = .ok (.aload_n 0, 1) := by decide +kernel
theorem d3_10 : decode prog_10_method_1_code 10 = .ok (.aload_n 1, 1) := by decide +kernel
theorem d3_11 : decode prog_10_method_1_code 11 = .ok (.invokevirtual 13, 3) := by decide +kernel
theorem d3_14 : decode prog_10_method_1_code 14 = .ok (.checkcast 14, 3) := by decide +kernel
theorem d3_17 : decode prog_10_method_1_code 17 = .ok (.putfield 19, 3) := by decide +kernel
theorem d3_20 : decode prog_10_method_1_code 20 = .ok (.iconst 1, 1) := by decide +kernel
theorem d3_21 : decode prog_10_method_1_code 21 = .ok (.iload_n 2, 1) := by decide +kernel
theorem d3_22 : decode prog_10_method_1_code 22 = .ok (.ishl, 1) := by decide +kernel
theorem d3_23 : decode prog_10_method_1_code 23 = .ok (.istore_n 3, 1) := by decide +kernel
theorem d3_24 : decode prog_10_method_1_code 24 = .ok (.aload_n 1, 1) := by decide +kernel
theorem d3_25 : decode prog_10_method_1_code 25 = .ok (.arraylength, 1) := by decide +kernel
theorem d3_26 : decode prog_10_method_1_code 26 = .ok (.istore 4, 2) := by decide +kernel
theorem d3_28 : decode prog_10_method_1_code 28 = .ok (.iload_n 3, 1) := by decide +kernel
theorem d3_29 : decode prog_10_method_1_code 29 = .ok (.newarray .int, 2) := by decide +kernel
theorem d3_31 : decode prog_10_method_1_code 31 = .ok (.astore 5, 2) := by decide +kernel
theorem d3_33 : decode prog_10_method_1_code 33 = .ok (.aload_n 0, 1) := by decide +kernel
theorem d3_34 : decode prog_10_method_1_code 34 = .ok (.iload 4, 2) := by decide +kernel
theorem d3_36 : decode prog_10_method_1_code 36 = .ok (.newarray .int, 2) := by decide +kernel
theorem d3_38 : decode prog_10_method_1_code 38 = .ok (.putfield 22, 3) := by decide +kernel
theorem d3_41 : decode prog_10_method_1_code 41 = .ok (.iload_n 3, 1) := by decide +kernel
theorem d3_42 : decode prog_10_method_1_code 42 = .ok (.iconst 1, 1) := by decide +kernel
theorem d3_43 : decode prog_10_method_1_code 43 = .ok (.isub, 1) := by decide +kernel
theorem d3_44 : decode prog_10_method_1_code 44 = .ok (.istore 6, 2) := by decide +kernel
theorem d3_46 : decode prog_10_method_1_code 46 = .ok (.iconst 0, 1) := by decide +kernel
theorem d3_47 : decode prog_10_method_1_code 47 = .ok (.istore 7, 2) := by decide +kernel
theorem d3_49 : decode prog_10_method_1_code 49 = .ok (.iload 7, 2) := by decide +kernel
theorem d3_51 : decode prog_10_method_1_code 51 = .ok (.iload 4, 2) := by decide +kernel
theorem d3_53 : decode prog_10_method_1_code 53 = .ok (.if_icmp .ge 49, 3) := by decide +kernel
theorem d3_102 : decode prog_10_method_1_code 102 = .ok (.iload_n 3, 1) := by decide +kernel
theorem d3_103 : decode prog_10_method_1_code 103 = .ok (.iconst 1, 1) := by decide +kernel
theorem d3_104 : decode prog_10_method_1_code 104 = .ok (.iushr, 1) := by decide +kernel
theorem d3_105 : decode prog_10_method_1_code 105 = .ok (.iload_n 3, 1) := by decide +kernel
theorem d3_106 : decode prog_10_method_1_code 106 = .ok (.iconst 3, 1) := by decide +kernel
theorem d3_107 : decode prog_10_method_1_code 107 = .ok (.iushr, 1) := by decide +kernel
theorem d3_108 : decode prog_10_method_1_code 108 = .ok (.iadd, 1) := by decide +kernel
theorem d3_109 : decode prog_10_method_1_code 109 = .ok (.iconst 3, 1) := by decide +kernel
theorem d3_110 : decode prog_10_method_1_code 110 = .ok (.iadd, 1) := by decide +kernel
theorem d3_111 : decode prog_10_method_1_code 111 = .ok (.istore 7, 2) := by decide +kernel
theorem d3_113 : decode prog_10_method_1_code 113 = .ok (.iconst 0, 1) := by decide +kernel
theorem d3_114 : decode prog_10_method_1_code 114 = .ok (.istore 8, 2) := by decide +kernel
theorem d3_116 : decode prog_10_method_1_code 116 = .ok (.iconst 0, 1) := by decide +kernel
theorem d3_117 : decode prog_10_method_1_code 117 = .ok (.istore 9, 2) := by decide +kernel
theorem d3_119 : decode prog_10_method_1_code 119 = .ok (.iload 9, 2) := by decide +kernel
theorem d3_121 : decode prog_10_method_1_code 121 = .ok (.iload 4, 2) := by decide +kernel
theorem d3_123 : decode prog_10_method_1_code 123 = .ok (.if_icmp .ge 52, 3) := by decide +kernel
theorem d3_175 : decode prog_10_method_1_code 175 = .ok (.iload 8, 2) := by decide +kernel
theorem d3_177 : decode prog_10_method_1_code 177 = .ok (.ifCond .eq 13, 3) := by decide +kernel
theorem d3_190 : decode prog_10_method_1_code 190 = .ok (.aload_n 0, 1) := by decide +kernel
theorem d3_191 : decode prog_10_method_1_code 191 = .ok (.iload 4, 2) := by decide +kernel
theorem d3_193 : decode prog_10_method_1_code 193 = .ok (.newarray .int, 2) := by decide +kernel
theorem d3_195 : decode prog_10_method_1_code 195 = .ok (.putfield 32, 3) := by decide +kernel
theorem d3_198 : decode prog_10_method_1_code 198 = .ok (.iconst 1, 1) := by decide +kernel
theorem d3_199 : decode prog_10_method_1_code 199 = .ok (.istore 9, 2) := by decide +kernel
theorem d3_201 : decode prog_10_method_1_code 201 = .ok (.iload 9, 2) := by decide +kernel
theorem d3_203 : decode prog_10_method_1_code 203 = .ok (.iload 4, 2) := by decide +kernel
theorem d3_205 : decode prog_10_method_1_code 205 = .ok (.if_icmp .ge 35, 3) := by decide +kernel
theorem d3_240 : decode prog_10_method_1_code 240 = .ok (.aload_n 0, 1) := by decide +kernel
theorem d3_241 : decode prog_10_method_1_code 241 = .ok (.iload_n 3, 1) := by decide +kernel
theorem d3_242 : decode prog_10_method_1_code 242 = .ok (.newarray .int, 2) := by decide +kernel
theorem d3_244 : decode prog_10_method_1_code 244 = .ok (.putfield 35, 3) := by decide +kernel
theorem d3_247 : decode prog_10_method_1_code 247 = .ok (.aload_n 0, 1) := by decide +kernel
theorem d3_248 : decode prog_10_method_1_code 248 = .ok (.iload_n 3, 1) := by decide +kernel
theorem d3_249 : decode prog_10_method_1_code 249 = .ok (.newarray .int, 2) := by decide +kernel
theorem d3_251 : decode prog_10_method_1_code 251 = .ok (.putfield 38, 3) := by decide +kernel
theorem d3_254 : decode prog_10_method_1_code 254 = .ok (.aload_n 0, 1) := by decide +kernel
theorem d3_255 : decode prog_10_method_1_code 255 = .ok (.getfield 22, 3) := by decide +kernel
theorem d3_258 : decode prog_10_method_1_code 258 = .ok (.invokevirtual 13, 3) := by decide +kernel
theorem d3_261 : decode prog_10_method_1_code 261 = .ok (.checkcast 14, 3) := by decide +kernel
theorem d3_264 : decode prog_10_method_1_code 264 = .ok (.astore 9, 2) := by decide +kernel
theorem d3_266 : decode prog_10_method_1_code 266 = .ok (.iconst 0, 1) := by decide +kernel
theorem d3_267 : decode prog_10_method_1_code 267 = .ok (.istore 10, 2) := by decide +kernel
theorem d3_269 : decode prog_10_method_1_code 269 = .ok (.iload 10, 2) := by decide +kernel
theorem d3_271 : decode prog_10_method_1_code 271 = .ok (.iload_n 3, 1) := by decide +kernel
theorem d3_272 : decode prog_10_method_1_code 272 = .ok (.if_icmp .ge 92, 3) := by decide +kernel
theorem d3_364 : decode prog_10_method_1_code 364 = .ok (.return_, 1) := by decide +kernel
theorem d3_275 : decode prog_10_method_1_code 275 = .ok (.aload 5, 2) := by decide +kernel
theorem d3_277 : decode prog_10_method_1_code 277 = .ok (.iload 10, 2) := by decide +kernel
theorem d3_279 : decode prog_10_method_1_code 279 = .ok (.iaload, 1) := by decide +kernel
theorem d3_280 : decode prog_10_method_1_code 280 = .ok (.istore 11, 2) := by decide +kernel
theorem d3_282 : decode prog_10_method_1_code 282 = .ok (.aload 9, 2) := by decide +kernel
theorem d3_284 : decode prog_10_method_1_code 284 = .ok (.iload 11, 2) := by decide +kernel
theorem d3_286 : decode prog_10_method_1_code 286 = .ok (.dup2, 1) := by decide +kernel
theorem d3_287 : decode prog_10_method_1_code 287 = .ok (.iaload, 1) := by decide +kernel
theorem d3_288 : decode prog_10_method_1_code 288 = .ok (.dup_x2, 1) := by decide +kernel
theorem d3_289 : decode prog_10_method_1_code 289 = .ok (.iconst 1, 1) := by decide +kernel
theorem d3_290 : decode prog_10_method_1_code 290 = .ok (.iadd, 1) := by decide +kernel
theorem d3_291 : decode prog_10_method_1_code 291 = .ok (.iastore, 1) := by decide +kernel
theorem d3_292 : decode prog_10_method_1_code 292 = .ok (.istore 12, 2) := by decide +kernel
theorem d3_294 : decode prog_10_method_1_code 294 = .ok (.iload_n 2, 1) := by decide +kernel
theorem d3_295 : decode prog_10_method_1_code 295 = .ok (.iload 12, 2) := by decide +kernel
theorem d3_297 : decode prog_10_method_1_code 297 = .ok (.invokestatic 41, 3) := by decide +kernel
theorem d3_300 : decode prog_10_method_1_code 300 = .ok (.isub, 1) := by decide +kernel
theorem d3_301 : decode prog_10_method_1_code 301 = .ok (.istore 13, 2) := by decide +kernel
theorem d3_303 : decode prog_10_method_1_code 303 = .ok (.iload 12, 2) := by decide +kernel
theorem d3_305 : decode prog_10_method_1_code 305 = .ok (.iload 13, 2) := by decide +kernel
theorem d3_307 : decode prog_10_method_1_code 307 = .ok (.ishl, 1) := by decide +kernel
theorem d3_308 : decode prog_10_method_1_code 308 = .ok (.iload_n 3, 1) := by decide +kernel
theorem d3_309 : decode prog_10_method_1_code 309 = .ok (.isub, 1) := by decide +kernel
theorem d3_310 : decode prog_10_method_1_code 310 = .ok (.istore 14, 2) := by decide +kernel
theorem d3_312 : decode prog_10_method_1_code 312 = .ok (.aload_n 0, 1) := by decide +kernel
theorem d3_313 : decode prog_10_method_1_code 313 = .ok (.getfield 38, 3) := by decide +kernel
theorem d3_316 : decode prog_10_method_1_code 316 = .ok (.iload 10, 2) := by decide +kernel
theorem d3_318 : decode prog_10_method_1_code 318 = .ok (.iload 11, 2) := by decide +kernel
theorem d3_320 : decode prog_10_method_1_code 320 = .ok (.iload 13, 2) := by decide +kernel
theorem d3_322 : decode prog_10_method_1_code 322 = .ok (.bipush 8, 2) := by decide +kernel
theorem d3_324 : decode prog_10_method_1_code 324 = .ok (.ishl, 1) := by decide +kernel
theorem d3_325 : decode prog_10_method_1_code 325 = .ok (.ior, 1) := by decide +kernel
theorem d3_326 : decode prog_10_method_1_code 326 = .ok (.iload 14, 2) := by decide +kernel
theorem d3_328 : decode prog_10_method_1_code 328 = .ok (.bipush 16, 2) := by decide +kernel
theorem d3_330 : decode prog_10_method_1_code 330 = .ok (.ishl, 1) := by decide +kernel
theorem d3_331 : decode prog_10_method_1_code 331 = .ok (.ior, 1) := by decide +kernel
theorem d3_332 : decode prog_10_method_1_code 332 = .ok (.iastore, 1) := by decide +kernel
theorem d3_333 : decode prog_10_method_1_code 333 = .ok (.aload_n 0, 1) := by decide +kernel
theorem d3_334 : decode prog_10_method_1_code 334 = .ok (.getfield 35, 3) := by decide +kernel
theorem d3_337 : decode prog_10_method_1_code 337 = .ok (.aload_n 0, 1) := by decide +kernel
theorem d3_338 : decode prog_10_method_1_code 338 = .ok (.getfield 32, 3) := by decide +kernel
theorem d3_341 : decode prog_10_method_1_code 341 = .ok (.iload 11, 2) := by decide +kernel
theorem d3_343 : decode prog_10_method_1_code 343 = .ok (.iaload, 1) := by decide +kernel
theorem d3_344 : decode prog_10_method_1_code 344 = .ok (.iload 12, 2) := by decide +kernel
theorem d3_346 : decode prog_10_method_1_code 346 = .ok (.iadd, 1) := by decide +kernel
theorem d3_347 : decode prog_10_method_1_code 347 = .ok (.aload_n 0, 1) := by decide +kernel
theorem d3_348 : decode prog_10_method_1_code 348 = .ok (.getfield 22, 3) := by decide +kernel
theorem d3_351 : decode prog_10_method_1_code 351 = .ok (.iload 11, 2) := by decide +kernel
theorem d3_353 : decode prog_10_method_1_code 353 = .ok (.iaload, 1) := by decide +kernel
theorem d3_354 : decode prog_10_method_1_code 354 = .ok (.isub, 1) := by decide +kernel
theorem d3_355 : decode prog_10_method_1_code 355 = .ok (.iload 10, 2) := by decide +kernel
theorem d3_357 : decode prog_10_method_1_code 357 = .ok (.iastore, 1) := by decide +kernel
theorem d3_358 : decode prog_10_method_1_code 358 = .ok (.iinc 10 1, 3) := by decide +kernel
theorem d3_361 : decode prog_10_method_1_code 361 = .ok (.goto (-92), 3) := by decide +kernel
theorem d3_208 : decode prog_10_method_1_code 208 = .ok (.aload_n 0, 1) := by decide +kernel
theorem d3_209 : decode prog_10_method_1_code 209 = .ok (.getfield 32, 3) := by decide +kernel
theorem d3_212 : decode prog_10_method_1_code 212 = .ok (.iload 9, 2) := by decide +kernel
theorem d3_214 : decode prog_10_method_1_code 214 = .ok (.aload_n 0, 1) := by decide +kernel
theorem d3_215 : decode prog_10_method_1_code 215 = .ok (.getfield 32, 3) := by decide +kernel
theorem d3_218 : decode prog_10_method_1_code 218 = .ok (.iload 9, 2) := by decide +kernel
theorem d3_220 : decode prog_10_method_1_code 220 = .ok (.iconst 1, 1) := by decide +kernel
theorem d3_221 : decode prog_10_method_1_code 221 = .ok (.isub, 1) := by decide +kernel
theorem d3_222 : decode prog_10_method_1_code 222 = .ok (.iaload, 1) := by decide +kernel
theorem d3_223 : decode prog_10_method_1_code 223 = .ok (.aload_n 0, 1) := by decide +kernel
theorem d3_224 : decode prog_10_method_1_code 224 = .ok (.getfield 22, 3) := by decide +kernel
theorem d3_227 : decode prog_10_method_1_code 227 = .ok (.iload 9, 2) := by decide +kernel
theorem d3_229 : decode prog_10_method_1_code 229 = .ok (.iconst 1, 1) := by decide +kernel
theorem d3_230 : decode prog_10_method_1_code 230 = .ok (.isub, 1) := by decide +kernel
theorem d3_231 : decode prog_10_method_1_code 231 = .ok (.iaload, 1) := by decide +kernel
theorem d3_232 : decode prog_10_method_1_code 232 = .ok (.iadd, 1) := by decide +kernel
theorem d3_233 : decode prog_10_method_1_code 233 = .ok (.iastore, 1) := by decide +kernel
theorem d3_234 : decode prog_10_method_1_code 234 = .ok (.iinc 9 1, 3) := by decide +kernel
theorem d3_237 : decode prog_10_method_1_code 237 = .ok (.goto (-36), 3) := by decide +kernel
theorem d3_126 : decode prog_10_method_1_code 126 = .ok (.iconst 0, 1) := by decide +kernel
theorem d3_127 : decode prog_10_method_1_code 127 = .ok (.istore 10, 2) := by decide +kernel
theorem d3_129 : decode prog_10_method_1_code 129 = .ok (.iload 10, 2) := by decide +kernel
theorem d3_131 : decode prog_10_method_1_code 131 = .ok (.aload_n 1, 1) := by decide +kernel
theorem d3_132 : decode prog_10_method_1_code 132 = .ok (.iload 9, 2) := by decide +kernel
theorem d3_134 : decode prog_10_method_1_code 134 = .ok (.iaload, 1) := by decide +kernel
theorem d3_135 : decode prog_10_method_1_code 135 = .ok (.if_icmp .ge 34, 3) := by decide +kernel
theorem d3_169 : decode prog_10_method_1_code 169 = .ok (.iinc 9 1, 3) := by decide +kernel
theorem d3_172 : decode prog_10_method_1_code 172 = .ok (.goto (-53), 3) := by decide +kernel
theorem d3_138 : decode prog_10_method_1_code 138 = .ok (.aload 5, 2) := by decide +kernel
theorem d3_140 : decode prog_10_method_1_code 140 = .ok (.iload 8, 2) := by decide +kernel
theorem d3_142 : decode prog_10_method_1_code 142 = .ok (.iload 9, 2) := by decide +kernel
theorem d3_144 : decode prog_10_method_1_code 144 = .ok (.iastore, 1) := by decide +kernel
theorem d3_145 : decode prog_10_method_1_code 145 = .ok (.iload 8, 2) := by decide +kernel
theorem d3_147 : decode prog_10_method_1_code 147 = .ok (.iload 7, 2) := by decide +kernel
theorem d3_149 : decode prog_10_method_1_code 149 = .ok (.iadd, 1) := by decide +kernel
theorem d3_150 : decode prog_10_method_1_code 150 = .ok (.iload_n 3, 1) := by decide +kernel
theorem d3_151 : decode prog_10_method_1_code 151 = .ok (.iconst 1, 1) := by decide +kernel
theorem d3_152 : decode prog_10_method_1_code 152 = .ok (.isub, 1) := by decide +kernel
theorem d3_153 : decode prog_10_method_1_code 153 = .ok (.iand, 1) := by decide +kernel
theorem d3_154 : decode prog_10_method_1_code 154 = .ok (.istore 8, 2) := by decide +kernel
theorem d3_156 : decode prog_10_method_1_code 156 = .ok (.iload 8, 2) := by decide +kernel
theorem d3_158 : decode prog_10_method_1_code 158 = .ok (.iload 6, 2) := by decide +kernel
theorem d3_160 : decode prog_10_method_1_code 160 = .ok (.if_icmp .gt (-15), 3) := by decide +kernel
theorem d3_163 : decode prog_10_method_1_code 163 = .ok (.iinc 10 1, 3) := by decide +kernel
theorem d3_166 : decode prog_10_method_1_code 166 = .ok (.goto (-37), 3) := by decide +kernel
theorem d3_56 : decode prog_10_method_1_code 56 = .ok (.aload_n 1, 1) := by decide +kernel
theorem d3_57 : decode prog_10_method_1_code 57 = .ok (.iload 7, 2) := by decide +kernel
theorem d3_59 : decode prog_10_method_1_code 59 = .ok (.iaload, 1) := by decide +kernel
theorem d3_60 : decode prog_10_method_1_code 60 = .ok (.iconst (-1), 1) := by decide +kernel
theorem d3_61 : decode prog_10_method_1_code 61 = .ok (.if_icmp .ne 24, 3) := by decide +kernel
theorem d3_64 : decode prog_10_method_1_code 64 = .ok (.aload 5, 2) := by decide +kernel
theorem d3_66 : decode prog_10_method_1_code 66 = .ok (.iload 6, 2) := by decide +kernel
theorem d3_68 : decode prog_10_method_1_code 68 = .ok (.iinc 6 (-1), 3) := by decide +kernel
theorem d3_71 : decode prog_10_method_1_code 71 = .ok (.iload 7, 2) := by decide +kernel
theorem d3_73 : decode prog_10_method_1_code 73 = .ok (.iastore, 1) := by decide +kernel
theorem d3_74 : decode prog_10_method_1_code 74 = .ok (.aload_n 0, 1) := by decide +kernel
theorem d3_75 : decode prog_10_method_1_code 75 = .ok (.getfield 22, 3) := by decide +kernel
theorem d3_78 : decode prog_10_method_1_code 78 = .ok (.iload 7, 2) := by decide +kernel
theorem d3_80 : decode prog_10_method_1_code 80 = .ok (.iconst 1, 1) := by decide +kernel
theorem d3_81 : decode prog_10_method_1_code 81 = .ok (.iastore, 1) := by decide +kernel
theorem d3_82 : decode prog_10_method_1_code 82 = .ok (.goto 14, 3) := by decide +kernel
theorem d3_96 : decode prog_10_method_1_code 96 = .ok (.iinc 7 1, 3) := by decide +kernel
theorem d3_99 : decode prog_10_method_1_code 99 = .ok (.goto (-50), 3) := by decide +kernel
theorem d3_85 : decode prog_10_method_1_code 85 = .ok (.aload_n 0, 1) := by decide +kernel
theorem d3_86 : decode prog_10_method_1_code 86 = .ok (.getfield 22, 3) := by decide +kernel
theorem d3_89 : decode prog_10_method_1_code 89 = .ok (.iload 7, 2) := by decide +kernel
theorem d3_91 : decode prog_10_method_1_code 91 = .ok (.aload_n 1, 1) := by decide +kernel
theorem d3_92 : decode prog_10_method_1_code 92 = .ok (.iload 7, 2) := by decide +kernel
theorem d3_94 : decode prog_10_method_1_code 94 = .ok (.iaload, 1) := by decide +kernel
theorem d3_95 : decode prog_10_method_1_code 95 = .ok (.iastore, 1) := by decide +kernel
theorem pn_3 : plainName "keyfold/Fse" = true := by first | (simp [plainName, overriddenIn]; done) | decide +kernel
theorem ef_rm3 (m : MethodId) (x0 : Addr) (x1 : Addr) (x2 : Int32) : entryFrame m #[(.ref x0), (.ref x1), (.int x2)] 15 = mkF m 0 #[.val (.ref x0), .val (.ref x1), .val (.int x2), .unset, .unset, .unset, .unset, .unset, .unset, .unset, .unset, .unset, .unset, .unset, .unset] [] := by first | (simp [entryFrame, mkF, argsToLocals, Value.category]; done) | rfl
def Q3 (Z : State) (a1 : Addr) (a2 : Addr) (x2 : Int32) (u0 : Value) (u1 : Value) (u2 : Value) (u3 : Value) (u4 : Value) (u5 : Value) (P : Nat → Int32) (nn : Nat) (h0 : Heap) (n0 : Nat) (v : Option Value) (h : Heap) (L : List Loc) : Prop := v = none ∧ Fr n0 L ∧ Keep h0 h [a1] ∧ ∃ b : Addr, h0.size ≤ b ∧ Fld Z h a1 "keyfold/Fse" "counts" "[I" (.ref b) ∧ Ary Z h b .int nn (fun x => .int (own_cn (P x)))
set_option maxRecDepth 65536 in
set_option maxHeartbeats 40000000 in
theorem rm3 (l : Launch) (Z : State) (a0 : Array Value) (hw : ∀ d ∈ tables_1, d.before a0 Z = true) (ws : List Jvm.Cond) (a1 : Addr) (a2 : Addr) (x2 : Int32) (u0 : Value) (u1 : Value) (u2 : Value) (u3 : Value) (u4 : Value) (u5 : Value) (P : Nat → Int32) (nn : Nat) (h0 : Heap) (n0 : Nat) (Z0 : n0 ≤ h0.size) (E_a1 : Exa Z h0 a1 "keyfold/Fse") (F_log : Fld Z h0 a1 "keyfold/Fse" "log" "I" u0) (F_probabilities : Fld Z h0 a1 "keyfold/Fse" "probabilities" "[I" u1) (F_counts : Fld Z h0 a1 "keyfold/Fse" "counts" "[I" u2) (F_first : Fld Z h0 a1 "keyfold/Fse" "first" "[I" u3) (F_byState : Fld Z h0 a1 "keyfold/Fse" "byState" "[I" u4) (F_states : Fld Z h0 a1 "keyfold/Fse" "states" "[I" u5) (A_a2 : Ary Z h0 a2 .int nn (fun x => .int (P x))) (E_a2 : Exa Z h0 a2 "[I") (ne_a1_a2 : a1 ≠ a2) (g_a1 : n0 ≤ a1) (hx2 : x2 = (5 : Int32)) (hok : own_ok P nn) :
    MetFree l (⟨"keyfold/Fse", "<init>", "([II)V"⟩ : MethodName) (head1 (Jvm.Cond.code (⟨"keyfold/Fse", "<init>", "([II)V"⟩ : MethodName) prog_10_method_1_code 15 none :: ws) ({ frames := 2, cells := 7, slots := 116, locals := 27 } : Room)) (fun a U => a = #[(.ref a1), (.ref a2), (.int x2)] ∧ Z.Warmed39 U.vm ∧ U.heap = h0) (fun _ _ _ _ _ => True) (fun _ U o U' => ∃ v L, o = .returned v ∧ Q3 Z a1 a2 x2 u0 u1 u2 u3 u4 u5 P nn h0 n0 v U'.heap L ∧ FrameEnd U o U' L ({ frames := 2, cells := 7, slots := 116, locals := 27 } : Room).cells ({ frames := 2, cells := 7, slots := 116, locals := 27 } : Room).slots) := by
  refine MetFree.of_bodySF (plainFor_of_name pn_3) hisR ?_
  intro p e s m args below meth c s₁ Bd hml0 hP hK
  obtain ⟨rfl, hZ, hh⟩ := hP
  have hx := Bd.exec
  have hby := Bd.bytes
  have hml : c.maxLocals = 15 := hml0
  have hown : s.vm.findClass "keyfold/Fse" = some m.cls := findClass_of_methodNamed Bd.named
  have hnm := (name_of_methodNamed Bd.named Bd.method).1
  have X0 : Stand p l e ({ frames := 2, cells := 7, slots := 116, locals := 27 } : Room) s m #[(.ref a1), (.ref a2), (.int x2)] below meth c s₁ [] 0 0 := Stand.of_body Bd
  have e0 : s₁.heap = h0 := by rw [← hh, Bd.state]; rfl
  have N0 := Fr.nil n0
  have K0 := Keep.refl h0 [a1]
  suffices hD : Dn p e below s (Q3 Z a1 a2 x2 u0 u1 u2 u3 u4 u5 P nn h0 n0) ({ frames := 2, cells := 7, slots := 116, locals := 27 } : Room).cells ({ frames := 2, cells := 7, slots := 116, locals := 27 } : Room).slots s₁ (mkF m 0 #[.val (.ref a1), .val (.ref a2), .val (.int x2), .unset, .unset, .unset, .unset, .unset, .unset, .unset, .unset, .unset, .unset, .unset, .unset] []) from by
    obtain ⟨s₂, o, q1, q2⟩ := hD
    exact ⟨s₂, o, castTop (ef_rm3 m a1 a2 x2) q1, q2⟩
  have hnn5 := own_n5 hok
  refine Dn.st (fun t q => XS.aloadN X0.here hx rfl (hb hby d3_0) rfl rfl  q) ?_
  show Dn p e below s _ _ _ s₁ (mkF m 1 #[.val (.ref a1), .val (.ref a2), .val (.int x2), .unset, .unset, .unset, .unset, .unset, .unset, .unset, .unset, .unset, .unset, .unset, .unset] [(.ref a1)])
  obtain ⟨T1, X1, e1, st1⟩ := initO X0 hx hZ hown (hw _ (List.mem_of_getElem? (i := 15) rfl)) (hw _ (List.mem_of_getElem? (i := 16) rfl)) (hw _ (List.mem_of_getElem? (i := 17) rfl)) e0 (g := (mkF m 1 #[.val (.ref a1), .val (.ref a2), .val (.int x2), .unset, .unset, .unset, .unset, .unset, .unset, .unset, .unset, .unset, .unset, .unset, .unset] [(.ref a1)])) rfl (by rw [hml]; rfl) rfl (hb hby d3_1) (by decide) (W := 0) (by show 2 * 0 + _ ≤ _; exact Nat.le_of_eq rfl) (by decide)
  refine Dn.st st1 ?_
  show Dn p e below s _ _ _ T1 (mkF m 4 #[.val (.ref a1), .val (.ref a2), .val (.int x2), .unset, .unset, .unset, .unset, .unset, .unset, .unset, .unset, .unset, .unset, .unset, .unset] [])
  refine Dn.st (fun t q => XS.aloadN X1.here hx rfl (hb hby d3_4) rfl rfl  q) ?_
  show Dn p e below s _ _ _ T1 (mkF m 5 #[.val (.ref a1), .val (.ref a2), .val (.int x2), .unset, .unset, .unset, .unset, .unset, .unset, .unset, .unset, .unset, .unset, .unset, .unset] [(.ref a1)])
  refine Dn.st (fun t q => XS.iloadN X1.here hx rfl (hb hby d3_5) rfl  q) ?_
  show Dn p e below s _ _ _ T1 (mkF m 6 #[.val (.ref a1), .val (.ref a2), .val (.int x2), .unset, .unset, .unset, .unset, .unset, .unset, .unset, .unset, .unset, .unset, .unset, .unset] [(.int x2), (.ref a1)])
  obtain ⟨T2, h2, X2, e2, W2, st2⟩ := putF X1 hx hZ hown (host := "") (Or.inl (hw _ (List.mem_of_getElem? (i := 18) rfl))) Via.refl e1 F_log E_a1 (Or.inr ⟨(hw _ (List.mem_of_getElem? (i := 19) rfl)), rfl, hnm⟩) (hw _ (List.mem_of_getElem? (i := 10) rfl)) (ty := .int) (by decide) rfl rfl (g := (mkF m 6 #[.val (.ref a1), .val (.ref a2), .val (.int x2), .unset, .unset, .unset, .unset, .unset, .unset, .unset, .unset, .unset, .unset, .unset, .unset] [(.int x2), (.ref a1)])) rfl rfl (hb hby d3_6)
  have N0 := Fr.snoc X2 N0 g_a1
  have Z0 := Nat.le_trans Z0 (Keep.of_wr W2).1
  have K0 := K0.wr W2 (Or.inl (List.mem_of_getElem? (i := 0) rfl))
  have E_a1 := E_a1.wr W2
  have F_log := F_log.same W2
  have F_probabilities := F_probabilities.other W2 (Or.inr (slot_ne (Or.inr (hw _ (List.mem_of_getElem? (i := 30) rfl))) (Or.inr (hw _ (List.mem_of_getElem? (i := 19) rfl))) (by decide) (t := (.array .int)) (t' := .int) (by decide) (by decide)))
  have F_counts := F_counts.other W2 (Or.inr (slot_ne (Or.inr (hw _ (List.mem_of_getElem? (i := 32) rfl))) (Or.inr (hw _ (List.mem_of_getElem? (i := 19) rfl))) (by decide) (t := (.array .int)) (t' := .int) (by decide) (by decide)))
  have F_first := F_first.other W2 (Or.inr (slot_ne (Or.inr (hw _ (List.mem_of_getElem? (i := 34) rfl))) (Or.inr (hw _ (List.mem_of_getElem? (i := 19) rfl))) (by decide) (t := (.array .int)) (t' := .int) (by decide) (by decide)))
  have F_byState := F_byState.other W2 (Or.inr (slot_ne (Or.inr (hw _ (List.mem_of_getElem? (i := 36) rfl))) (Or.inr (hw _ (List.mem_of_getElem? (i := 19) rfl))) (by decide) (t := (.array .int)) (t' := .int) (by decide) (by decide)))
  have F_states := F_states.other W2 (Or.inr (slot_ne (Or.inr (hw _ (List.mem_of_getElem? (i := 38) rfl))) (Or.inr (hw _ (List.mem_of_getElem? (i := 19) rfl))) (by decide) (t := (.array .int)) (t' := .int) (by decide) (by decide)))
  have A_a2 := A_a2.other W2 (Ne.symm ne_a1_a2)
  have E_a2 := E_a2.wr W2
  refine Dn.st st2 ?_
  show Dn p e below s _ _ _ T2 (mkF m 9 #[.val (.ref a1), .val (.ref a2), .val (.int x2), .unset, .unset, .unset, .unset, .unset, .unset, .unset, .unset, .unset, .unset, .unset, .unset] [])
  refine Dn.st (fun t q => XS.aloadN X2.here hx rfl (hb hby d3_9) rfl rfl  q) ?_
  show Dn p e below s _ _ _ T2 (mkF m 10 #[.val (.ref a1), .val (.ref a2), .val (.int x2), .unset, .unset, .unset, .unset, .unset, .unset, .unset, .unset, .unset, .unset, .unset, .unset] [(.ref a1)])
  refine Dn.st (fun t q => XS.aloadN X2.here hx rfl (hb hby d3_10) rfl rfl  q) ?_
  show Dn p e below s _ _ _ T2 (mkF m 11 #[.val (.ref a1), .val (.ref a2), .val (.int x2), .unset, .unset, .unset, .unset, .unset, .unset, .unset, .unset, .unset, .unset, .unset, .unset] [(.ref a2), (.ref a1)])
  obtain ⟨T3, h3, X3, e3, E3, A3, B3, st3⟩ := aCloneI (w := P) X2 hx hZ hown (hw _ (List.mem_of_getElem? (i := 20) rfl)) (hw _ (List.mem_of_getElem? (i := 21) rfl)) (hw _ (List.mem_of_getElem? (i := 25) rfl)) (hw _ (List.mem_of_getElem? (i := 23) rfl)) (hw _ (List.mem_of_getElem? (i := 24) rfl)) (hw _ (List.mem_of_getElem? (i := 26) rfl)) e2 A_a2 E_a2 (g := (mkF m 11 #[.val (.ref a1), .val (.ref a2), .val (.int x2), .unset, .unset, .unset, .unset, .unset, .unset, .unset, .unset, .unset, .unset, .unset, .unset] [(.ref a2), (.ref a1)])) rfl (by rw [hml]; rfl) rfl (hb hby d3_11) (by decide) (W := 1) (cap := 5) (by show 2 * 0 + _ ≤ _; exact Nat.le_of_eq rfl) (by decide) (own_n5 hok) (by decide) (by decide)
  obtain ⟨c1, g3⟩ : ∃ z, z = h2.size := ⟨_, rfl⟩
  rw [← g3] at A3 B3 st3
  have ne_a1_c1 : a1 ≠ c1 := own_ne E_a1.lt g3
  have ne_a2_c1 : a2 ≠ c1 := own_ne A_a2.lt g3
  have g_c1 : n0 ≤ c1 := Nat.le_trans Z0 (Nat.le_of_eq g3.symm)
  have sz_c1 : h0.size ≤ c1 := Nat.le_trans K0.1 (Nat.le_of_eq g3.symm)
  have Z0 := Nat.le_trans Z0 E3.1
  have K0 := K0.ext E3
  have E_a1 := E_a1.ext E3
  have F_probabilities := F_probabilities.ext E3
  have F_counts := F_counts.ext E3
  have F_first := F_first.ext E3
  have F_byState := F_byState.ext E3
  have F_states := F_states.ext E3
  have A_a2 := A_a2.ext E3
  have E_a2 := E_a2.ext E3
  have A_c1 := A3
  have E_c1 := B3
  refine Dn.st st3 ?_
  show Dn p e below s _ _ _ T3 (mkF m 14 #[.val (.ref a1), .val (.ref a2), .val (.int x2), .unset, .unset, .unset, .unset, .unset, .unset, .unset, .unset, .unset, .unset, .unset, .unset] [(.ref c1), (.ref a1)])
  obtain ⟨T4, X4, e4, st4⟩ := castY X3 hx hZ hown (hw _ (List.mem_of_getElem? (i := 27) rfl)) e3 (Ins.self E_c1) (g := (mkF m 14 #[.val (.ref a1), .val (.ref a2), .val (.int x2), .unset, .unset, .unset, .unset, .unset, .unset, .unset, .unset, .unset, .unset, .unset, .unset] [(.ref c1), (.ref a1)])) rfl rfl (hb hby d3_14)
  refine Dn.st st4 ?_
  show Dn p e below s _ _ _ T4 (mkF m 17 #[.val (.ref a1), .val (.ref a2), .val (.int x2), .unset, .unset, .unset, .unset, .unset, .unset, .unset, .unset, .unset, .unset, .unset, .unset] [(.ref c1), (.ref a1)])
  obtain ⟨T5, h5, X5, e5, W5, st5⟩ := putF X4 hx hZ hown (host := "") (Or.inl (hw _ (List.mem_of_getElem? (i := 29) rfl))) Via.refl e4 F_probabilities E_a1 (Or.inr ⟨(hw _ (List.mem_of_getElem? (i := 30) rfl)), rfl, hnm⟩) (hw _ (List.mem_of_getElem? (i := 10) rfl)) (ty := (.array .int)) (by decide) rfl rfl (g := (mkF m 17 #[.val (.ref a1), .val (.ref a2), .val (.int x2), .unset, .unset, .unset, .unset, .unset, .unset, .unset, .unset, .unset, .unset, .unset, .unset] [(.ref c1), (.ref a1)])) rfl rfl (hb hby d3_17)
  have N0 := Fr.snoc X5 N0 g_a1
  have Z0 := Nat.le_trans Z0 (Keep.of_wr W5).1
  have K0 := K0.wr W5 (Or.inl (List.mem_of_getElem? (i := 0) rfl))
  have E_a1 := E_a1.wr W5
  have F_probabilities := F_probabilities.same W5
  have F_counts := F_counts.other W5 (Or.inr (slot_ne (Or.inr (hw _ (List.mem_of_getElem? (i := 32) rfl))) (Or.inr (hw _ (List.mem_of_getElem? (i := 30) rfl))) (by decide) (t := (.array .int)) (t' := (.array .int)) (by decide) (by decide)))
  have F_first := F_first.other W5 (Or.inr (slot_ne (Or.inr (hw _ (List.mem_of_getElem? (i := 34) rfl))) (Or.inr (hw _ (List.mem_of_getElem? (i := 30) rfl))) (by decide) (t := (.array .int)) (t' := (.array .int)) (by decide) (by decide)))
  have F_byState := F_byState.other W5 (Or.inr (slot_ne (Or.inr (hw _ (List.mem_of_getElem? (i := 36) rfl))) (Or.inr (hw _ (List.mem_of_getElem? (i := 30) rfl))) (by decide) (t := (.array .int)) (t' := (.array .int)) (by decide) (by decide)))
  have F_states := F_states.other W5 (Or.inr (slot_ne (Or.inr (hw _ (List.mem_of_getElem? (i := 38) rfl))) (Or.inr (hw _ (List.mem_of_getElem? (i := 30) rfl))) (by decide) (t := (.array .int)) (t' := (.array .int)) (by decide) (by decide)))
  have A_a2 := A_a2.other W5 (Ne.symm ne_a1_a2)
  have E_a2 := E_a2.wr W5
  have A_c1 := A_c1.other W5 (Ne.symm ne_a1_c1)
  have E_c1 := E_c1.wr W5
  refine Dn.st st5 ?_
  show Dn p e below s _ _ _ T5 (mkF m 20 #[.val (.ref a1), .val (.ref a2), .val (.int x2), .unset, .unset, .unset, .unset, .unset, .unset, .unset, .unset, .unset, .unset, .unset, .unset] [])
  refine Dn.st (fun t q => XS.iconst X5.here hx rfl (hb hby d3_20) q) ?_
  show Dn p e below s _ _ _ T5 (mkF m 21 #[.val (.ref a1), .val (.ref a2), .val (.int x2), .unset, .unset, .unset, .unset, .unset, .unset, .unset, .unset, .unset, .unset, .unset, .unset] [(.int (1 : Int32))])
  refine Dn.st (fun t q => XS.iloadN X5.here hx rfl (hb hby d3_21) rfl  q) ?_
  show Dn p e below s _ _ _ T5 (mkF m 22 #[.val (.ref a1), .val (.ref a2), .val (.int x2), .unset, .unset, .unset, .unset, .unset, .unset, .unset, .unset, .unset, .unset, .unset, .unset] [(.int x2), (.int (1 : Int32))])
  refine Dn.st (fun t q => XS.ishl X5.here hx rfl (hb hby d3_22) rfl q) ?_
  show Dn p e below s _ _ _ T5 (mkF m 23 #[.val (.ref a1), .val (.ref a2), .val (.int x2), .unset, .unset, .unset, .unset, .unset, .unset, .unset, .unset, .unset, .unset, .unset, .unset] [(.int ((1 : Int32) <<< (x2 &&& 31)))])
  rw [show ((1 : Int32) <<< (x2 &&& 31)) = (32 : Int32) from (by rw [hx2]; rfl)]
  show Dn p e below s _ _ _ T5 (mkF m 23 #[.val (.ref a1), .val (.ref a2), .val (.int x2), .unset, .unset, .unset, .unset, .unset, .unset, .unset, .unset, .unset, .unset, .unset, .unset] [(.int (32 : Int32))])
  refine Dn.st (fun t q => XS.istoreN X5.here hx rfl (hb hby d3_23) rfl (l' := #[.val (.ref a1), .val (.ref a2), .val (.int x2), .val (.int (32 : Int32)), .unset, .unset, .unset, .unset, .unset, .unset, .unset, .unset, .unset, .unset, .unset]) rfl q) ?_
  show Dn p e below s _ _ _ T5 (mkF m 24 #[.val (.ref a1), .val (.ref a2), .val (.int x2), .val (.int (32 : Int32)), .unset, .unset, .unset, .unset, .unset, .unset, .unset, .unset, .unset, .unset, .unset] [])
  refine Dn.st (fun t q => XS.aloadN X5.here hx rfl (hb hby d3_24) rfl rfl  q) ?_
  show Dn p e below s _ _ _ T5 (mkF m 25 #[.val (.ref a1), .val (.ref a2), .val (.int x2), .val (.int (32 : Int32)), .unset, .unset, .unset, .unset, .unset, .unset, .unset, .unset, .unset, .unset, .unset] [(.ref a2)])
  refine Dn.st (aLen X5 hx hZ e5 A_a2 (g := (mkF m 25 #[.val (.ref a1), .val (.ref a2), .val (.int x2), .val (.int (32 : Int32)), .unset, .unset, .unset, .unset, .unset, .unset, .unset, .unset, .unset, .unset, .unset] [(.ref a2)])) rfl rfl (hb hby d3_25)) ?_
  show Dn p e below s _ _ _ T5 (mkF m 26 #[.val (.ref a1), .val (.ref a2), .val (.int x2), .val (.int (32 : Int32)), .unset, .unset, .unset, .unset, .unset, .unset, .unset, .unset, .unset, .unset, .unset] [(.int (Nat.toInt32 nn))])
  refine Dn.st (fun t q => XS.istore X5.here hx rfl (hb hby d3_26) rfl (l' := #[.val (.ref a1), .val (.ref a2), .val (.int x2), .val (.int (32 : Int32)), .val (.int (Nat.toInt32 nn)), .unset, .unset, .unset, .unset, .unset, .unset, .unset, .unset, .unset, .unset]) rfl q) ?_
  show Dn p e below s _ _ _ T5 (mkF m 28 #[.val (.ref a1), .val (.ref a2), .val (.int x2), .val (.int (32 : Int32)), .val (.int (Nat.toInt32 nn)), .unset, .unset, .unset, .unset, .unset, .unset, .unset, .unset, .unset, .unset] [])
  refine Dn.st (fun t q => XS.iloadN X5.here hx rfl (hb hby d3_28) rfl  q) ?_
  show Dn p e below s _ _ _ T5 (mkF m 29 #[.val (.ref a1), .val (.ref a2), .val (.int x2), .val (.int (32 : Int32)), .val (.int (Nat.toInt32 nn)), .unset, .unset, .unset, .unset, .unset, .unset, .unset, .unset, .unset, .unset] [(.int (32 : Int32))])
  obtain ⟨T6, h6, k6, X6, e6, E6, A6, st6⟩ := newP X5 hx hZ (hw _ (List.mem_of_getElem? (i := 1) rfl)) e5 (g := (mkF m 29 #[.val (.ref a1), .val (.ref a2), .val (.int x2), .val (.int (32 : Int32)), .val (.int (Nat.toInt32 nn)), .unset, .unset, .unset, .unset, .unset, .unset, .unset, .unset, .unset, .unset] [(.int (32 : Int32))])) rfl (hb hby d3_29) rfl (by decide) (cap := 32) (by decide) (by decide) (by decide) (by decide)
  obtain ⟨b5, g6⟩ : ∃ z, z = h5.size := ⟨_, rfl⟩
  rw [← g6] at A6 st6
  have ne_a1_b5 : a1 ≠ b5 := own_ne E_a1.lt g6
  have ne_a2_b5 : a2 ≠ b5 := own_ne A_a2.lt g6
  have g_b5 : n0 ≤ b5 := Nat.le_trans Z0 (Nat.le_of_eq g6.symm)
  have sz_b5 : h0.size ≤ b5 := Nat.le_trans K0.1 (Nat.le_of_eq g6.symm)
  have Z0 := Nat.le_trans Z0 E6.1
  have K0 := K0.ext E6
  have E_a1 := E_a1.ext E6
  have F_counts := F_counts.ext E6
  have F_first := F_first.ext E6
  have F_byState := F_byState.ext E6
  have F_states := F_states.ext E6
  have A_a2 := A_a2.ext E6
  have A_b5 : Ary Z h6 b5 .int 32 (fun _ => (.int (0 : Int32))) := Ary.new A6 (by decide)
  refine Dn.st st6 ?_
  show Dn p e below s _ _ _ T6 (mkF m 31 #[.val (.ref a1), .val (.ref a2), .val (.int x2), .val (.int (32 : Int32)), .val (.int (Nat.toInt32 nn)), .unset, .unset, .unset, .unset, .unset, .unset, .unset, .unset, .unset, .unset] [(.ref b5)])
  refine Dn.st (fun t q => XS.astore X6.here hx rfl (hb hby d3_31) rfl rfl (l' := #[.val (.ref a1), .val (.ref a2), .val (.int x2), .val (.int (32 : Int32)), .val (.int (Nat.toInt32 nn)), .val (.ref b5), .unset, .unset, .unset, .unset, .unset, .unset, .unset, .unset, .unset]) rfl q) ?_
  show Dn p e below s _ _ _ T6 (mkF m 33 #[.val (.ref a1), .val (.ref a2), .val (.int x2), .val (.int (32 : Int32)), .val (.int (Nat.toInt32 nn)), .val (.ref b5), .unset, .unset, .unset, .unset, .unset, .unset, .unset, .unset, .unset] [])
  refine Dn.st (fun t q => XS.aloadN X6.here hx rfl (hb hby d3_33) rfl rfl  q) ?_
  show Dn p e below s _ _ _ T6 (mkF m 34 #[.val (.ref a1), .val (.ref a2), .val (.int x2), .val (.int (32 : Int32)), .val (.int (Nat.toInt32 nn)), .val (.ref b5), .unset, .unset, .unset, .unset, .unset, .unset, .unset, .unset, .unset] [(.ref a1)])
  refine Dn.st (fun t q => XS.iload X6.here hx rfl (hb hby d3_34) rfl  q) ?_
  show Dn p e below s _ _ _ T6 (mkF m 36 #[.val (.ref a1), .val (.ref a2), .val (.int x2), .val (.int (32 : Int32)), .val (.int (Nat.toInt32 nn)), .val (.ref b5), .unset, .unset, .unset, .unset, .unset, .unset, .unset, .unset, .unset] [(.int (Nat.toInt32 nn)), (.ref a1)])
  obtain ⟨T7, h7, k7, X7, e7, E7, A7, B7, st7⟩ := newPE X6 hx hZ (hw _ (List.mem_of_getElem? (i := 1) rfl)) e6 (g := (mkF m 36 #[.val (.ref a1), .val (.ref a2), .val (.int x2), .val (.int (32 : Int32)), .val (.int (Nat.toInt32 nn)), .val (.ref b5), .unset, .unset, .unset, .unset, .unset, .unset, .unset, .unset, .unset] [(.int (Nat.toInt32 nn)), (.ref a1)])) rfl (hb hby d3_36) rfl (own_nneg (own_tl hok)) (cap := 5) (by rw [own_clamp (own_tl hok)]; exact (own_n5 hok)) (by decide) (by decide) (by decide) (ad := "[I") (by decide)
  obtain ⟨bc, g7⟩ : ∃ z, z = h6.size := ⟨_, rfl⟩
  rw [← g7] at A7 st7
  rw [← g7] at B7
  have ne_a1_bc : a1 ≠ bc := own_ne E_a1.lt g7
  have ne_a2_bc : a2 ≠ bc := own_ne A_a2.lt g7
  have ne_b5_bc : b5 ≠ bc := own_ne A_b5.lt g7
  have g_bc : n0 ≤ bc := Nat.le_trans Z0 (Nat.le_of_eq g7.symm)
  have sz_bc : h0.size ≤ bc := Nat.le_trans K0.1 (Nat.le_of_eq g7.symm)
  have Z0 := Nat.le_trans Z0 E7.1
  have K0 := K0.ext E7
  have E_a1 := E_a1.ext E7
  have F_counts := F_counts.ext E7
  have F_first := F_first.ext E7
  have F_byState := F_byState.ext E7
  have F_states := F_states.ext E7
  have A_a2 := A_a2.ext E7
  have A_b5 := A_b5.ext E7
  have E_bc := B7
  have A_bc : Ary Z h7 bc .int nn (fun _ => (.int (0 : Int32))) := Ary.new A7 (own_tl hok)
  refine Dn.st st7 ?_
  show Dn p e below s _ _ _ T7 (mkF m 38 #[.val (.ref a1), .val (.ref a2), .val (.int x2), .val (.int (32 : Int32)), .val (.int (Nat.toInt32 nn)), .val (.ref b5), .unset, .unset, .unset, .unset, .unset, .unset, .unset, .unset, .unset] [(.ref bc), (.ref a1)])
  obtain ⟨T8, h8, X8, e8, W8, st8⟩ := putF X7 hx hZ hown (host := "") (Or.inl (hw _ (List.mem_of_getElem? (i := 31) rfl))) Via.refl e7 F_counts E_a1 (Or.inr ⟨(hw _ (List.mem_of_getElem? (i := 32) rfl)), rfl, hnm⟩) (hw _ (List.mem_of_getElem? (i := 10) rfl)) (ty := (.array .int)) (by decide) rfl rfl (g := (mkF m 38 #[.val (.ref a1), .val (.ref a2), .val (.int x2), .val (.int (32 : Int32)), .val (.int (Nat.toInt32 nn)), .val (.ref b5), .unset, .unset, .unset, .unset, .unset, .unset, .unset, .unset, .unset] [(.ref bc), (.ref a1)])) rfl rfl (hb hby d3_38)
  have N0 := Fr.snoc X8 N0 g_a1
  have Z0 := Nat.le_trans Z0 (Keep.of_wr W8).1
  have K0 := K0.wr W8 (Or.inl (List.mem_of_getElem? (i := 0) rfl))
  have E_a1 := E_a1.wr W8
  have F_counts := F_counts.same W8
  have F_first := F_first.other W8 (Or.inr (slot_ne (Or.inr (hw _ (List.mem_of_getElem? (i := 34) rfl))) (Or.inr (hw _ (List.mem_of_getElem? (i := 32) rfl))) (by decide) (t := (.array .int)) (t' := (.array .int)) (by decide) (by decide)))
  have F_byState := F_byState.other W8 (Or.inr (slot_ne (Or.inr (hw _ (List.mem_of_getElem? (i := 36) rfl))) (Or.inr (hw _ (List.mem_of_getElem? (i := 32) rfl))) (by decide) (t := (.array .int)) (t' := (.array .int)) (by decide) (by decide)))
  have F_states := F_states.other W8 (Or.inr (slot_ne (Or.inr (hw _ (List.mem_of_getElem? (i := 38) rfl))) (Or.inr (hw _ (List.mem_of_getElem? (i := 32) rfl))) (by decide) (t := (.array .int)) (t' := (.array .int)) (by decide) (by decide)))
  have A_a2 := A_a2.other W8 (Ne.symm ne_a1_a2)
  have A_b5 := A_b5.other W8 (Ne.symm ne_a1_b5)
  have E_bc := E_bc.wr W8
  have A_bc := A_bc.other W8 (Ne.symm ne_a1_bc)
  refine Dn.st st8 ?_
  show Dn p e below s _ _ _ T8 (mkF m 41 #[.val (.ref a1), .val (.ref a2), .val (.int x2), .val (.int (32 : Int32)), .val (.int (Nat.toInt32 nn)), .val (.ref b5), .unset, .unset, .unset, .unset, .unset, .unset, .unset, .unset, .unset] [])
  refine Dn.st (fun t q => XS.iloadN X8.here hx rfl (hb hby d3_41) rfl  q) ?_
  show Dn p e below s _ _ _ T8 (mkF m 42 #[.val (.ref a1), .val (.ref a2), .val (.int x2), .val (.int (32 : Int32)), .val (.int (Nat.toInt32 nn)), .val (.ref b5), .unset, .unset, .unset, .unset, .unset, .unset, .unset, .unset, .unset] [(.int (32 : Int32))])
  refine Dn.st (fun t q => XS.iconst X8.here hx rfl (hb hby d3_42) q) ?_
  show Dn p e below s _ _ _ T8 (mkF m 43 #[.val (.ref a1), .val (.ref a2), .val (.int x2), .val (.int (32 : Int32)), .val (.int (Nat.toInt32 nn)), .val (.ref b5), .unset, .unset, .unset, .unset, .unset, .unset, .unset, .unset, .unset] [(.int (1 : Int32)), (.int (32 : Int32))])
  refine Dn.st (fun t q => XS.isub X8.here hx rfl (hb hby d3_43) rfl q) ?_
  show Dn p e below s _ _ _ T8 (mkF m 44 #[.val (.ref a1), .val (.ref a2), .val (.int x2), .val (.int (32 : Int32)), .val (.int (Nat.toInt32 nn)), .val (.ref b5), .unset, .unset, .unset, .unset, .unset, .unset, .unset, .unset, .unset] [(.int ((32 : Int32) - (1 : Int32)))])
  rw [show ((32 : Int32) - (1 : Int32)) = (31 : Int32) from (by decide)]
  show Dn p e below s _ _ _ T8 (mkF m 44 #[.val (.ref a1), .val (.ref a2), .val (.int x2), .val (.int (32 : Int32)), .val (.int (Nat.toInt32 nn)), .val (.ref b5), .unset, .unset, .unset, .unset, .unset, .unset, .unset, .unset, .unset] [(.int (31 : Int32))])
  refine Dn.st (fun t q => XS.istore X8.here hx rfl (hb hby d3_44) rfl (l' := #[.val (.ref a1), .val (.ref a2), .val (.int x2), .val (.int (32 : Int32)), .val (.int (Nat.toInt32 nn)), .val (.ref b5), .val (.int (31 : Int32)), .unset, .unset, .unset, .unset, .unset, .unset, .unset, .unset]) rfl q) ?_
  show Dn p e below s _ _ _ T8 (mkF m 46 #[.val (.ref a1), .val (.ref a2), .val (.int x2), .val (.int (32 : Int32)), .val (.int (Nat.toInt32 nn)), .val (.ref b5), .val (.int (31 : Int32)), .unset, .unset, .unset, .unset, .unset, .unset, .unset, .unset] [])
  refine Dn.st (fun t q => XS.iconst X8.here hx rfl (hb hby d3_46) q) ?_
  show Dn p e below s _ _ _ T8 (mkF m 47 #[.val (.ref a1), .val (.ref a2), .val (.int x2), .val (.int (32 : Int32)), .val (.int (Nat.toInt32 nn)), .val (.ref b5), .val (.int (31 : Int32)), .unset, .unset, .unset, .unset, .unset, .unset, .unset, .unset] [(.int (0 : Int32))])
  refine Dn.st (fun t q => XS.istore X8.here hx rfl (hb hby d3_47) rfl (l' := #[.val (.ref a1), .val (.ref a2), .val (.int x2), .val (.int (32 : Int32)), .val (.int (Nat.toInt32 nn)), .val (.ref b5), .val (.int (31 : Int32)), .val (.int (0 : Int32)), .unset, .unset, .unset, .unset, .unset, .unset, .unset]) rfl q) ?_
  show Dn p e below s _ _ _ T8 (mkF m 49 #[.val (.ref a1), .val (.ref a2), .val (.int x2), .val (.int (32 : Int32)), .val (.int (Nat.toInt32 nn)), .val (.ref b5), .val (.int (31 : Int32)), .val (.int (0 : Int32)), .unset, .unset, .unset, .unset, .unset, .unset, .unset] [])
  have lp1 : ∀ (r1 : Nat) (sN : Nat) (i7 : Int32) (Hh : Nat) (i6 : Int32) (Y : Nat → Nat) (TL : State) (lcL : List Loc) (XL : Stand p l e ({ frames := 2, cells := 7, slots := 116, locals := 27 } : Room) s m #[(.ref a1), (.ref a2), (.int x2)] below meth c TL lcL 3 42) (hL : Heap) (eL : TL.heap = hL) (N0 : Fr n0 lcL) (Z0 : n0 ≤ hL.size) (K0 : Keep h0 hL [a1]) (E_a1 : Exa Z hL a1 "keyfold/Fse") (F_counts : Fld Z hL a1 "keyfold/Fse" "counts" "[I" (.ref bc)) (F_first : Fld Z hL a1 "keyfold/Fse" "first" "[I" u3) (F_byState : Fld Z hL a1 "keyfold/Fse" "byState" "[I" u4) (F_states : Fld Z hL a1 "keyfold/Fse" "states" "[I" u5) (A_a2 : Ary Z hL a2 .int nn (fun x => .int (P x))) (A_b5 : Ary Z hL b5 .int 32 (fun x => .int (Int32.ofNat (Y x)))) (E_bc : Exa Z hL bc "[I") (A_bc : Ary Z hL bc .int nn (fun x => .int (if x < sN then own_cn (P x) else (0 : Int32)))) (hs : sN + r1 = nn) (h7 : i7.toInt = (sN : Int)) (h6 : i6.toInt = (Hh : Int)) (hJ : own_J1 P nn sN Hh Y), Dn p e below s (Q3 Z a1 a2 x2 u0 u1 u2 u3 u4 u5 P nn h0 n0) (({ frames := 2, cells := 7, slots := 116, locals := 27 } : Room).cells) (({ frames := 2, cells := 7, slots := 116, locals := 27 } : Room).slots) TL (mkF m 49 #[.val (.ref a1), .val (.ref a2), .val (.int x2), .val (.int (32 : Int32)), .val (.int (Nat.toInt32 nn)), .val (.ref b5), .val (.int i6), .val (.int i7), .unset, .unset, .unset, .unset, .unset, .unset, .unset] []) := by
    intro r1
    induction r1 with
    | zero =>
      intro sN i7 Hh i6 Y TL lcL XL hL eL N0 Z0 K0 E_a1 F_counts F_first F_byState F_states A_a2 A_b5 E_bc A_bc hs h7 h6 hJ
      refine Dn.st (fun t q => XS.iload XL.here hx rfl (hb hby d3_49) rfl  q) ?_
      show Dn p e below s _ _ _ TL (mkF m 51 #[.val (.ref a1), .val (.ref a2), .val (.int x2), .val (.int (32 : Int32)), .val (.int (Nat.toInt32 nn)), .val (.ref b5), .val (.int i6), .val (.int i7), .unset, .unset, .unset, .unset, .unset, .unset, .unset] [(.int i7)])
      refine Dn.st (fun t q => XS.iload XL.here hx rfl (hb hby d3_51) rfl  q) ?_
      show Dn p e below s _ _ _ TL (mkF m 53 #[.val (.ref a1), .val (.ref a2), .val (.int x2), .val (.int (32 : Int32)), .val (.int (Nat.toInt32 nn)), .val (.ref b5), .val (.int i6), .val (.int i7), .unset, .unset, .unset, .unset, .unset, .unset, .unset] [(.int (Nat.toInt32 nn)), (.int i7)])
      refine Dn.st (fun t q => XS.icmpYes XL.here hx rfl (pc0 := 53) (pc' := 102) rfl (hb hby d3_53) rfl (flt (own_out hok h7 hs)).2.1 (by decide) (by decide) q) ?_
      show Dn p e below s _ _ _ TL (mkF m 102 #[.val (.ref a1), .val (.ref a2), .val (.int x2), .val (.int (32 : Int32)), .val (.int (Nat.toInt32 nn)), .val (.ref b5), .val (.int i6), .val (.int i7), .unset, .unset, .unset, .unset, .unset, .unset, .unset] [])
      have hJ1 : own_J1 P nn nn Hh Y := own_cast1 hs hJ
      have hH := own_H hok hJ1
      have A_bc : Ary Z hL bc .int nn (fun x => .int (own_cn (P x))) := A_bc.congr (own_cend hs)
      refine Dn.st (fun t q => XS.iloadN XL.here hx rfl (hb hby d3_102) rfl  q) ?_
      show Dn p e below s _ _ _ TL (mkF m 103 #[.val (.ref a1), .val (.ref a2), .val (.int x2), .val (.int (32 : Int32)), .val (.int (Nat.toInt32 nn)), .val (.ref b5), .val (.int i6), .val (.int i7), .unset, .unset, .unset, .unset, .unset, .unset, .unset] [(.int (32 : Int32))])
      refine Dn.st (fun t q => XS.iconst XL.here hx rfl (hb hby d3_103) q) ?_
      show Dn p e below s _ _ _ TL (mkF m 104 #[.val (.ref a1), .val (.ref a2), .val (.int x2), .val (.int (32 : Int32)), .val (.int (Nat.toInt32 nn)), .val (.ref b5), .val (.int i6), .val (.int i7), .unset, .unset, .unset, .unset, .unset, .unset, .unset] [(.int (1 : Int32)), (.int (32 : Int32))])
      refine Dn.st (fun t q => XS.iushr XL.here hx rfl (hb hby d3_104) rfl q) ?_
      show Dn p e below s _ _ _ TL (mkF m 105 #[.val (.ref a1), .val (.ref a2), .val (.int x2), .val (.int (32 : Int32)), .val (.int (Nat.toInt32 nn)), .val (.ref b5), .val (.int i6), .val (.int i7), .unset, .unset, .unset, .unset, .unset, .unset, .unset] [(.int (((32 : Int32).toUInt32 >>> ((1 : Int32) &&& 31).toUInt32).toInt32))])
      refine Dn.st (fun t q => XS.iloadN XL.here hx rfl (hb hby d3_105) rfl  q) ?_
      show Dn p e below s _ _ _ TL (mkF m 106 #[.val (.ref a1), .val (.ref a2), .val (.int x2), .val (.int (32 : Int32)), .val (.int (Nat.toInt32 nn)), .val (.ref b5), .val (.int i6), .val (.int i7), .unset, .unset, .unset, .unset, .unset, .unset, .unset] [(.int (32 : Int32)), (.int (((32 : Int32).toUInt32 >>> ((1 : Int32) &&& 31).toUInt32).toInt32))])
      refine Dn.st (fun t q => XS.iconst XL.here hx rfl (hb hby d3_106) q) ?_
      show Dn p e below s _ _ _ TL (mkF m 107 #[.val (.ref a1), .val (.ref a2), .val (.int x2), .val (.int (32 : Int32)), .val (.int (Nat.toInt32 nn)), .val (.ref b5), .val (.int i6), .val (.int i7), .unset, .unset, .unset, .unset, .unset, .unset, .unset] [(.int (3 : Int32)), (.int (32 : Int32)), (.int (((32 : Int32).toUInt32 >>> ((1 : Int32) &&& 31).toUInt32).toInt32))])
      refine Dn.st (fun t q => XS.iushr XL.here hx rfl (hb hby d3_107) rfl q) ?_
      show Dn p e below s _ _ _ TL (mkF m 108 #[.val (.ref a1), .val (.ref a2), .val (.int x2), .val (.int (32 : Int32)), .val (.int (Nat.toInt32 nn)), .val (.ref b5), .val (.int i6), .val (.int i7), .unset, .unset, .unset, .unset, .unset, .unset, .unset] [(.int (((32 : Int32).toUInt32 >>> ((3 : Int32) &&& 31).toUInt32).toInt32)), (.int (((32 : Int32).toUInt32 >>> ((1 : Int32) &&& 31).toUInt32).toInt32))])
      refine Dn.st (fun t q => XS.iadd XL.here hx rfl (hb hby d3_108) rfl q) ?_
      show Dn p e below s _ _ _ TL (mkF m 109 #[.val (.ref a1), .val (.ref a2), .val (.int x2), .val (.int (32 : Int32)), .val (.int (Nat.toInt32 nn)), .val (.ref b5), .val (.int i6), .val (.int i7), .unset, .unset, .unset, .unset, .unset, .unset, .unset] [(.int ((((32 : Int32).toUInt32 >>> ((1 : Int32) &&& 31).toUInt32).toInt32) + (((32 : Int32).toUInt32 >>> ((3 : Int32) &&& 31).toUInt32).toInt32)))])
      refine Dn.st (fun t q => XS.iconst XL.here hx rfl (hb hby d3_109) q) ?_
      show Dn p e below s _ _ _ TL (mkF m 110 #[.val (.ref a1), .val (.ref a2), .val (.int x2), .val (.int (32 : Int32)), .val (.int (Nat.toInt32 nn)), .val (.ref b5), .val (.int i6), .val (.int i7), .unset, .unset, .unset, .unset, .unset, .unset, .unset] [(.int (3 : Int32)), (.int ((((32 : Int32).toUInt32 >>> ((1 : Int32) &&& 31).toUInt32).toInt32) + (((32 : Int32).toUInt32 >>> ((3 : Int32) &&& 31).toUInt32).toInt32)))])
      refine Dn.st (fun t q => XS.iadd XL.here hx rfl (hb hby d3_110) rfl q) ?_
      show Dn p e below s _ _ _ TL (mkF m 111 #[.val (.ref a1), .val (.ref a2), .val (.int x2), .val (.int (32 : Int32)), .val (.int (Nat.toInt32 nn)), .val (.ref b5), .val (.int i6), .val (.int i7), .unset, .unset, .unset, .unset, .unset, .unset, .unset] [(.int (((((32 : Int32).toUInt32 >>> ((1 : Int32) &&& 31).toUInt32).toInt32) + (((32 : Int32).toUInt32 >>> ((3 : Int32) &&& 31).toUInt32).toInt32)) + (3 : Int32)))])
      rw [show (((((32 : Int32).toUInt32 >>> ((1 : Int32) &&& 31).toUInt32).toInt32) + (((32 : Int32).toUInt32 >>> ((3 : Int32) &&& 31).toUInt32).toInt32)) + (3 : Int32)) = (23 : Int32) from (by decide)]
      show Dn p e below s _ _ _ TL (mkF m 111 #[.val (.ref a1), .val (.ref a2), .val (.int x2), .val (.int (32 : Int32)), .val (.int (Nat.toInt32 nn)), .val (.ref b5), .val (.int i6), .val (.int i7), .unset, .unset, .unset, .unset, .unset, .unset, .unset] [(.int (23 : Int32))])
      refine Dn.st (fun t q => XS.istore XL.here hx rfl (hb hby d3_111) rfl (l' := #[.val (.ref a1), .val (.ref a2), .val (.int x2), .val (.int (32 : Int32)), .val (.int (Nat.toInt32 nn)), .val (.ref b5), .val (.int i6), .val (.int (23 : Int32)), .unset, .unset, .unset, .unset, .unset, .unset, .unset]) rfl q) ?_
      show Dn p e below s _ _ _ TL (mkF m 113 #[.val (.ref a1), .val (.ref a2), .val (.int x2), .val (.int (32 : Int32)), .val (.int (Nat.toInt32 nn)), .val (.ref b5), .val (.int i6), .val (.int (23 : Int32)), .unset, .unset, .unset, .unset, .unset, .unset, .unset] [])
      refine Dn.st (fun t q => XS.iconst XL.here hx rfl (hb hby d3_113) q) ?_
      show Dn p e below s _ _ _ TL (mkF m 114 #[.val (.ref a1), .val (.ref a2), .val (.int x2), .val (.int (32 : Int32)), .val (.int (Nat.toInt32 nn)), .val (.ref b5), .val (.int i6), .val (.int (23 : Int32)), .unset, .unset, .unset, .unset, .unset, .unset, .unset] [(.int (0 : Int32))])
      refine Dn.st (fun t q => XS.istore XL.here hx rfl (hb hby d3_114) rfl (l' := #[.val (.ref a1), .val (.ref a2), .val (.int x2), .val (.int (32 : Int32)), .val (.int (Nat.toInt32 nn)), .val (.ref b5), .val (.int i6), .val (.int (23 : Int32)), .val (.int (0 : Int32)), .unset, .unset, .unset, .unset, .unset, .unset]) rfl q) ?_
      show Dn p e below s _ _ _ TL (mkF m 116 #[.val (.ref a1), .val (.ref a2), .val (.int x2), .val (.int (32 : Int32)), .val (.int (Nat.toInt32 nn)), .val (.ref b5), .val (.int i6), .val (.int (23 : Int32)), .val (.int (0 : Int32)), .unset, .unset, .unset, .unset, .unset, .unset] [])
      refine Dn.st (fun t q => XS.iconst XL.here hx rfl (hb hby d3_116) q) ?_
      show Dn p e below s _ _ _ TL (mkF m 117 #[.val (.ref a1), .val (.ref a2), .val (.int x2), .val (.int (32 : Int32)), .val (.int (Nat.toInt32 nn)), .val (.ref b5), .val (.int i6), .val (.int (23 : Int32)), .val (.int (0 : Int32)), .unset, .unset, .unset, .unset, .unset, .unset] [(.int (0 : Int32))])
      refine Dn.st (fun t q => XS.istore XL.here hx rfl (hb hby d3_117) rfl (l' := #[.val (.ref a1), .val (.ref a2), .val (.int x2), .val (.int (32 : Int32)), .val (.int (Nat.toInt32 nn)), .val (.ref b5), .val (.int i6), .val (.int (23 : Int32)), .val (.int (0 : Int32)), .val (.int (0 : Int32)), .unset, .unset, .unset, .unset, .unset]) rfl q) ?_
      show Dn p e below s _ _ _ TL (mkF m 119 #[.val (.ref a1), .val (.ref a2), .val (.int x2), .val (.int (32 : Int32)), .val (.int (Nat.toInt32 nn)), .val (.ref b5), .val (.int i6), .val (.int (23 : Int32)), .val (.int (0 : Int32)), .val (.int (0 : Int32)), .unset, .unset, .unset, .unset, .unset] [])
      have lp2 : ∀ (r2 : Nat) (s2 : Nat) (i9 : Int32) (k : Nat) (Y2 : Nat → Nat) (s10 : Slot) (TL : State) (lcL : List Loc) (XL : Stand p l e ({ frames := 2, cells := 7, slots := 116, locals := 27 } : Room) s m #[(.ref a1), (.ref a2), (.int x2)] below meth c TL lcL 3 42) (hL : Heap) (eL : TL.heap = hL) (N0 : Fr n0 lcL) (Z0 : n0 ≤ hL.size) (K0 : Keep h0 hL [a1]) (E_a1 : Exa Z hL a1 "keyfold/Fse") (F_counts : Fld Z hL a1 "keyfold/Fse" "counts" "[I" (.ref bc)) (F_first : Fld Z hL a1 "keyfold/Fse" "first" "[I" u3) (F_byState : Fld Z hL a1 "keyfold/Fse" "byState" "[I" u4) (F_states : Fld Z hL a1 "keyfold/Fse" "states" "[I" u5) (A_a2 : Ary Z hL a2 .int nn (fun x => .int (P x))) (A_b5 : Ary Z hL b5 .int 32 (fun x => .int (Int32.ofNat (Y2 x)))) (E_bc : Exa Z hL bc "[I") (A_bc : Ary Z hL bc .int nn (fun x => .int (own_cn (P x)))) (hs10 : One s10) (h9 : i9.toInt = (s2 : Int)) (hs2 : s2 + r2 = nn) (hJ2 : own_J2 P nn Hh s2 0 k Y2), Dn p e below s (Q3 Z a1 a2 x2 u0 u1 u2 u3 u4 u5 P nn h0 n0) (({ frames := 2, cells := 7, slots := 116, locals := 27 } : Room).cells) (({ frames := 2, cells := 7, slots := 116, locals := 27 } : Room).slots) TL (mkF m 119 #[.val (.ref a1), .val (.ref a2), .val (.int x2), .val (.int (32 : Int32)), .val (.int (Nat.toInt32 nn)), .val (.ref b5), .val (.int i6), .val (.int (23 : Int32)), .val (.int (Int32.ofNat (own_sg Hh k))), .val (.int i9), s10, .unset, .unset, .unset, .unset] []) := by
        intro r2
        induction r2 with
        | zero =>
          intro s2 i9 k Y2 s10 TL lcL XL hL eL N0 Z0 K0 E_a1 F_counts F_first F_byState F_states A_a2 A_b5 E_bc A_bc hs10 h9 hs2 hJ2
          refine Dn.st (fun t q => XS.iload XL.here hx rfl (hb hby d3_119) rfl  q) ?_
          show Dn p e below s _ _ _ TL (mkF m 121 #[.val (.ref a1), .val (.ref a2), .val (.int x2), .val (.int (32 : Int32)), .val (.int (Nat.toInt32 nn)), .val (.ref b5), .val (.int i6), .val (.int (23 : Int32)), .val (.int (Int32.ofNat (own_sg Hh k))), .val (.int i9), s10, .unset, .unset, .unset, .unset] [(.int i9)])
          refine Dn.st (fun t q => XS.iload XL.here hx rfl (hb hby d3_121) rfl  q) ?_
          show Dn p e below s _ _ _ TL (mkF m 123 #[.val (.ref a1), .val (.ref a2), .val (.int x2), .val (.int (32 : Int32)), .val (.int (Nat.toInt32 nn)), .val (.ref b5), .val (.int i6), .val (.int (23 : Int32)), .val (.int (Int32.ofNat (own_sg Hh k))), .val (.int i9), s10, .unset, .unset, .unset, .unset] [(.int (Nat.toInt32 nn)), (.int i9)])
          refine Dn.st (fun t q => XS.icmpYes XL.here hx rfl (pc0 := 123) (pc' := 175) rfl (hb hby d3_123) rfl (flt (own_out hok h9 hs2)).2.1 (by decide) (by decide) q) ?_
          show Dn p e below s _ _ _ TL (mkF m 175 #[.val (.ref a1), .val (.ref a2), .val (.int x2), .val (.int (32 : Int32)), .val (.int (Nat.toInt32 nn)), .val (.ref b5), .val (.int i6), .val (.int (23 : Int32)), .val (.int (Int32.ofNat (own_sg Hh k))), .val (.int i9), s10, .unset, .unset, .unset, .unset] [])
          have hJe := own_J2_end (own_cast2 hs2 hJ2) hH
          refine Dn.st (fun t q => XS.iload XL.here hx rfl (hb hby d3_175) rfl  q) ?_
          show Dn p e below s _ _ _ TL (mkF m 177 #[.val (.ref a1), .val (.ref a2), .val (.int x2), .val (.int (32 : Int32)), .val (.int (Nat.toInt32 nn)), .val (.ref b5), .val (.int i6), .val (.int (23 : Int32)), .val (.int (Int32.ofNat (own_sg Hh k))), .val (.int i9), s10, .unset, .unset, .unset, .unset] [(.int (Int32.ofNat (own_sg Hh k)))])
          refine Dn.st (fun t q => XS.ifYes XL.here hx rfl (pc0 := 177) (pc' := 190) rfl (hb hby d3_177) rfl ((if0 _ _).trans (teq (by rw [hJe.2]; rfl)).1) (by decide) (by decide) q) ?_
          show Dn p e below s _ _ _ TL (mkF m 190 #[.val (.ref a1), .val (.ref a2), .val (.int x2), .val (.int (32 : Int32)), .val (.int (Nat.toInt32 nn)), .val (.ref b5), .val (.int i6), .val (.int (23 : Int32)), .val (.int (Int32.ofNat (own_sg Hh k))), .val (.int i9), s10, .unset, .unset, .unset, .unset] [])
          have hY := hJe.1
          refine Dn.st (fun t q => XS.aloadN XL.here hx rfl (hb hby d3_190) rfl rfl  q) ?_
          show Dn p e below s _ _ _ TL (mkF m 191 #[.val (.ref a1), .val (.ref a2), .val (.int x2), .val (.int (32 : Int32)), .val (.int (Nat.toInt32 nn)), .val (.ref b5), .val (.int i6), .val (.int (23 : Int32)), .val (.int (Int32.ofNat (own_sg Hh k))), .val (.int i9), s10, .unset, .unset, .unset, .unset] [(.ref a1)])
          refine Dn.st (fun t q => XS.iload XL.here hx rfl (hb hby d3_191) rfl  q) ?_
          show Dn p e below s _ _ _ TL (mkF m 193 #[.val (.ref a1), .val (.ref a2), .val (.int x2), .val (.int (32 : Int32)), .val (.int (Nat.toInt32 nn)), .val (.ref b5), .val (.int i6), .val (.int (23 : Int32)), .val (.int (Int32.ofNat (own_sg Hh k))), .val (.int i9), s10, .unset, .unset, .unset, .unset] [(.int (Nat.toInt32 nn)), (.ref a1)])
          obtain ⟨T9, h9, k9, X9, e9, E9, A9, st9⟩ := newP XL hx hZ (hw _ (List.mem_of_getElem? (i := 1) rfl)) eL (g := (mkF m 193 #[.val (.ref a1), .val (.ref a2), .val (.int x2), .val (.int (32 : Int32)), .val (.int (Nat.toInt32 nn)), .val (.ref b5), .val (.int i6), .val (.int (23 : Int32)), .val (.int (Int32.ofNat (own_sg Hh k))), .val (.int i9), s10, .unset, .unset, .unset, .unset] [(.int (Nat.toInt32 nn)), (.ref a1)])) rfl (hb hby d3_193) rfl (own_nneg (own_tl hok)) (cap := 5) (by rw [own_clamp (own_tl hok)]; exact (own_n5 hok)) (by decide) (by decide) (by decide)
          obtain ⟨bf, g9⟩ : ∃ z, z = hL.size := ⟨_, rfl⟩
          rw [← g9] at A9 st9
          have ne_a1_bf : a1 ≠ bf := own_ne E_a1.lt g9
          have ne_a2_bf : a2 ≠ bf := own_ne A_a2.lt g9
          have ne_b5_bf : b5 ≠ bf := own_ne A_b5.lt g9
          have ne_bc_bf : bc ≠ bf := own_ne E_bc.lt g9
          have g_bf : n0 ≤ bf := Nat.le_trans Z0 (Nat.le_of_eq g9.symm)
          have sz_bf : h0.size ≤ bf := Nat.le_trans K0.1 (Nat.le_of_eq g9.symm)
          have Z0 := Nat.le_trans Z0 E9.1
          have K0 := K0.ext E9
          have E_a1 := E_a1.ext E9
          have F_counts := F_counts.ext E9
          have F_first := F_first.ext E9
          have F_byState := F_byState.ext E9
          have F_states := F_states.ext E9
          have A_a2 := A_a2.ext E9
          have A_b5 := A_b5.ext E9
          have E_bc := E_bc.ext E9
          have A_bc := A_bc.ext E9
          have A_bf : Ary Z h9 bf .int nn (fun _ => (.int (0 : Int32))) := Ary.new A9 (own_tl hok)
          refine Dn.st st9 ?_
          show Dn p e below s _ _ _ T9 (mkF m 195 #[.val (.ref a1), .val (.ref a2), .val (.int x2), .val (.int (32 : Int32)), .val (.int (Nat.toInt32 nn)), .val (.ref b5), .val (.int i6), .val (.int (23 : Int32)), .val (.int (Int32.ofNat (own_sg Hh k))), .val (.int i9), s10, .unset, .unset, .unset, .unset] [(.ref bf), (.ref a1)])
          obtain ⟨T10, h10, X10, e10, W10, st10⟩ := putF X9 hx hZ hown (host := "") (Or.inl (hw _ (List.mem_of_getElem? (i := 33) rfl))) Via.refl e9 F_first E_a1 (Or.inr ⟨(hw _ (List.mem_of_getElem? (i := 34) rfl)), rfl, hnm⟩) (hw _ (List.mem_of_getElem? (i := 10) rfl)) (ty := (.array .int)) (by decide) rfl rfl (g := (mkF m 195 #[.val (.ref a1), .val (.ref a2), .val (.int x2), .val (.int (32 : Int32)), .val (.int (Nat.toInt32 nn)), .val (.ref b5), .val (.int i6), .val (.int (23 : Int32)), .val (.int (Int32.ofNat (own_sg Hh k))), .val (.int i9), s10, .unset, .unset, .unset, .unset] [(.ref bf), (.ref a1)])) rfl rfl (hb hby d3_195)
          have N0 := Fr.snoc X10 N0 g_a1
          have Z0 := Nat.le_trans Z0 (Keep.of_wr W10).1
          have K0 := K0.wr W10 (Or.inl (List.mem_of_getElem? (i := 0) rfl))
          have E_a1 := E_a1.wr W10
          have F_counts := F_counts.other W10 (Or.inr (slot_ne (Or.inr (hw _ (List.mem_of_getElem? (i := 32) rfl))) (Or.inr (hw _ (List.mem_of_getElem? (i := 34) rfl))) (by decide) (t := (.array .int)) (t' := (.array .int)) (by decide) (by decide)))
          have F_first := F_first.same W10
          have F_byState := F_byState.other W10 (Or.inr (slot_ne (Or.inr (hw _ (List.mem_of_getElem? (i := 36) rfl))) (Or.inr (hw _ (List.mem_of_getElem? (i := 34) rfl))) (by decide) (t := (.array .int)) (t' := (.array .int)) (by decide) (by decide)))
          have F_states := F_states.other W10 (Or.inr (slot_ne (Or.inr (hw _ (List.mem_of_getElem? (i := 38) rfl))) (Or.inr (hw _ (List.mem_of_getElem? (i := 34) rfl))) (by decide) (t := (.array .int)) (t' := (.array .int)) (by decide) (by decide)))
          have A_a2 := A_a2.other W10 (Ne.symm ne_a1_a2)
          have A_b5 := A_b5.other W10 (Ne.symm ne_a1_b5)
          have E_bc := E_bc.wr W10
          have A_bc := A_bc.other W10 (Ne.symm ne_a1_bc)
          have A_bf := A_bf.other W10 (Ne.symm ne_a1_bf)
          refine Dn.st st10 ?_
          show Dn p e below s _ _ _ T10 (mkF m 198 #[.val (.ref a1), .val (.ref a2), .val (.int x2), .val (.int (32 : Int32)), .val (.int (Nat.toInt32 nn)), .val (.ref b5), .val (.int i6), .val (.int (23 : Int32)), .val (.int (Int32.ofNat (own_sg Hh k))), .val (.int i9), s10, .unset, .unset, .unset, .unset] [])
          refine Dn.st (fun t q => XS.iconst X10.here hx rfl (hb hby d3_198) q) ?_
          show Dn p e below s _ _ _ T10 (mkF m 199 #[.val (.ref a1), .val (.ref a2), .val (.int x2), .val (.int (32 : Int32)), .val (.int (Nat.toInt32 nn)), .val (.ref b5), .val (.int i6), .val (.int (23 : Int32)), .val (.int (Int32.ofNat (own_sg Hh k))), .val (.int i9), s10, .unset, .unset, .unset, .unset] [(.int (1 : Int32))])
          refine Dn.st (fun t q => XS.istore X10.here hx rfl (hb hby d3_199) rfl (l' := #[.val (.ref a1), .val (.ref a2), .val (.int x2), .val (.int (32 : Int32)), .val (.int (Nat.toInt32 nn)), .val (.ref b5), .val (.int i6), .val (.int (23 : Int32)), .val (.int (Int32.ofNat (own_sg Hh k))), .val (.int (1 : Int32)), s10, .unset, .unset, .unset, .unset]) rfl q) ?_
          show Dn p e below s _ _ _ T10 (mkF m 201 #[.val (.ref a1), .val (.ref a2), .val (.int x2), .val (.int (32 : Int32)), .val (.int (Nat.toInt32 nn)), .val (.ref b5), .val (.int i6), .val (.int (23 : Int32)), .val (.int (Int32.ofNat (own_sg Hh k))), .val (.int (1 : Int32)), s10, .unset, .unset, .unset, .unset] [])
          have A_bf : Ary Z h10 bf .int nn (fun x => .int (Int32.ofNat (if x < 0 + 1 then own_F P x else 0))) := A_bf.congr (own_f0 P)
          have lp4 : ∀ (r4 : Nat) (q4 : Nat) (j9 : Int32) (TL : State) (lcL : List Loc) (XL : Stand p l e ({ frames := 2, cells := 7, slots := 116, locals := 27 } : Room) s m #[(.ref a1), (.ref a2), (.int x2)] below meth c TL lcL 4 47) (hL : Heap) (eL : TL.heap = hL) (N0 : Fr n0 lcL) (Z0 : n0 ≤ hL.size) (K0 : Keep h0 hL [a1]) (E_a1 : Exa Z hL a1 "keyfold/Fse") (F_counts : Fld Z hL a1 "keyfold/Fse" "counts" "[I" (.ref bc)) (F_first : Fld Z hL a1 "keyfold/Fse" "first" "[I" (.ref bf)) (F_byState : Fld Z hL a1 "keyfold/Fse" "byState" "[I" u4) (F_states : Fld Z hL a1 "keyfold/Fse" "states" "[I" u5) (A_b5 : Ary Z hL b5 .int 32 (fun x => .int (Int32.ofNat (Y2 x)))) (E_bc : Exa Z hL bc "[I") (A_bc : Ary Z hL bc .int nn (fun x => .int (own_cn (P x)))) (A_bf : Ary Z hL bf .int nn (fun x => .int (Int32.ofNat (if x < q4 + 1 then own_F P x else 0)))) (g9 : j9.toInt = ((q4 + 1 : Nat) : Int)) (g4 : (q4 + 1) + r4 = nn), Dn p e below s (Q3 Z a1 a2 x2 u0 u1 u2 u3 u4 u5 P nn h0 n0) (({ frames := 2, cells := 7, slots := 116, locals := 27 } : Room).cells) (({ frames := 2, cells := 7, slots := 116, locals := 27 } : Room).slots) TL (mkF m 201 #[.val (.ref a1), .val (.ref a2), .val (.int x2), .val (.int (32 : Int32)), .val (.int (Nat.toInt32 nn)), .val (.ref b5), .val (.int i6), .val (.int (23 : Int32)), .val (.int (Int32.ofNat (own_sg Hh k))), .val (.int j9), s10, .unset, .unset, .unset, .unset] []) := by
            intro r4
            induction r4 with
            | zero =>
              intro q4 j9 TL lcL XL hL eL N0 Z0 K0 E_a1 F_counts F_first F_byState F_states A_b5 E_bc A_bc A_bf g9 g4
              refine Dn.st (fun t q => XS.iload XL.here hx rfl (hb hby d3_201) rfl  q) ?_
              show Dn p e below s _ _ _ TL (mkF m 203 #[.val (.ref a1), .val (.ref a2), .val (.int x2), .val (.int (32 : Int32)), .val (.int (Nat.toInt32 nn)), .val (.ref b5), .val (.int i6), .val (.int (23 : Int32)), .val (.int (Int32.ofNat (own_sg Hh k))), .val (.int j9), s10, .unset, .unset, .unset, .unset] [(.int j9)])
              refine Dn.st (fun t q => XS.iload XL.here hx rfl (hb hby d3_203) rfl  q) ?_
              show Dn p e below s _ _ _ TL (mkF m 205 #[.val (.ref a1), .val (.ref a2), .val (.int x2), .val (.int (32 : Int32)), .val (.int (Nat.toInt32 nn)), .val (.ref b5), .val (.int i6), .val (.int (23 : Int32)), .val (.int (Int32.ofNat (own_sg Hh k))), .val (.int j9), s10, .unset, .unset, .unset, .unset] [(.int (Nat.toInt32 nn)), (.int j9)])
              refine Dn.st (fun t q => XS.icmpYes XL.here hx rfl (pc0 := 205) (pc' := 240) rfl (hb hby d3_205) rfl (flt (own_out hok g9 g4)).2.1 (by decide) (by decide) q) ?_
              show Dn p e below s _ _ _ TL (mkF m 240 #[.val (.ref a1), .val (.ref a2), .val (.int x2), .val (.int (32 : Int32)), .val (.int (Nat.toInt32 nn)), .val (.ref b5), .val (.int i6), .val (.int (23 : Int32)), .val (.int (Int32.ofNat (own_sg Hh k))), .val (.int j9), s10, .unset, .unset, .unset, .unset] [])
              have A_bf : Ary Z hL bf .int nn (fun x => .int (Int32.ofNat (own_F P x))) := A_bf.congr (own_fend g4)
              refine Dn.st (fun t q => XS.aloadN XL.here hx rfl (hb hby d3_240) rfl rfl  q) ?_
              show Dn p e below s _ _ _ TL (mkF m 241 #[.val (.ref a1), .val (.ref a2), .val (.int x2), .val (.int (32 : Int32)), .val (.int (Nat.toInt32 nn)), .val (.ref b5), .val (.int i6), .val (.int (23 : Int32)), .val (.int (Int32.ofNat (own_sg Hh k))), .val (.int j9), s10, .unset, .unset, .unset, .unset] [(.ref a1)])
              refine Dn.st (fun t q => XS.iloadN XL.here hx rfl (hb hby d3_241) rfl  q) ?_
              show Dn p e below s _ _ _ TL (mkF m 242 #[.val (.ref a1), .val (.ref a2), .val (.int x2), .val (.int (32 : Int32)), .val (.int (Nat.toInt32 nn)), .val (.ref b5), .val (.int i6), .val (.int (23 : Int32)), .val (.int (Int32.ofNat (own_sg Hh k))), .val (.int j9), s10, .unset, .unset, .unset, .unset] [(.int (32 : Int32)), (.ref a1)])
              obtain ⟨T11, h11, k11, X11, e11, E11, A11, st11⟩ := newP XL hx hZ (hw _ (List.mem_of_getElem? (i := 1) rfl)) eL (g := (mkF m 242 #[.val (.ref a1), .val (.ref a2), .val (.int x2), .val (.int (32 : Int32)), .val (.int (Nat.toInt32 nn)), .val (.ref b5), .val (.int i6), .val (.int (23 : Int32)), .val (.int (Int32.ofNat (own_sg Hh k))), .val (.int j9), s10, .unset, .unset, .unset, .unset] [(.int (32 : Int32)), (.ref a1)])) rfl (hb hby d3_242) rfl (by decide) (cap := 32) (by decide) (by decide) (by decide) (by decide)
              obtain ⟨bb, g11⟩ : ∃ z, z = hL.size := ⟨_, rfl⟩
              rw [← g11] at A11 st11
              have ne_a1_bb : a1 ≠ bb := own_ne E_a1.lt g11
              have ne_b5_bb : b5 ≠ bb := own_ne A_b5.lt g11
              have ne_bc_bb : bc ≠ bb := own_ne E_bc.lt g11
              have ne_bf_bb : bf ≠ bb := own_ne A_bf.lt g11
              have g_bb : n0 ≤ bb := Nat.le_trans Z0 (Nat.le_of_eq g11.symm)
              have sz_bb : h0.size ≤ bb := Nat.le_trans K0.1 (Nat.le_of_eq g11.symm)
              have Z0 := Nat.le_trans Z0 E11.1
              have K0 := K0.ext E11
              have E_a1 := E_a1.ext E11
              have F_counts := F_counts.ext E11
              have F_first := F_first.ext E11
              have F_byState := F_byState.ext E11
              have F_states := F_states.ext E11
              have A_b5 := A_b5.ext E11
              have E_bc := E_bc.ext E11
              have A_bc := A_bc.ext E11
              have A_bf := A_bf.ext E11
              have A_bb : Ary Z h11 bb .int 32 (fun _ => (.int (0 : Int32))) := Ary.new A11 (by decide)
              refine Dn.st st11 ?_
              show Dn p e below s _ _ _ T11 (mkF m 244 #[.val (.ref a1), .val (.ref a2), .val (.int x2), .val (.int (32 : Int32)), .val (.int (Nat.toInt32 nn)), .val (.ref b5), .val (.int i6), .val (.int (23 : Int32)), .val (.int (Int32.ofNat (own_sg Hh k))), .val (.int j9), s10, .unset, .unset, .unset, .unset] [(.ref bb), (.ref a1)])
              obtain ⟨T12, h12, X12, e12, W12, st12⟩ := putF X11 hx hZ hown (host := "") (Or.inl (hw _ (List.mem_of_getElem? (i := 35) rfl))) Via.refl e11 F_byState E_a1 (Or.inr ⟨(hw _ (List.mem_of_getElem? (i := 36) rfl)), rfl, hnm⟩) (hw _ (List.mem_of_getElem? (i := 10) rfl)) (ty := (.array .int)) (by decide) rfl rfl (g := (mkF m 244 #[.val (.ref a1), .val (.ref a2), .val (.int x2), .val (.int (32 : Int32)), .val (.int (Nat.toInt32 nn)), .val (.ref b5), .val (.int i6), .val (.int (23 : Int32)), .val (.int (Int32.ofNat (own_sg Hh k))), .val (.int j9), s10, .unset, .unset, .unset, .unset] [(.ref bb), (.ref a1)])) rfl rfl (hb hby d3_244)
              have N0 := Fr.snoc X12 N0 g_a1
              have Z0 := Nat.le_trans Z0 (Keep.of_wr W12).1
              have K0 := K0.wr W12 (Or.inl (List.mem_of_getElem? (i := 0) rfl))
              have E_a1 := E_a1.wr W12
              have F_counts := F_counts.other W12 (Or.inr (slot_ne (Or.inr (hw _ (List.mem_of_getElem? (i := 32) rfl))) (Or.inr (hw _ (List.mem_of_getElem? (i := 36) rfl))) (by decide) (t := (.array .int)) (t' := (.array .int)) (by decide) (by decide)))
              have F_first := F_first.other W12 (Or.inr (slot_ne (Or.inr (hw _ (List.mem_of_getElem? (i := 34) rfl))) (Or.inr (hw _ (List.mem_of_getElem? (i := 36) rfl))) (by decide) (t := (.array .int)) (t' := (.array .int)) (by decide) (by decide)))
              have F_byState := F_byState.same W12
              have F_states := F_states.other W12 (Or.inr (slot_ne (Or.inr (hw _ (List.mem_of_getElem? (i := 38) rfl))) (Or.inr (hw _ (List.mem_of_getElem? (i := 36) rfl))) (by decide) (t := (.array .int)) (t' := (.array .int)) (by decide) (by decide)))
              have A_b5 := A_b5.other W12 (Ne.symm ne_a1_b5)
              have E_bc := E_bc.wr W12
              have A_bc := A_bc.other W12 (Ne.symm ne_a1_bc)
              have A_bf := A_bf.other W12 (Ne.symm ne_a1_bf)
              have A_bb := A_bb.other W12 (Ne.symm ne_a1_bb)
              refine Dn.st st12 ?_
              show Dn p e below s _ _ _ T12 (mkF m 247 #[.val (.ref a1), .val (.ref a2), .val (.int x2), .val (.int (32 : Int32)), .val (.int (Nat.toInt32 nn)), .val (.ref b5), .val (.int i6), .val (.int (23 : Int32)), .val (.int (Int32.ofNat (own_sg Hh k))), .val (.int j9), s10, .unset, .unset, .unset, .unset] [])
              refine Dn.st (fun t q => XS.aloadN X12.here hx rfl (hb hby d3_247) rfl rfl  q) ?_
              show Dn p e below s _ _ _ T12 (mkF m 248 #[.val (.ref a1), .val (.ref a2), .val (.int x2), .val (.int (32 : Int32)), .val (.int (Nat.toInt32 nn)), .val (.ref b5), .val (.int i6), .val (.int (23 : Int32)), .val (.int (Int32.ofNat (own_sg Hh k))), .val (.int j9), s10, .unset, .unset, .unset, .unset] [(.ref a1)])
              refine Dn.st (fun t q => XS.iloadN X12.here hx rfl (hb hby d3_248) rfl  q) ?_
              show Dn p e below s _ _ _ T12 (mkF m 249 #[.val (.ref a1), .val (.ref a2), .val (.int x2), .val (.int (32 : Int32)), .val (.int (Nat.toInt32 nn)), .val (.ref b5), .val (.int i6), .val (.int (23 : Int32)), .val (.int (Int32.ofNat (own_sg Hh k))), .val (.int j9), s10, .unset, .unset, .unset, .unset] [(.int (32 : Int32)), (.ref a1)])
              obtain ⟨T13, h13, k13, X13, e13, E13, A13, st13⟩ := newP X12 hx hZ (hw _ (List.mem_of_getElem? (i := 1) rfl)) e12 (g := (mkF m 249 #[.val (.ref a1), .val (.ref a2), .val (.int x2), .val (.int (32 : Int32)), .val (.int (Nat.toInt32 nn)), .val (.ref b5), .val (.int i6), .val (.int (23 : Int32)), .val (.int (Int32.ofNat (own_sg Hh k))), .val (.int j9), s10, .unset, .unset, .unset, .unset] [(.int (32 : Int32)), (.ref a1)])) rfl (hb hby d3_249) rfl (by decide) (cap := 32) (by decide) (by decide) (by decide) (by decide)
              obtain ⟨bs, g13⟩ : ∃ z, z = h12.size := ⟨_, rfl⟩
              rw [← g13] at A13 st13
              have ne_a1_bs : a1 ≠ bs := own_ne E_a1.lt g13
              have ne_b5_bs : b5 ≠ bs := own_ne A_b5.lt g13
              have ne_bc_bs : bc ≠ bs := own_ne E_bc.lt g13
              have ne_bf_bs : bf ≠ bs := own_ne A_bf.lt g13
              have ne_bb_bs : bb ≠ bs := own_ne A_bb.lt g13
              have g_bs : n0 ≤ bs := Nat.le_trans Z0 (Nat.le_of_eq g13.symm)
              have sz_bs : h0.size ≤ bs := Nat.le_trans K0.1 (Nat.le_of_eq g13.symm)
              have Z0 := Nat.le_trans Z0 E13.1
              have K0 := K0.ext E13
              have E_a1 := E_a1.ext E13
              have F_counts := F_counts.ext E13
              have F_first := F_first.ext E13
              have F_byState := F_byState.ext E13
              have F_states := F_states.ext E13
              have A_b5 := A_b5.ext E13
              have E_bc := E_bc.ext E13
              have A_bc := A_bc.ext E13
              have A_bf := A_bf.ext E13
              have A_bb := A_bb.ext E13
              have A_bs : Ary Z h13 bs .int 32 (fun _ => (.int (0 : Int32))) := Ary.new A13 (by decide)
              refine Dn.st st13 ?_
              show Dn p e below s _ _ _ T13 (mkF m 251 #[.val (.ref a1), .val (.ref a2), .val (.int x2), .val (.int (32 : Int32)), .val (.int (Nat.toInt32 nn)), .val (.ref b5), .val (.int i6), .val (.int (23 : Int32)), .val (.int (Int32.ofNat (own_sg Hh k))), .val (.int j9), s10, .unset, .unset, .unset, .unset] [(.ref bs), (.ref a1)])
              obtain ⟨T14, h14, X14, e14, W14, st14⟩ := putF X13 hx hZ hown (host := "") (Or.inl (hw _ (List.mem_of_getElem? (i := 37) rfl))) Via.refl e13 F_states E_a1 (Or.inr ⟨(hw _ (List.mem_of_getElem? (i := 38) rfl)), rfl, hnm⟩) (hw _ (List.mem_of_getElem? (i := 10) rfl)) (ty := (.array .int)) (by decide) rfl rfl (g := (mkF m 251 #[.val (.ref a1), .val (.ref a2), .val (.int x2), .val (.int (32 : Int32)), .val (.int (Nat.toInt32 nn)), .val (.ref b5), .val (.int i6), .val (.int (23 : Int32)), .val (.int (Int32.ofNat (own_sg Hh k))), .val (.int j9), s10, .unset, .unset, .unset, .unset] [(.ref bs), (.ref a1)])) rfl rfl (hb hby d3_251)
              have N0 := Fr.snoc X14 N0 g_a1
              have Z0 := Nat.le_trans Z0 (Keep.of_wr W14).1
              have K0 := K0.wr W14 (Or.inl (List.mem_of_getElem? (i := 0) rfl))
              have E_a1 := E_a1.wr W14
              have F_counts := F_counts.other W14 (Or.inr (slot_ne (Or.inr (hw _ (List.mem_of_getElem? (i := 32) rfl))) (Or.inr (hw _ (List.mem_of_getElem? (i := 38) rfl))) (by decide) (t := (.array .int)) (t' := (.array .int)) (by decide) (by decide)))
              have F_first := F_first.other W14 (Or.inr (slot_ne (Or.inr (hw _ (List.mem_of_getElem? (i := 34) rfl))) (Or.inr (hw _ (List.mem_of_getElem? (i := 38) rfl))) (by decide) (t := (.array .int)) (t' := (.array .int)) (by decide) (by decide)))
              have F_byState := F_byState.other W14 (Or.inr (slot_ne (Or.inr (hw _ (List.mem_of_getElem? (i := 36) rfl))) (Or.inr (hw _ (List.mem_of_getElem? (i := 38) rfl))) (by decide) (t := (.array .int)) (t' := (.array .int)) (by decide) (by decide)))
              have F_states := F_states.same W14
              have A_b5 := A_b5.other W14 (Ne.symm ne_a1_b5)
              have E_bc := E_bc.wr W14
              have A_bc := A_bc.other W14 (Ne.symm ne_a1_bc)
              have A_bf := A_bf.other W14 (Ne.symm ne_a1_bf)
              have A_bb := A_bb.other W14 (Ne.symm ne_a1_bb)
              have A_bs := A_bs.other W14 (Ne.symm ne_a1_bs)
              refine Dn.st st14 ?_
              show Dn p e below s _ _ _ T14 (mkF m 254 #[.val (.ref a1), .val (.ref a2), .val (.int x2), .val (.int (32 : Int32)), .val (.int (Nat.toInt32 nn)), .val (.ref b5), .val (.int i6), .val (.int (23 : Int32)), .val (.int (Int32.ofNat (own_sg Hh k))), .val (.int j9), s10, .unset, .unset, .unset, .unset] [])
              refine Dn.st (fun t q => XS.aloadN X14.here hx rfl (hb hby d3_254) rfl rfl  q) ?_
              show Dn p e below s _ _ _ T14 (mkF m 255 #[.val (.ref a1), .val (.ref a2), .val (.int x2), .val (.int (32 : Int32)), .val (.int (Nat.toInt32 nn)), .val (.ref b5), .val (.int i6), .val (.int (23 : Int32)), .val (.int (Int32.ofNat (own_sg Hh k))), .val (.int j9), s10, .unset, .unset, .unset, .unset] [(.ref a1)])
              obtain ⟨T15, X15, e15, st15⟩ := getF X14 hx hZ hown (host := "") (Or.inl (hw _ (List.mem_of_getElem? (i := 31) rfl))) Via.refl e14 F_counts (g := (mkF m 255 #[.val (.ref a1), .val (.ref a2), .val (.int x2), .val (.int (32 : Int32)), .val (.int (Nat.toInt32 nn)), .val (.ref b5), .val (.int i6), .val (.int (23 : Int32)), .val (.int (Int32.ofNat (own_sg Hh k))), .val (.int j9), s10, .unset, .unset, .unset, .unset] [(.ref a1)])) rfl rfl (hb hby d3_255)
              refine Dn.st st15 ?_
              show Dn p e below s _ _ _ T15 (mkF m 258 #[.val (.ref a1), .val (.ref a2), .val (.int x2), .val (.int (32 : Int32)), .val (.int (Nat.toInt32 nn)), .val (.ref b5), .val (.int i6), .val (.int (23 : Int32)), .val (.int (Int32.ofNat (own_sg Hh k))), .val (.int j9), s10, .unset, .unset, .unset, .unset] [(.ref bc)])
              obtain ⟨T16, h16, X16, e16, E16, A16, B16, st16⟩ := aCloneI (w := (fun x => (own_cn (P x)))) X15 hx hZ hown (hw _ (List.mem_of_getElem? (i := 20) rfl)) (hw _ (List.mem_of_getElem? (i := 21) rfl)) (hw _ (List.mem_of_getElem? (i := 25) rfl)) (hw _ (List.mem_of_getElem? (i := 23) rfl)) (hw _ (List.mem_of_getElem? (i := 24) rfl)) (hw _ (List.mem_of_getElem? (i := 26) rfl)) e15 A_bc E_bc (g := (mkF m 258 #[.val (.ref a1), .val (.ref a2), .val (.int x2), .val (.int (32 : Int32)), .val (.int (Nat.toInt32 nn)), .val (.ref b5), .val (.int i6), .val (.int (23 : Int32)), .val (.int (Int32.ofNat (own_sg Hh k))), .val (.int j9), s10, .unset, .unset, .unset, .unset] [(.ref bc)])) rfl (by rw [hml]; rfl) rfl (hb hby d3_258) (by decide) (W := 0) (cap := 5) (by show 2 * 0 + _ ≤ _; exact Nat.le_of_eq rfl) (by decide) (own_n5 hok) (by decide) (by decide)
              obtain ⟨c2, g16⟩ : ∃ z, z = h14.size := ⟨_, rfl⟩
              rw [← g16] at A16 B16 st16
              have ne_a1_c2 : a1 ≠ c2 := own_ne E_a1.lt g16
              have ne_b5_c2 : b5 ≠ c2 := own_ne A_b5.lt g16
              have ne_bc_c2 : bc ≠ c2 := own_ne E_bc.lt g16
              have ne_bf_c2 : bf ≠ c2 := own_ne A_bf.lt g16
              have ne_bb_c2 : bb ≠ c2 := own_ne A_bb.lt g16
              have ne_bs_c2 : bs ≠ c2 := own_ne A_bs.lt g16
              have g_c2 : n0 ≤ c2 := Nat.le_trans Z0 (Nat.le_of_eq g16.symm)
              have sz_c2 : h0.size ≤ c2 := Nat.le_trans K0.1 (Nat.le_of_eq g16.symm)
              have Z0 := Nat.le_trans Z0 E16.1
              have K0 := K0.ext E16
              have E_a1 := E_a1.ext E16
              have F_counts := F_counts.ext E16
              have F_first := F_first.ext E16
              have F_byState := F_byState.ext E16
              have F_states := F_states.ext E16
              have A_b5 := A_b5.ext E16
              have E_bc := E_bc.ext E16
              have A_bc := A_bc.ext E16
              have A_bf := A_bf.ext E16
              have A_bb := A_bb.ext E16
              have A_bs := A_bs.ext E16
              have A_c2 := A16
              have E_c2 := B16
              refine Dn.st st16 ?_
              show Dn p e below s _ _ _ T16 (mkF m 261 #[.val (.ref a1), .val (.ref a2), .val (.int x2), .val (.int (32 : Int32)), .val (.int (Nat.toInt32 nn)), .val (.ref b5), .val (.int i6), .val (.int (23 : Int32)), .val (.int (Int32.ofNat (own_sg Hh k))), .val (.int j9), s10, .unset, .unset, .unset, .unset] [(.ref c2)])
              obtain ⟨T17, X17, e17, st17⟩ := castY X16 hx hZ hown (hw _ (List.mem_of_getElem? (i := 27) rfl)) e16 (Ins.self E_c2) (g := (mkF m 261 #[.val (.ref a1), .val (.ref a2), .val (.int x2), .val (.int (32 : Int32)), .val (.int (Nat.toInt32 nn)), .val (.ref b5), .val (.int i6), .val (.int (23 : Int32)), .val (.int (Int32.ofNat (own_sg Hh k))), .val (.int j9), s10, .unset, .unset, .unset, .unset] [(.ref c2)])) rfl rfl (hb hby d3_261)
              refine Dn.st st17 ?_
              show Dn p e below s _ _ _ T17 (mkF m 264 #[.val (.ref a1), .val (.ref a2), .val (.int x2), .val (.int (32 : Int32)), .val (.int (Nat.toInt32 nn)), .val (.ref b5), .val (.int i6), .val (.int (23 : Int32)), .val (.int (Int32.ofNat (own_sg Hh k))), .val (.int j9), s10, .unset, .unset, .unset, .unset] [(.ref c2)])
              refine Dn.st (fun t q => XS.astore X17.here hx rfl (hb hby d3_264) rfl rfl (l' := #[.val (.ref a1), .val (.ref a2), .val (.int x2), .val (.int (32 : Int32)), .val (.int (Nat.toInt32 nn)), .val (.ref b5), .val (.int i6), .val (.int (23 : Int32)), .val (.int (Int32.ofNat (own_sg Hh k))), .val (.ref c2), s10, .unset, .unset, .unset, .unset]) rfl q) ?_
              show Dn p e below s _ _ _ T17 (mkF m 266 #[.val (.ref a1), .val (.ref a2), .val (.int x2), .val (.int (32 : Int32)), .val (.int (Nat.toInt32 nn)), .val (.ref b5), .val (.int i6), .val (.int (23 : Int32)), .val (.int (Int32.ofNat (own_sg Hh k))), .val (.ref c2), s10, .unset, .unset, .unset, .unset] [])
              refine Dn.st (fun t q => XS.iconst X17.here hx rfl (hb hby d3_266) q) ?_
              show Dn p e below s _ _ _ T17 (mkF m 267 #[.val (.ref a1), .val (.ref a2), .val (.int x2), .val (.int (32 : Int32)), .val (.int (Nat.toInt32 nn)), .val (.ref b5), .val (.int i6), .val (.int (23 : Int32)), .val (.int (Int32.ofNat (own_sg Hh k))), .val (.ref c2), s10, .unset, .unset, .unset, .unset] [(.int (0 : Int32))])
              refine Dn.st (fun t q => XS.istore X17.here hx rfl (hb hby d3_267) rfl (l' := #[.val (.ref a1), .val (.ref a2), .val (.int x2), .val (.int (32 : Int32)), .val (.int (Nat.toInt32 nn)), .val (.ref b5), .val (.int i6), .val (.int (23 : Int32)), .val (.int (Int32.ofNat (own_sg Hh k))), .val (.ref c2), .val (.int (0 : Int32)), .unset, .unset, .unset, .unset]) (XS.store1 (o := s10) rfl hs10 rfl) q) ?_
              show Dn p e below s _ _ _ T17 (mkF m 269 #[.val (.ref a1), .val (.ref a2), .val (.int x2), .val (.int (32 : Int32)), .val (.int (Nat.toInt32 nn)), .val (.ref b5), .val (.int i6), .val (.int (23 : Int32)), .val (.int (Int32.ofNat (own_sg Hh k))), .val (.ref c2), .val (.int (0 : Int32)), .unset, .unset, .unset, .unset] [])
              have A_c2 : Ary Z h16 c2 .int nn (fun x => .int (Int32.ofNat (own_cz (P x) + own_c Y2 x (List.range 0)))) := A_c2.congr (own_n0 hok)
              have lp5 : ∀ (r5 : Nat) (st : Nat) (k10 : Int32) (ub : Nat → Int32) (ut : Nat → Int32) (s11 : Slot) (s12 : Slot) (s13 : Slot) (s14 : Slot) (TL : State) (lcL : List Loc) (XL : Stand p l e ({ frames := 2, cells := 7, slots := 116, locals := 27 } : Room) s m #[(.ref a1), (.ref a2), (.int x2)] below meth c TL lcL 7 116) (hL : Heap) (eL : TL.heap = hL) (N0 : Fr n0 lcL) (Z0 : n0 ≤ hL.size) (K0 : Keep h0 hL [a1]) (E_a1 : Exa Z hL a1 "keyfold/Fse") (F_counts : Fld Z hL a1 "keyfold/Fse" "counts" "[I" (.ref bc)) (F_first : Fld Z hL a1 "keyfold/Fse" "first" "[I" (.ref bf)) (F_byState : Fld Z hL a1 "keyfold/Fse" "byState" "[I" (.ref bb)) (F_states : Fld Z hL a1 "keyfold/Fse" "states" "[I" (.ref bs)) (A_b5 : Ary Z hL b5 .int 32 (fun x => .int (Int32.ofNat (Y2 x)))) (A_bc : Ary Z hL bc .int nn (fun x => .int (own_cn (P x)))) (A_bf : Ary Z hL bf .int nn (fun x => .int (Int32.ofNat (own_F P x)))) (A_bb : Ary Z hL bb .int 32 (fun x => .int (ub x))) (A_bs : Ary Z hL bs .int 32 (fun x => .int (ut x))) (A_c2 : Ary Z hL c2 .int nn (fun x => .int (Int32.ofNat (own_cz (P x) + own_c Y2 x (List.range st))))) (hs11 : One s11) (hs12 : One s12) (hs13 : One s13) (hs14 : One s14) (g10 : k10.toInt = (st : Int)) (g5 : st + r5 = 32), Dn p e below s (Q3 Z a1 a2 x2 u0 u1 u2 u3 u4 u5 P nn h0 n0) (({ frames := 2, cells := 7, slots := 116, locals := 27 } : Room).cells) (({ frames := 2, cells := 7, slots := 116, locals := 27 } : Room).slots) TL (mkF m 269 #[.val (.ref a1), .val (.ref a2), .val (.int x2), .val (.int (32 : Int32)), .val (.int (Nat.toInt32 nn)), .val (.ref b5), .val (.int i6), .val (.int (23 : Int32)), .val (.int (Int32.ofNat (own_sg Hh k))), .val (.ref c2), .val (.int k10), s11, s12, s13, s14] []) := by
                intro r5
                induction r5 with
                | zero =>
                  intro st k10 ub ut s11 s12 s13 s14 TL lcL XL hL eL N0 Z0 K0 E_a1 F_counts F_first F_byState F_states A_b5 A_bc A_bf A_bb A_bs A_c2 hs11 hs12 hs13 hs14 g10 g5
                  refine Dn.st (fun t q => XS.iload XL.here hx rfl (hb hby d3_269) rfl  q) ?_
                  show Dn p e below s _ _ _ TL (mkF m 271 #[.val (.ref a1), .val (.ref a2), .val (.int x2), .val (.int (32 : Int32)), .val (.int (Nat.toInt32 nn)), .val (.ref b5), .val (.int i6), .val (.int (23 : Int32)), .val (.int (Int32.ofNat (own_sg Hh k))), .val (.ref c2), .val (.int k10), s11, s12, s13, s14] [(.int k10)])
                  refine Dn.st (fun t q => XS.iloadN XL.here hx rfl (hb hby d3_271) rfl  q) ?_
                  show Dn p e below s _ _ _ TL (mkF m 272 #[.val (.ref a1), .val (.ref a2), .val (.int x2), .val (.int (32 : Int32)), .val (.int (Nat.toInt32 nn)), .val (.ref b5), .val (.int i6), .val (.int (23 : Int32)), .val (.int (Int32.ofNat (own_sg Hh k))), .val (.ref c2), .val (.int k10), s11, s12, s13, s14] [(.int (32 : Int32)), (.int k10)])
                  refine Dn.st (fun t q => XS.icmpYes XL.here hx rfl (pc0 := 272) (pc' := 364) rfl (hb hby d3_272) rfl (flt (own_out32 g10 g5)).2.1 (by decide) (by decide) q) ?_
                  show Dn p e below s _ _ _ TL (mkF m 364 #[.val (.ref a1), .val (.ref a2), .val (.int x2), .val (.int (32 : Int32)), .val (.int (Nat.toInt32 nn)), .val (.ref b5), .val (.int i6), .val (.int (23 : Int32)), .val (.int (Int32.ofNat (own_sg Hh k))), .val (.ref c2), .val (.int k10), s11, s12, s13, s14] [])
                  exact Dn.retV XL hx Bd.notSynchronized Bd.returns (hb hby d3_364) (by rw [eL]; exact ⟨rfl, N0, K0, bc, sz_bc, F_counts, A_bc⟩) (by decide) (by decide)
                | succ r5 ih5 =>
                  intro st k10 ub ut s11 s12 s13 s14 TL lcL XL hL eL N0 Z0 K0 E_a1 F_counts F_first F_byState F_states A_b5 A_bc A_bf A_bb A_bs A_c2 hs11 hs12 hs13 hs14 g10 g5
                  refine Dn.st (fun t q => XS.iload XL.here hx rfl (hb hby d3_269) rfl  q) ?_
                  show Dn p e below s _ _ _ TL (mkF m 271 #[.val (.ref a1), .val (.ref a2), .val (.int x2), .val (.int (32 : Int32)), .val (.int (Nat.toInt32 nn)), .val (.ref b5), .val (.int i6), .val (.int (23 : Int32)), .val (.int (Int32.ofNat (own_sg Hh k))), .val (.ref c2), .val (.int k10), s11, s12, s13, s14] [(.int k10)])
                  refine Dn.st (fun t q => XS.iloadN XL.here hx rfl (hb hby d3_271) rfl  q) ?_
                  show Dn p e below s _ _ _ TL (mkF m 272 #[.val (.ref a1), .val (.ref a2), .val (.int x2), .val (.int (32 : Int32)), .val (.int (Nat.toInt32 nn)), .val (.ref b5), .val (.int i6), .val (.int (23 : Int32)), .val (.int (Int32.ofNat (own_sg Hh k))), .val (.ref c2), .val (.int k10), s11, s12, s13, s14] [(.int (32 : Int32)), (.int k10)])
                  refine Dn.st (fun t q => XS.icmpNo XL.here hx rfl (hb hby d3_272) rfl (tlt (own_in32 g10 g5)).2.1 q) ?_
                  show Dn p e below s _ _ _ TL (mkF m 275 #[.val (.ref a1), .val (.ref a2), .val (.int x2), .val (.int (32 : Int32)), .val (.int (Nat.toInt32 nn)), .val (.ref b5), .val (.int i6), .val (.int (23 : Int32)), .val (.int (Int32.ofNat (own_sg Hh k))), .val (.ref c2), .val (.int k10), s11, s12, s13, s14] [])
                  have hst : st < 32 := by omega
                  have hyn := hY.1 st
                  have hy5 := own_n5 hok
                  refine Dn.st (fun t q => XS.aload XL.here hx rfl (hb hby d3_275) rfl rfl  q) ?_
                  show Dn p e below s _ _ _ TL (mkF m 277 #[.val (.ref a1), .val (.ref a2), .val (.int x2), .val (.int (32 : Int32)), .val (.int (Nat.toInt32 nn)), .val (.ref b5), .val (.int i6), .val (.int (23 : Int32)), .val (.int (Int32.ofNat (own_sg Hh k))), .val (.ref c2), .val (.int k10), s11, s12, s13, s14] [(.ref b5)])
                  refine Dn.st (fun t q => XS.iload XL.here hx rfl (hb hby d3_277) rfl  q) ?_
                  show Dn p e below s _ _ _ TL (mkF m 279 #[.val (.ref a1), .val (.ref a2), .val (.int x2), .val (.int (32 : Int32)), .val (.int (Nat.toInt32 nn)), .val (.ref b5), .val (.int i6), .val (.int (23 : Int32)), .val (.int (Int32.ofNat (own_sg Hh k))), .val (.ref c2), .val (.int k10), s11, s12, s13, s14] [(.int k10), (.ref b5)])
                  refine Dn.st (aLoadI (w := (fun x => (Int32.ofNat (Y2 x)))) XL hx hZ eL A_b5 (i := st) g10 hst (g := (mkF m 279 #[.val (.ref a1), .val (.ref a2), .val (.int x2), .val (.int (32 : Int32)), .val (.int (Nat.toInt32 nn)), .val (.ref b5), .val (.int i6), .val (.int (23 : Int32)), .val (.int (Int32.ofNat (own_sg Hh k))), .val (.ref c2), .val (.int k10), s11, s12, s13, s14] [(.int k10), (.ref b5)])) rfl rfl (hb hby d3_279)) ?_
                  show Dn p e below s _ _ _ TL (mkF m 280 #[.val (.ref a1), .val (.ref a2), .val (.int x2), .val (.int (32 : Int32)), .val (.int (Nat.toInt32 nn)), .val (.ref b5), .val (.int i6), .val (.int (23 : Int32)), .val (.int (Int32.ofNat (own_sg Hh k))), .val (.ref c2), .val (.int k10), s11, s12, s13, s14] [(.int (Int32.ofNat (Y2 (st))))])
                  refine Dn.st (fun t q => XS.istore XL.here hx rfl (hb hby d3_280) rfl (l' := #[.val (.ref a1), .val (.ref a2), .val (.int x2), .val (.int (32 : Int32)), .val (.int (Nat.toInt32 nn)), .val (.ref b5), .val (.int i6), .val (.int (23 : Int32)), .val (.int (Int32.ofNat (own_sg Hh k))), .val (.ref c2), .val (.int k10), .val (.int (Int32.ofNat (Y2 (st)))), s12, s13, s14]) (XS.store1 (o := s11) rfl hs11 rfl) q) ?_
                  show Dn p e below s _ _ _ TL (mkF m 282 #[.val (.ref a1), .val (.ref a2), .val (.int x2), .val (.int (32 : Int32)), .val (.int (Nat.toInt32 nn)), .val (.ref b5), .val (.int i6), .val (.int (23 : Int32)), .val (.int (Int32.ofNat (own_sg Hh k))), .val (.ref c2), .val (.int k10), .val (.int (Int32.ofNat (Y2 (st)))), s12, s13, s14] [])
                  refine Dn.st (fun t q => XS.aload XL.here hx rfl (hb hby d3_282) rfl rfl  q) ?_
                  show Dn p e below s _ _ _ TL (mkF m 284 #[.val (.ref a1), .val (.ref a2), .val (.int x2), .val (.int (32 : Int32)), .val (.int (Nat.toInt32 nn)), .val (.ref b5), .val (.int i6), .val (.int (23 : Int32)), .val (.int (Int32.ofNat (own_sg Hh k))), .val (.ref c2), .val (.int k10), .val (.int (Int32.ofNat (Y2 (st)))), s12, s13, s14] [(.ref c2)])
                  refine Dn.st (fun t q => XS.iload XL.here hx rfl (hb hby d3_284) rfl  q) ?_
                  show Dn p e below s _ _ _ TL (mkF m 286 #[.val (.ref a1), .val (.ref a2), .val (.int x2), .val (.int (32 : Int32)), .val (.int (Nat.toInt32 nn)), .val (.ref b5), .val (.int i6), .val (.int (23 : Int32)), .val (.int (Int32.ofNat (own_sg Hh k))), .val (.ref c2), .val (.int k10), .val (.int (Int32.ofNat (Y2 (st)))), s12, s13, s14] [(.int (Int32.ofNat (Y2 (st)))), (.ref c2)])
                  refine Dn.st (fun t q => XT.dup2 XL.here hx rfl (hb hby d3_286) rfl rfl rfl q) ?_
                  show Dn p e below s _ _ _ TL (mkF m 287 #[.val (.ref a1), .val (.ref a2), .val (.int x2), .val (.int (32 : Int32)), .val (.int (Nat.toInt32 nn)), .val (.ref b5), .val (.int i6), .val (.int (23 : Int32)), .val (.int (Int32.ofNat (own_sg Hh k))), .val (.ref c2), .val (.int k10), .val (.int (Int32.ofNat (Y2 (st)))), s12, s13, s14] [(.int (Int32.ofNat (Y2 (st)))), (.ref c2), (.int (Int32.ofNat (Y2 (st)))), (.ref c2)])
                  refine Dn.st (aLoadI (w := (fun x => (Int32.ofNat (own_cz (P x) + own_c Y2 x (List.range st))))) XL hx hZ eL A_c2 (i := (Y2 st)) (own_toN (by omega)) hyn (g := (mkF m 287 #[.val (.ref a1), .val (.ref a2), .val (.int x2), .val (.int (32 : Int32)), .val (.int (Nat.toInt32 nn)), .val (.ref b5), .val (.int i6), .val (.int (23 : Int32)), .val (.int (Int32.ofNat (own_sg Hh k))), .val (.ref c2), .val (.int k10), .val (.int (Int32.ofNat (Y2 (st)))), s12, s13, s14] [(.int (Int32.ofNat (Y2 (st)))), (.ref c2), (.int (Int32.ofNat (Y2 (st)))), (.ref c2)])) rfl rfl (hb hby d3_287)) ?_
                  show Dn p e below s _ _ _ TL (mkF m 288 #[.val (.ref a1), .val (.ref a2), .val (.int x2), .val (.int (32 : Int32)), .val (.int (Nat.toInt32 nn)), .val (.ref b5), .val (.int i6), .val (.int (23 : Int32)), .val (.int (Int32.ofNat (own_sg Hh k))), .val (.ref c2), .val (.int k10), .val (.int (Int32.ofNat (Y2 (st)))), s12, s13, s14] [(.int (Int32.ofNat (own_cz (P ((Y2 st))) + own_c Y2 ((Y2 st)) (List.range st)))), (.int (Int32.ofNat (Y2 (st)))), (.ref c2)])
                  generalize hxx : (Int32.ofNat (own_cz (P ((Y2 st))) + own_c Y2 ((Y2 st)) (List.range st))) = xx
                  show Dn p e below s _ _ _ TL (mkF m 288 #[.val (.ref a1), .val (.ref a2), .val (.int x2), .val (.int (32 : Int32)), .val (.int (Nat.toInt32 nn)), .val (.ref b5), .val (.int i6), .val (.int (23 : Int32)), .val (.int (Int32.ofNat (own_sg Hh k))), .val (.ref c2), .val (.int k10), .val (.int (Int32.ofNat (Y2 (st)))), s12, s13, s14] [(.int xx), (.int (Int32.ofNat (Y2 (st)))), (.ref c2)])
                  refine Dn.st (T' := TL) (g' := (mkF m 289 #[.val (.ref a1), .val (.ref a2), .val (.int x2), .val (.int (32 : Int32)), .val (.int (Nat.toInt32 nn)), .val (.ref b5), .val (.int i6), .val (.int (23 : Int32)), .val (.int (Int32.ofNat (own_sg Hh k))), .val (.ref c2), .val (.int k10), .val (.int (Int32.ofNat (Y2 (st)))), s12, s13, s14] [(.int xx), (.int (Int32.ofNat (Y2 (st)))), (.ref c2), (.int xx)])) (fun t q => by jvm_step XL.here [XL.here.top, hx, (hb hby d3_288), Value.category]; exact q) ?_
                  refine Dn.st (fun t q => XS.iconst XL.here hx rfl (hb hby d3_289) q) ?_
                  show Dn p e below s _ _ _ TL (mkF m 290 #[.val (.ref a1), .val (.ref a2), .val (.int x2), .val (.int (32 : Int32)), .val (.int (Nat.toInt32 nn)), .val (.ref b5), .val (.int i6), .val (.int (23 : Int32)), .val (.int (Int32.ofNat (own_sg Hh k))), .val (.ref c2), .val (.int k10), .val (.int (Int32.ofNat (Y2 (st)))), s12, s13, s14] [(.int (1 : Int32)), (.int xx), (.int (Int32.ofNat (Y2 (st)))), (.ref c2), (.int xx)])
                  refine Dn.st (fun t q => XS.iadd XL.here hx rfl (hb hby d3_290) rfl q) ?_
                  show Dn p e below s _ _ _ TL (mkF m 291 #[.val (.ref a1), .val (.ref a2), .val (.int x2), .val (.int (32 : Int32)), .val (.int (Nat.toInt32 nn)), .val (.ref b5), .val (.int i6), .val (.int (23 : Int32)), .val (.int (Int32.ofNat (own_sg Hh k))), .val (.ref c2), .val (.int k10), .val (.int (Int32.ofNat (Y2 (st)))), s12, s13, s14] [(.int (xx + (1 : Int32))), (.int (Int32.ofNat (Y2 (st)))), (.ref c2), (.int xx)])
                  obtain ⟨T18, h18, X18, e18, W18, B18, st18⟩ := aStoI XL hx hZ eL A_c2 (i := (Y2 st)) (own_toN (by omega)) hyn (g := (mkF m 291 #[.val (.ref a1), .val (.ref a2), .val (.int x2), .val (.int (32 : Int32)), .val (.int (Nat.toInt32 nn)), .val (.ref b5), .val (.int i6), .val (.int (23 : Int32)), .val (.int (Int32.ofNat (own_sg Hh k))), .val (.ref c2), .val (.int k10), .val (.int (Int32.ofNat (Y2 (st)))), s12, s13, s14] [(.int (xx + (1 : Int32))), (.int (Int32.ofNat (Y2 (st)))), (.ref c2), (.int xx)])) rfl rfl (hb hby d3_291)
                  have N0 := Fr.snoc X18 N0 g_c2
                  have Z0 := Nat.le_trans Z0 (Keep.of_wr W18).1
                  have K0 := K0.wr W18 (Or.inr sz_c2)
                  have E_a1 := E_a1.wr W18
                  have F_counts := F_counts.other W18 (Or.inl ne_a1_c2)
                  have F_first := F_first.other W18 (Or.inl ne_a1_c2)
                  have F_byState := F_byState.other W18 (Or.inl ne_a1_c2)
                  have F_states := F_states.other W18 (Or.inl ne_a1_c2)
                  have A_b5 := A_b5.other W18 ne_b5_c2
                  have A_bc := A_bc.other W18 ne_bc_c2
                  have A_bf := A_bf.other W18 ne_bf_c2
                  have A_bb := A_bb.other W18 ne_bb_c2
                  have A_bs := A_bs.other W18 ne_bs_c2
                  have A_c2 : Ary Z h18 c2 .int nn (fun x => .int (Int32.ofNat (own_cz (P x) + own_c Y2 x (List.range (st + 1))))) := B18.congr (own_nx_eq hxx)
                  refine Dn.st st18 ?_
                  show Dn p e below s _ _ _ T18 (mkF m 292 #[.val (.ref a1), .val (.ref a2), .val (.int x2), .val (.int (32 : Int32)), .val (.int (Nat.toInt32 nn)), .val (.ref b5), .val (.int i6), .val (.int (23 : Int32)), .val (.int (Int32.ofNat (own_sg Hh k))), .val (.ref c2), .val (.int k10), .val (.int (Int32.ofNat (Y2 (st)))), s12, s13, s14] [(.int xx)])
                  refine Dn.st (fun t q => XS.istore X18.here hx rfl (hb hby d3_292) rfl (l' := #[.val (.ref a1), .val (.ref a2), .val (.int x2), .val (.int (32 : Int32)), .val (.int (Nat.toInt32 nn)), .val (.ref b5), .val (.int i6), .val (.int (23 : Int32)), .val (.int (Int32.ofNat (own_sg Hh k))), .val (.ref c2), .val (.int k10), .val (.int (Int32.ofNat (Y2 (st)))), .val (.int xx), s13, s14]) (XS.store1 (o := s12) rfl hs12 rfl) q) ?_
                  show Dn p e below s _ _ _ T18 (mkF m 294 #[.val (.ref a1), .val (.ref a2), .val (.int x2), .val (.int (32 : Int32)), .val (.int (Nat.toInt32 nn)), .val (.ref b5), .val (.int i6), .val (.int (23 : Int32)), .val (.int (Int32.ofNat (own_sg Hh k))), .val (.ref c2), .val (.int k10), .val (.int (Int32.ofNat (Y2 (st)))), .val (.int xx), s13, s14] [])
                  refine Dn.st (fun t q => XS.iloadN X18.here hx rfl (hb hby d3_294) rfl  q) ?_
                  show Dn p e below s _ _ _ T18 (mkF m 295 #[.val (.ref a1), .val (.ref a2), .val (.int x2), .val (.int (32 : Int32)), .val (.int (Nat.toInt32 nn)), .val (.ref b5), .val (.int i6), .val (.int (23 : Int32)), .val (.int (Int32.ofNat (own_sg Hh k))), .val (.ref c2), .val (.int k10), .val (.int (Int32.ofNat (Y2 (st)))), .val (.int xx), s13, s14] [(.int x2)])
                  refine Dn.st (fun t q => XS.iload X18.here hx rfl (hb hby d3_295) rfl  q) ?_
                  show Dn p e below s _ _ _ T18 (mkF m 297 #[.val (.ref a1), .val (.ref a2), .val (.int x2), .val (.int (32 : Int32)), .val (.int (Nat.toInt32 nn)), .val (.ref b5), .val (.int i6), .val (.int (23 : Int32)), .val (.int (Int32.ofNat (own_sg Hh k))), .val (.ref c2), .val (.int k10), .val (.int (Int32.ofNat (Y2 (st)))), .val (.int xx), s13, s14] [(.int xx), (.int x2)])
                  obtain ⟨_, _, ⟨T19, Lq19, kq_19, nq_19⟩, -, X19, ⟨Lc19, hQ19, lq19, yq19, zq19⟩, st19⟩ := Jvm.LawKit.callS X18 hx (y := (⟨"keyfold/ZstdBits", "highBit", "(I)I"⟩ : MethodName)) hown (mvT hZ (hw _ (List.mem_of_getElem? (i := 39) rfl))) (mvT hZ (hw _ (List.mem_of_getElem? (i := 40) rfl))) (mvT hZ (hw _ (List.mem_of_getElem? (i := 41) rfl))) (mvT hZ (hw _ (List.mem_of_getElem? (i := 42) rfl))) (by decide) (backOf (W := 1) (rm5 l Z a0 hw [] xx  h18 n0 Z0 ) hZ (hw _ (List.mem_of_getElem? (i := 42) rfl)) (hw _ (List.mem_of_getElem? (i := 41) rfl)) (by decide) (by decide)) (g := (mkF m 297 #[.val (.ref a1), .val (.ref a2), .val (.int x2), .val (.int (32 : Int32)), .val (.int (Nat.toInt32 nn)), .val (.ref b5), .val (.int i6), .val (.int (23 : Int32)), .val (.int (Int32.ofNat (own_sg Hh k))), .val (.ref c2), .val (.int k10), .val (.int (Int32.ofNat (Y2 (st)))), .val (.int xx), s13, s14] [(.int xx), (.int x2)])) rfl (by rw [hml]; rfl) (argsL := [(.int xx)]) (rest := [(.int x2)]) (lenOf pd_0 rfl) rfl (by show 2 * 0 + _ ≤ _; exact Nat.le_of_eq rfl) (hb hby d3_297) (fun _ _ => ⟨rfl, e18, (by decide : 7 + 0 ≤ _), (by decide : 116 + 0 ≤ _)⟩)
                  dsimp only [Pt.U, Pt.locs, Pt.cells, Pt.slots] at X19 lq19 yq19 zq19 st19 hQ19
                  subst lq19 yq19 zq19
                  obtain ⟨rfl, N19q, hq19⟩ := hQ19
                  have N0 := Fr.app N0 N19q
                  have e19 : T19.heap = h18 := hq19
                  refine Dn.st st19 ?_
                  show Dn p e below s _ _ _ T19 (mkF m 300 #[.val (.ref a1), .val (.ref a2), .val (.int x2), .val (.int (32 : Int32)), .val (.int (Nat.toInt32 nn)), .val (.ref b5), .val (.int i6), .val (.int (23 : Int32)), .val (.int (Int32.ofNat (own_sg Hh k))), .val (.ref c2), .val (.int k10), .val (.int (Int32.ofNat (Y2 (st)))), .val (.int xx), s13, s14] [(.int ((31 : Int32) - (own_nlz xx))), (.int x2)])
                  refine Dn.st (fun t q => XS.isub X19.here hx rfl (hb hby d3_300) rfl q) ?_
                  show Dn p e below s _ _ _ T19 (mkF m 301 #[.val (.ref a1), .val (.ref a2), .val (.int x2), .val (.int (32 : Int32)), .val (.int (Nat.toInt32 nn)), .val (.ref b5), .val (.int i6), .val (.int (23 : Int32)), .val (.int (Int32.ofNat (own_sg Hh k))), .val (.ref c2), .val (.int k10), .val (.int (Int32.ofNat (Y2 (st)))), .val (.int xx), s13, s14] [(.int (x2 - ((31 : Int32) - (own_nlz xx))))])
                  refine Dn.st (fun t q => XS.istore X19.here hx rfl (hb hby d3_301) rfl (l' := #[.val (.ref a1), .val (.ref a2), .val (.int x2), .val (.int (32 : Int32)), .val (.int (Nat.toInt32 nn)), .val (.ref b5), .val (.int i6), .val (.int (23 : Int32)), .val (.int (Int32.ofNat (own_sg Hh k))), .val (.ref c2), .val (.int k10), .val (.int (Int32.ofNat (Y2 (st)))), .val (.int xx), .val (.int (x2 - ((31 : Int32) - (own_nlz xx)))), s14]) (XS.store1 (o := s13) rfl hs13 rfl) q) ?_
                  show Dn p e below s _ _ _ T19 (mkF m 303 #[.val (.ref a1), .val (.ref a2), .val (.int x2), .val (.int (32 : Int32)), .val (.int (Nat.toInt32 nn)), .val (.ref b5), .val (.int i6), .val (.int (23 : Int32)), .val (.int (Int32.ofNat (own_sg Hh k))), .val (.ref c2), .val (.int k10), .val (.int (Int32.ofNat (Y2 (st)))), .val (.int xx), .val (.int (x2 - ((31 : Int32) - (own_nlz xx)))), s14] [])
                  refine Dn.st (fun t q => XS.iload X19.here hx rfl (hb hby d3_303) rfl  q) ?_
                  show Dn p e below s _ _ _ T19 (mkF m 305 #[.val (.ref a1), .val (.ref a2), .val (.int x2), .val (.int (32 : Int32)), .val (.int (Nat.toInt32 nn)), .val (.ref b5), .val (.int i6), .val (.int (23 : Int32)), .val (.int (Int32.ofNat (own_sg Hh k))), .val (.ref c2), .val (.int k10), .val (.int (Int32.ofNat (Y2 (st)))), .val (.int xx), .val (.int (x2 - ((31 : Int32) - (own_nlz xx)))), s14] [(.int xx)])
                  refine Dn.st (fun t q => XS.iload X19.here hx rfl (hb hby d3_305) rfl  q) ?_
                  show Dn p e below s _ _ _ T19 (mkF m 307 #[.val (.ref a1), .val (.ref a2), .val (.int x2), .val (.int (32 : Int32)), .val (.int (Nat.toInt32 nn)), .val (.ref b5), .val (.int i6), .val (.int (23 : Int32)), .val (.int (Int32.ofNat (own_sg Hh k))), .val (.ref c2), .val (.int k10), .val (.int (Int32.ofNat (Y2 (st)))), .val (.int xx), .val (.int (x2 - ((31 : Int32) - (own_nlz xx)))), s14] [(.int (x2 - ((31 : Int32) - (own_nlz xx)))), (.int xx)])
                  refine Dn.st (fun t q => XS.ishl X19.here hx rfl (hb hby d3_307) rfl q) ?_
                  show Dn p e below s _ _ _ T19 (mkF m 308 #[.val (.ref a1), .val (.ref a2), .val (.int x2), .val (.int (32 : Int32)), .val (.int (Nat.toInt32 nn)), .val (.ref b5), .val (.int i6), .val (.int (23 : Int32)), .val (.int (Int32.ofNat (own_sg Hh k))), .val (.ref c2), .val (.int k10), .val (.int (Int32.ofNat (Y2 (st)))), .val (.int xx), .val (.int (x2 - ((31 : Int32) - (own_nlz xx)))), s14] [(.int (xx <<< ((x2 - ((31 : Int32) - (own_nlz xx))) &&& 31)))])
                  refine Dn.st (fun t q => XS.iloadN X19.here hx rfl (hb hby d3_308) rfl  q) ?_
                  show Dn p e below s _ _ _ T19 (mkF m 309 #[.val (.ref a1), .val (.ref a2), .val (.int x2), .val (.int (32 : Int32)), .val (.int (Nat.toInt32 nn)), .val (.ref b5), .val (.int i6), .val (.int (23 : Int32)), .val (.int (Int32.ofNat (own_sg Hh k))), .val (.ref c2), .val (.int k10), .val (.int (Int32.ofNat (Y2 (st)))), .val (.int xx), .val (.int (x2 - ((31 : Int32) - (own_nlz xx)))), s14] [(.int (32 : Int32)), (.int (xx <<< ((x2 - ((31 : Int32) - (own_nlz xx))) &&& 31)))])
                  refine Dn.st (fun t q => XS.isub X19.here hx rfl (hb hby d3_309) rfl q) ?_
                  show Dn p e below s _ _ _ T19 (mkF m 310 #[.val (.ref a1), .val (.ref a2), .val (.int x2), .val (.int (32 : Int32)), .val (.int (Nat.toInt32 nn)), .val (.ref b5), .val (.int i6), .val (.int (23 : Int32)), .val (.int (Int32.ofNat (own_sg Hh k))), .val (.ref c2), .val (.int k10), .val (.int (Int32.ofNat (Y2 (st)))), .val (.int xx), .val (.int (x2 - ((31 : Int32) - (own_nlz xx)))), s14] [(.int ((xx <<< ((x2 - ((31 : Int32) - (own_nlz xx))) &&& 31)) - (32 : Int32)))])
                  refine Dn.st (fun t q => XS.istore X19.here hx rfl (hb hby d3_310) rfl (l' := #[.val (.ref a1), .val (.ref a2), .val (.int x2), .val (.int (32 : Int32)), .val (.int (Nat.toInt32 nn)), .val (.ref b5), .val (.int i6), .val (.int (23 : Int32)), .val (.int (Int32.ofNat (own_sg Hh k))), .val (.ref c2), .val (.int k10), .val (.int (Int32.ofNat (Y2 (st)))), .val (.int xx), .val (.int (x2 - ((31 : Int32) - (own_nlz xx)))), .val (.int ((xx <<< ((x2 - ((31 : Int32) - (own_nlz xx))) &&& 31)) - (32 : Int32)))]) (XS.store1 (o := s14) rfl hs14 rfl) q) ?_
                  show Dn p e below s _ _ _ T19 (mkF m 312 #[.val (.ref a1), .val (.ref a2), .val (.int x2), .val (.int (32 : Int32)), .val (.int (Nat.toInt32 nn)), .val (.ref b5), .val (.int i6), .val (.int (23 : Int32)), .val (.int (Int32.ofNat (own_sg Hh k))), .val (.ref c2), .val (.int k10), .val (.int (Int32.ofNat (Y2 (st)))), .val (.int xx), .val (.int (x2 - ((31 : Int32) - (own_nlz xx)))), .val (.int ((xx <<< ((x2 - ((31 : Int32) - (own_nlz xx))) &&& 31)) - (32 : Int32)))] [])
                  refine Dn.st (fun t q => XS.aloadN X19.here hx rfl (hb hby d3_312) rfl rfl  q) ?_
                  show Dn p e below s _ _ _ T19 (mkF m 313 #[.val (.ref a1), .val (.ref a2), .val (.int x2), .val (.int (32 : Int32)), .val (.int (Nat.toInt32 nn)), .val (.ref b5), .val (.int i6), .val (.int (23 : Int32)), .val (.int (Int32.ofNat (own_sg Hh k))), .val (.ref c2), .val (.int k10), .val (.int (Int32.ofNat (Y2 (st)))), .val (.int xx), .val (.int (x2 - ((31 : Int32) - (own_nlz xx)))), .val (.int ((xx <<< ((x2 - ((31 : Int32) - (own_nlz xx))) &&& 31)) - (32 : Int32)))] [(.ref a1)])
                  obtain ⟨T20, X20, e20, st20⟩ := getF X19 hx hZ hown (host := "") (Or.inl (hw _ (List.mem_of_getElem? (i := 37) rfl))) Via.refl e19 F_states (g := (mkF m 313 #[.val (.ref a1), .val (.ref a2), .val (.int x2), .val (.int (32 : Int32)), .val (.int (Nat.toInt32 nn)), .val (.ref b5), .val (.int i6), .val (.int (23 : Int32)), .val (.int (Int32.ofNat (own_sg Hh k))), .val (.ref c2), .val (.int k10), .val (.int (Int32.ofNat (Y2 (st)))), .val (.int xx), .val (.int (x2 - ((31 : Int32) - (own_nlz xx)))), .val (.int ((xx <<< ((x2 - ((31 : Int32) - (own_nlz xx))) &&& 31)) - (32 : Int32)))] [(.ref a1)])) rfl rfl (hb hby d3_313)
                  refine Dn.st st20 ?_
                  show Dn p e below s _ _ _ T20 (mkF m 316 #[.val (.ref a1), .val (.ref a2), .val (.int x2), .val (.int (32 : Int32)), .val (.int (Nat.toInt32 nn)), .val (.ref b5), .val (.int i6), .val (.int (23 : Int32)), .val (.int (Int32.ofNat (own_sg Hh k))), .val (.ref c2), .val (.int k10), .val (.int (Int32.ofNat (Y2 (st)))), .val (.int xx), .val (.int (x2 - ((31 : Int32) - (own_nlz xx)))), .val (.int ((xx <<< ((x2 - ((31 : Int32) - (own_nlz xx))) &&& 31)) - (32 : Int32)))] [(.ref bs)])
                  refine Dn.st (fun t q => XS.iload X20.here hx rfl (hb hby d3_316) rfl  q) ?_
                  show Dn p e below s _ _ _ T20 (mkF m 318 #[.val (.ref a1), .val (.ref a2), .val (.int x2), .val (.int (32 : Int32)), .val (.int (Nat.toInt32 nn)), .val (.ref b5), .val (.int i6), .val (.int (23 : Int32)), .val (.int (Int32.ofNat (own_sg Hh k))), .val (.ref c2), .val (.int k10), .val (.int (Int32.ofNat (Y2 (st)))), .val (.int xx), .val (.int (x2 - ((31 : Int32) - (own_nlz xx)))), .val (.int ((xx <<< ((x2 - ((31 : Int32) - (own_nlz xx))) &&& 31)) - (32 : Int32)))] [(.int k10), (.ref bs)])
                  refine Dn.st (fun t q => XS.iload X20.here hx rfl (hb hby d3_318) rfl  q) ?_
                  show Dn p e below s _ _ _ T20 (mkF m 320 #[.val (.ref a1), .val (.ref a2), .val (.int x2), .val (.int (32 : Int32)), .val (.int (Nat.toInt32 nn)), .val (.ref b5), .val (.int i6), .val (.int (23 : Int32)), .val (.int (Int32.ofNat (own_sg Hh k))), .val (.ref c2), .val (.int k10), .val (.int (Int32.ofNat (Y2 (st)))), .val (.int xx), .val (.int (x2 - ((31 : Int32) - (own_nlz xx)))), .val (.int ((xx <<< ((x2 - ((31 : Int32) - (own_nlz xx))) &&& 31)) - (32 : Int32)))] [(.int (Int32.ofNat (Y2 (st)))), (.int k10), (.ref bs)])
                  refine Dn.st (fun t q => XS.iload X20.here hx rfl (hb hby d3_320) rfl  q) ?_
                  show Dn p e below s _ _ _ T20 (mkF m 322 #[.val (.ref a1), .val (.ref a2), .val (.int x2), .val (.int (32 : Int32)), .val (.int (Nat.toInt32 nn)), .val (.ref b5), .val (.int i6), .val (.int (23 : Int32)), .val (.int (Int32.ofNat (own_sg Hh k))), .val (.ref c2), .val (.int k10), .val (.int (Int32.ofNat (Y2 (st)))), .val (.int xx), .val (.int (x2 - ((31 : Int32) - (own_nlz xx)))), .val (.int ((xx <<< ((x2 - ((31 : Int32) - (own_nlz xx))) &&& 31)) - (32 : Int32)))] [(.int (x2 - ((31 : Int32) - (own_nlz xx)))), (.int (Int32.ofNat (Y2 (st)))), (.int k10), (.ref bs)])
                  refine Dn.st (fun t q => XS.bipush X20.here hx rfl (hb hby d3_322) q) ?_
                  show Dn p e below s _ _ _ T20 (mkF m 324 #[.val (.ref a1), .val (.ref a2), .val (.int x2), .val (.int (32 : Int32)), .val (.int (Nat.toInt32 nn)), .val (.ref b5), .val (.int i6), .val (.int (23 : Int32)), .val (.int (Int32.ofNat (own_sg Hh k))), .val (.ref c2), .val (.int k10), .val (.int (Int32.ofNat (Y2 (st)))), .val (.int xx), .val (.int (x2 - ((31 : Int32) - (own_nlz xx)))), .val (.int ((xx <<< ((x2 - ((31 : Int32) - (own_nlz xx))) &&& 31)) - (32 : Int32)))] [(.int (8 : Int32)), (.int (x2 - ((31 : Int32) - (own_nlz xx)))), (.int (Int32.ofNat (Y2 (st)))), (.int k10), (.ref bs)])
                  refine Dn.st (fun t q => XS.ishl X20.here hx rfl (hb hby d3_324) rfl q) ?_
                  show Dn p e below s _ _ _ T20 (mkF m 325 #[.val (.ref a1), .val (.ref a2), .val (.int x2), .val (.int (32 : Int32)), .val (.int (Nat.toInt32 nn)), .val (.ref b5), .val (.int i6), .val (.int (23 : Int32)), .val (.int (Int32.ofNat (own_sg Hh k))), .val (.ref c2), .val (.int k10), .val (.int (Int32.ofNat (Y2 (st)))), .val (.int xx), .val (.int (x2 - ((31 : Int32) - (own_nlz xx)))), .val (.int ((xx <<< ((x2 - ((31 : Int32) - (own_nlz xx))) &&& 31)) - (32 : Int32)))] [(.int ((x2 - ((31 : Int32) - (own_nlz xx))) <<< ((8 : Int32) &&& 31))), (.int (Int32.ofNat (Y2 (st)))), (.int k10), (.ref bs)])
                  refine Dn.st (fun t q => XS.ior X20.here hx rfl (hb hby d3_325) rfl q) ?_
                  show Dn p e below s _ _ _ T20 (mkF m 326 #[.val (.ref a1), .val (.ref a2), .val (.int x2), .val (.int (32 : Int32)), .val (.int (Nat.toInt32 nn)), .val (.ref b5), .val (.int i6), .val (.int (23 : Int32)), .val (.int (Int32.ofNat (own_sg Hh k))), .val (.ref c2), .val (.int k10), .val (.int (Int32.ofNat (Y2 (st)))), .val (.int xx), .val (.int (x2 - ((31 : Int32) - (own_nlz xx)))), .val (.int ((xx <<< ((x2 - ((31 : Int32) - (own_nlz xx))) &&& 31)) - (32 : Int32)))] [(.int ((Int32.ofNat (Y2 (st))) ||| ((x2 - ((31 : Int32) - (own_nlz xx))) <<< ((8 : Int32) &&& 31)))), (.int k10), (.ref bs)])
                  refine Dn.st (fun t q => XS.iload X20.here hx rfl (hb hby d3_326) rfl  q) ?_
                  show Dn p e below s _ _ _ T20 (mkF m 328 #[.val (.ref a1), .val (.ref a2), .val (.int x2), .val (.int (32 : Int32)), .val (.int (Nat.toInt32 nn)), .val (.ref b5), .val (.int i6), .val (.int (23 : Int32)), .val (.int (Int32.ofNat (own_sg Hh k))), .val (.ref c2), .val (.int k10), .val (.int (Int32.ofNat (Y2 (st)))), .val (.int xx), .val (.int (x2 - ((31 : Int32) - (own_nlz xx)))), .val (.int ((xx <<< ((x2 - ((31 : Int32) - (own_nlz xx))) &&& 31)) - (32 : Int32)))] [(.int ((xx <<< ((x2 - ((31 : Int32) - (own_nlz xx))) &&& 31)) - (32 : Int32))), (.int ((Int32.ofNat (Y2 (st))) ||| ((x2 - ((31 : Int32) - (own_nlz xx))) <<< ((8 : Int32) &&& 31)))), (.int k10), (.ref bs)])
                  refine Dn.st (fun t q => XS.bipush X20.here hx rfl (hb hby d3_328) q) ?_
                  show Dn p e below s _ _ _ T20 (mkF m 330 #[.val (.ref a1), .val (.ref a2), .val (.int x2), .val (.int (32 : Int32)), .val (.int (Nat.toInt32 nn)), .val (.ref b5), .val (.int i6), .val (.int (23 : Int32)), .val (.int (Int32.ofNat (own_sg Hh k))), .val (.ref c2), .val (.int k10), .val (.int (Int32.ofNat (Y2 (st)))), .val (.int xx), .val (.int (x2 - ((31 : Int32) - (own_nlz xx)))), .val (.int ((xx <<< ((x2 - ((31 : Int32) - (own_nlz xx))) &&& 31)) - (32 : Int32)))] [(.int (16 : Int32)), (.int ((xx <<< ((x2 - ((31 : Int32) - (own_nlz xx))) &&& 31)) - (32 : Int32))), (.int ((Int32.ofNat (Y2 (st))) ||| ((x2 - ((31 : Int32) - (own_nlz xx))) <<< ((8 : Int32) &&& 31)))), (.int k10), (.ref bs)])
                  refine Dn.st (fun t q => XS.ishl X20.here hx rfl (hb hby d3_330) rfl q) ?_
                  show Dn p e below s _ _ _ T20 (mkF m 331 #[.val (.ref a1), .val (.ref a2), .val (.int x2), .val (.int (32 : Int32)), .val (.int (Nat.toInt32 nn)), .val (.ref b5), .val (.int i6), .val (.int (23 : Int32)), .val (.int (Int32.ofNat (own_sg Hh k))), .val (.ref c2), .val (.int k10), .val (.int (Int32.ofNat (Y2 (st)))), .val (.int xx), .val (.int (x2 - ((31 : Int32) - (own_nlz xx)))), .val (.int ((xx <<< ((x2 - ((31 : Int32) - (own_nlz xx))) &&& 31)) - (32 : Int32)))] [(.int (((xx <<< ((x2 - ((31 : Int32) - (own_nlz xx))) &&& 31)) - (32 : Int32)) <<< ((16 : Int32) &&& 31))), (.int ((Int32.ofNat (Y2 (st))) ||| ((x2 - ((31 : Int32) - (own_nlz xx))) <<< ((8 : Int32) &&& 31)))), (.int k10), (.ref bs)])
                  refine Dn.st (fun t q => XS.ior X20.here hx rfl (hb hby d3_331) rfl q) ?_
                  show Dn p e below s _ _ _ T20 (mkF m 332 #[.val (.ref a1), .val (.ref a2), .val (.int x2), .val (.int (32 : Int32)), .val (.int (Nat.toInt32 nn)), .val (.ref b5), .val (.int i6), .val (.int (23 : Int32)), .val (.int (Int32.ofNat (own_sg Hh k))), .val (.ref c2), .val (.int k10), .val (.int (Int32.ofNat (Y2 (st)))), .val (.int xx), .val (.int (x2 - ((31 : Int32) - (own_nlz xx)))), .val (.int ((xx <<< ((x2 - ((31 : Int32) - (own_nlz xx))) &&& 31)) - (32 : Int32)))] [(.int (((Int32.ofNat (Y2 (st))) ||| ((x2 - ((31 : Int32) - (own_nlz xx))) <<< ((8 : Int32) &&& 31))) ||| (((xx <<< ((x2 - ((31 : Int32) - (own_nlz xx))) &&& 31)) - (32 : Int32)) <<< ((16 : Int32) &&& 31)))), (.int k10), (.ref bs)])
                  generalize hvv : (((Int32.ofNat (Y2 (st))) ||| ((x2 - ((31 : Int32) - (own_nlz xx))) <<< ((8 : Int32) &&& 31))) ||| (((xx <<< ((x2 - ((31 : Int32) - (own_nlz xx))) &&& 31)) - (32 : Int32)) <<< ((16 : Int32) &&& 31))) = vv
                  show Dn p e below s _ _ _ T20 (mkF m 332 #[.val (.ref a1), .val (.ref a2), .val (.int x2), .val (.int (32 : Int32)), .val (.int (Nat.toInt32 nn)), .val (.ref b5), .val (.int i6), .val (.int (23 : Int32)), .val (.int (Int32.ofNat (own_sg Hh k))), .val (.ref c2), .val (.int k10), .val (.int (Int32.ofNat (Y2 (st)))), .val (.int xx), .val (.int (x2 - ((31 : Int32) - (own_nlz xx)))), .val (.int ((xx <<< ((x2 - ((31 : Int32) - (own_nlz xx))) &&& 31)) - (32 : Int32)))] [(.int vv), (.int k10), (.ref bs)])
                  obtain ⟨T21, h21, X21, e21, W21, B21, st21⟩ := aStoI X20 hx hZ e20 A_bs (i := st) g10 hst (g := (mkF m 332 #[.val (.ref a1), .val (.ref a2), .val (.int x2), .val (.int (32 : Int32)), .val (.int (Nat.toInt32 nn)), .val (.ref b5), .val (.int i6), .val (.int (23 : Int32)), .val (.int (Int32.ofNat (own_sg Hh k))), .val (.ref c2), .val (.int k10), .val (.int (Int32.ofNat (Y2 (st)))), .val (.int xx), .val (.int (x2 - ((31 : Int32) - (own_nlz xx)))), .val (.int ((xx <<< ((x2 - ((31 : Int32) - (own_nlz xx))) &&& 31)) - (32 : Int32)))] [(.int vv), (.int k10), (.ref bs)])) rfl rfl (hb hby d3_332)
                  have N0 := Fr.snoc X21 N0 g_bs
                  have Z0 := Nat.le_trans Z0 (Keep.of_wr W21).1
                  have K0 := K0.wr W21 (Or.inr sz_bs)
                  have E_a1 := E_a1.wr W21
                  have F_counts := F_counts.other W21 (Or.inl ne_a1_bs)
                  have F_first := F_first.other W21 (Or.inl ne_a1_bs)
                  have F_byState := F_byState.other W21 (Or.inl ne_a1_bs)
                  have F_states := F_states.other W21 (Or.inl ne_a1_bs)
                  have A_b5 := A_b5.other W21 ne_b5_bs
                  have A_bc := A_bc.other W21 ne_bc_bs
                  have A_bf := A_bf.other W21 ne_bf_bs
                  have A_bb := A_bb.other W21 ne_bb_bs
                  have A_c2 := A_c2.other W21 (Ne.symm ne_bs_c2)
                  have A_bs : Ary Z h21 bs .int 32 (fun x => .int (if x = st then vv else ut x)) := B21.congr (fun j _ => own_ite)
                  refine Dn.st st21 ?_
                  show Dn p e below s _ _ _ T21 (mkF m 333 #[.val (.ref a1), .val (.ref a2), .val (.int x2), .val (.int (32 : Int32)), .val (.int (Nat.toInt32 nn)), .val (.ref b5), .val (.int i6), .val (.int (23 : Int32)), .val (.int (Int32.ofNat (own_sg Hh k))), .val (.ref c2), .val (.int k10), .val (.int (Int32.ofNat (Y2 (st)))), .val (.int xx), .val (.int (x2 - ((31 : Int32) - (own_nlz xx)))), .val (.int ((xx <<< ((x2 - ((31 : Int32) - (own_nlz xx))) &&& 31)) - (32 : Int32)))] [])
                  refine Dn.st (fun t q => XS.aloadN X21.here hx rfl (hb hby d3_333) rfl rfl  q) ?_
                  show Dn p e below s _ _ _ T21 (mkF m 334 #[.val (.ref a1), .val (.ref a2), .val (.int x2), .val (.int (32 : Int32)), .val (.int (Nat.toInt32 nn)), .val (.ref b5), .val (.int i6), .val (.int (23 : Int32)), .val (.int (Int32.ofNat (own_sg Hh k))), .val (.ref c2), .val (.int k10), .val (.int (Int32.ofNat (Y2 (st)))), .val (.int xx), .val (.int (x2 - ((31 : Int32) - (own_nlz xx)))), .val (.int ((xx <<< ((x2 - ((31 : Int32) - (own_nlz xx))) &&& 31)) - (32 : Int32)))] [(.ref a1)])
                  obtain ⟨T22, X22, e22, st22⟩ := getF X21 hx hZ hown (host := "") (Or.inl (hw _ (List.mem_of_getElem? (i := 35) rfl))) Via.refl e21 F_byState (g := (mkF m 334 #[.val (.ref a1), .val (.ref a2), .val (.int x2), .val (.int (32 : Int32)), .val (.int (Nat.toInt32 nn)), .val (.ref b5), .val (.int i6), .val (.int (23 : Int32)), .val (.int (Int32.ofNat (own_sg Hh k))), .val (.ref c2), .val (.int k10), .val (.int (Int32.ofNat (Y2 (st)))), .val (.int xx), .val (.int (x2 - ((31 : Int32) - (own_nlz xx)))), .val (.int ((xx <<< ((x2 - ((31 : Int32) - (own_nlz xx))) &&& 31)) - (32 : Int32)))] [(.ref a1)])) rfl rfl (hb hby d3_334)
                  refine Dn.st st22 ?_
                  show Dn p e below s _ _ _ T22 (mkF m 337 #[.val (.ref a1), .val (.ref a2), .val (.int x2), .val (.int (32 : Int32)), .val (.int (Nat.toInt32 nn)), .val (.ref b5), .val (.int i6), .val (.int (23 : Int32)), .val (.int (Int32.ofNat (own_sg Hh k))), .val (.ref c2), .val (.int k10), .val (.int (Int32.ofNat (Y2 (st)))), .val (.int xx), .val (.int (x2 - ((31 : Int32) - (own_nlz xx)))), .val (.int ((xx <<< ((x2 - ((31 : Int32) - (own_nlz xx))) &&& 31)) - (32 : Int32)))] [(.ref bb)])
                  refine Dn.st (fun t q => XS.aloadN X22.here hx rfl (hb hby d3_337) rfl rfl  q) ?_
                  show Dn p e below s _ _ _ T22 (mkF m 338 #[.val (.ref a1), .val (.ref a2), .val (.int x2), .val (.int (32 : Int32)), .val (.int (Nat.toInt32 nn)), .val (.ref b5), .val (.int i6), .val (.int (23 : Int32)), .val (.int (Int32.ofNat (own_sg Hh k))), .val (.ref c2), .val (.int k10), .val (.int (Int32.ofNat (Y2 (st)))), .val (.int xx), .val (.int (x2 - ((31 : Int32) - (own_nlz xx)))), .val (.int ((xx <<< ((x2 - ((31 : Int32) - (own_nlz xx))) &&& 31)) - (32 : Int32)))] [(.ref a1), (.ref bb)])
                  obtain ⟨T23, X23, e23, st23⟩ := getF X22 hx hZ hown (host := "") (Or.inl (hw _ (List.mem_of_getElem? (i := 33) rfl))) Via.refl e22 F_first (g := (mkF m 338 #[.val (.ref a1), .val (.ref a2), .val (.int x2), .val (.int (32 : Int32)), .val (.int (Nat.toInt32 nn)), .val (.ref b5), .val (.int i6), .val (.int (23 : Int32)), .val (.int (Int32.ofNat (own_sg Hh k))), .val (.ref c2), .val (.int k10), .val (.int (Int32.ofNat (Y2 (st)))), .val (.int xx), .val (.int (x2 - ((31 : Int32) - (own_nlz xx)))), .val (.int ((xx <<< ((x2 - ((31 : Int32) - (own_nlz xx))) &&& 31)) - (32 : Int32)))] [(.ref a1), (.ref bb)])) rfl rfl (hb hby d3_338)
                  refine Dn.st st23 ?_
                  show Dn p e below s _ _ _ T23 (mkF m 341 #[.val (.ref a1), .val (.ref a2), .val (.int x2), .val (.int (32 : Int32)), .val (.int (Nat.toInt32 nn)), .val (.ref b5), .val (.int i6), .val (.int (23 : Int32)), .val (.int (Int32.ofNat (own_sg Hh k))), .val (.ref c2), .val (.int k10), .val (.int (Int32.ofNat (Y2 (st)))), .val (.int xx), .val (.int (x2 - ((31 : Int32) - (own_nlz xx)))), .val (.int ((xx <<< ((x2 - ((31 : Int32) - (own_nlz xx))) &&& 31)) - (32 : Int32)))] [(.ref bf), (.ref bb)])
                  refine Dn.st (fun t q => XS.iload X23.here hx rfl (hb hby d3_341) rfl  q) ?_
                  show Dn p e below s _ _ _ T23 (mkF m 343 #[.val (.ref a1), .val (.ref a2), .val (.int x2), .val (.int (32 : Int32)), .val (.int (Nat.toInt32 nn)), .val (.ref b5), .val (.int i6), .val (.int (23 : Int32)), .val (.int (Int32.ofNat (own_sg Hh k))), .val (.ref c2), .val (.int k10), .val (.int (Int32.ofNat (Y2 (st)))), .val (.int xx), .val (.int (x2 - ((31 : Int32) - (own_nlz xx)))), .val (.int ((xx <<< ((x2 - ((31 : Int32) - (own_nlz xx))) &&& 31)) - (32 : Int32)))] [(.int (Int32.ofNat (Y2 (st)))), (.ref bf), (.ref bb)])
                  refine Dn.st (aLoadI (w := (fun x => (Int32.ofNat (own_F P x)))) X23 hx hZ e23 A_bf (i := (Y2 st)) (own_toN (by omega)) hyn (g := (mkF m 343 #[.val (.ref a1), .val (.ref a2), .val (.int x2), .val (.int (32 : Int32)), .val (.int (Nat.toInt32 nn)), .val (.ref b5), .val (.int i6), .val (.int (23 : Int32)), .val (.int (Int32.ofNat (own_sg Hh k))), .val (.ref c2), .val (.int k10), .val (.int (Int32.ofNat (Y2 (st)))), .val (.int xx), .val (.int (x2 - ((31 : Int32) - (own_nlz xx)))), .val (.int ((xx <<< ((x2 - ((31 : Int32) - (own_nlz xx))) &&& 31)) - (32 : Int32)))] [(.int (Int32.ofNat (Y2 (st)))), (.ref bf), (.ref bb)])) rfl rfl (hb hby d3_343)) ?_
                  show Dn p e below s _ _ _ T23 (mkF m 344 #[.val (.ref a1), .val (.ref a2), .val (.int x2), .val (.int (32 : Int32)), .val (.int (Nat.toInt32 nn)), .val (.ref b5), .val (.int i6), .val (.int (23 : Int32)), .val (.int (Int32.ofNat (own_sg Hh k))), .val (.ref c2), .val (.int k10), .val (.int (Int32.ofNat (Y2 (st)))), .val (.int xx), .val (.int (x2 - ((31 : Int32) - (own_nlz xx)))), .val (.int ((xx <<< ((x2 - ((31 : Int32) - (own_nlz xx))) &&& 31)) - (32 : Int32)))] [(.int (Int32.ofNat (own_F P ((Y2 st))))), (.ref bb)])
                  refine Dn.st (fun t q => XS.iload X23.here hx rfl (hb hby d3_344) rfl  q) ?_
                  show Dn p e below s _ _ _ T23 (mkF m 346 #[.val (.ref a1), .val (.ref a2), .val (.int x2), .val (.int (32 : Int32)), .val (.int (Nat.toInt32 nn)), .val (.ref b5), .val (.int i6), .val (.int (23 : Int32)), .val (.int (Int32.ofNat (own_sg Hh k))), .val (.ref c2), .val (.int k10), .val (.int (Int32.ofNat (Y2 (st)))), .val (.int xx), .val (.int (x2 - ((31 : Int32) - (own_nlz xx)))), .val (.int ((xx <<< ((x2 - ((31 : Int32) - (own_nlz xx))) &&& 31)) - (32 : Int32)))] [(.int xx), (.int (Int32.ofNat (own_F P ((Y2 st))))), (.ref bb)])
                  refine Dn.st (fun t q => XS.iadd X23.here hx rfl (hb hby d3_346) rfl q) ?_
                  show Dn p e below s _ _ _ T23 (mkF m 347 #[.val (.ref a1), .val (.ref a2), .val (.int x2), .val (.int (32 : Int32)), .val (.int (Nat.toInt32 nn)), .val (.ref b5), .val (.int i6), .val (.int (23 : Int32)), .val (.int (Int32.ofNat (own_sg Hh k))), .val (.ref c2), .val (.int k10), .val (.int (Int32.ofNat (Y2 (st)))), .val (.int xx), .val (.int (x2 - ((31 : Int32) - (own_nlz xx)))), .val (.int ((xx <<< ((x2 - ((31 : Int32) - (own_nlz xx))) &&& 31)) - (32 : Int32)))] [(.int ((Int32.ofNat (own_F P ((Y2 st)))) + xx)), (.ref bb)])
                  refine Dn.st (fun t q => XS.aloadN X23.here hx rfl (hb hby d3_347) rfl rfl  q) ?_
                  show Dn p e below s _ _ _ T23 (mkF m 348 #[.val (.ref a1), .val (.ref a2), .val (.int x2), .val (.int (32 : Int32)), .val (.int (Nat.toInt32 nn)), .val (.ref b5), .val (.int i6), .val (.int (23 : Int32)), .val (.int (Int32.ofNat (own_sg Hh k))), .val (.ref c2), .val (.int k10), .val (.int (Int32.ofNat (Y2 (st)))), .val (.int xx), .val (.int (x2 - ((31 : Int32) - (own_nlz xx)))), .val (.int ((xx <<< ((x2 - ((31 : Int32) - (own_nlz xx))) &&& 31)) - (32 : Int32)))] [(.ref a1), (.int ((Int32.ofNat (own_F P ((Y2 st)))) + xx)), (.ref bb)])
                  obtain ⟨T24, X24, e24, st24⟩ := getF X23 hx hZ hown (host := "") (Or.inl (hw _ (List.mem_of_getElem? (i := 31) rfl))) Via.refl e23 F_counts (g := (mkF m 348 #[.val (.ref a1), .val (.ref a2), .val (.int x2), .val (.int (32 : Int32)), .val (.int (Nat.toInt32 nn)), .val (.ref b5), .val (.int i6), .val (.int (23 : Int32)), .val (.int (Int32.ofNat (own_sg Hh k))), .val (.ref c2), .val (.int k10), .val (.int (Int32.ofNat (Y2 (st)))), .val (.int xx), .val (.int (x2 - ((31 : Int32) - (own_nlz xx)))), .val (.int ((xx <<< ((x2 - ((31 : Int32) - (own_nlz xx))) &&& 31)) - (32 : Int32)))] [(.ref a1), (.int ((Int32.ofNat (own_F P ((Y2 st)))) + xx)), (.ref bb)])) rfl rfl (hb hby d3_348)
                  refine Dn.st st24 ?_
                  show Dn p e below s _ _ _ T24 (mkF m 351 #[.val (.ref a1), .val (.ref a2), .val (.int x2), .val (.int (32 : Int32)), .val (.int (Nat.toInt32 nn)), .val (.ref b5), .val (.int i6), .val (.int (23 : Int32)), .val (.int (Int32.ofNat (own_sg Hh k))), .val (.ref c2), .val (.int k10), .val (.int (Int32.ofNat (Y2 (st)))), .val (.int xx), .val (.int (x2 - ((31 : Int32) - (own_nlz xx)))), .val (.int ((xx <<< ((x2 - ((31 : Int32) - (own_nlz xx))) &&& 31)) - (32 : Int32)))] [(.ref bc), (.int ((Int32.ofNat (own_F P ((Y2 st)))) + xx)), (.ref bb)])
                  refine Dn.st (fun t q => XS.iload X24.here hx rfl (hb hby d3_351) rfl  q) ?_
                  show Dn p e below s _ _ _ T24 (mkF m 353 #[.val (.ref a1), .val (.ref a2), .val (.int x2), .val (.int (32 : Int32)), .val (.int (Nat.toInt32 nn)), .val (.ref b5), .val (.int i6), .val (.int (23 : Int32)), .val (.int (Int32.ofNat (own_sg Hh k))), .val (.ref c2), .val (.int k10), .val (.int (Int32.ofNat (Y2 (st)))), .val (.int xx), .val (.int (x2 - ((31 : Int32) - (own_nlz xx)))), .val (.int ((xx <<< ((x2 - ((31 : Int32) - (own_nlz xx))) &&& 31)) - (32 : Int32)))] [(.int (Int32.ofNat (Y2 (st)))), (.ref bc), (.int ((Int32.ofNat (own_F P ((Y2 st)))) + xx)), (.ref bb)])
                  refine Dn.st (aLoadI (w := (fun x => (own_cn (P x)))) X24 hx hZ e24 A_bc (i := (Y2 st)) (own_toN (by omega)) hyn (g := (mkF m 353 #[.val (.ref a1), .val (.ref a2), .val (.int x2), .val (.int (32 : Int32)), .val (.int (Nat.toInt32 nn)), .val (.ref b5), .val (.int i6), .val (.int (23 : Int32)), .val (.int (Int32.ofNat (own_sg Hh k))), .val (.ref c2), .val (.int k10), .val (.int (Int32.ofNat (Y2 (st)))), .val (.int xx), .val (.int (x2 - ((31 : Int32) - (own_nlz xx)))), .val (.int ((xx <<< ((x2 - ((31 : Int32) - (own_nlz xx))) &&& 31)) - (32 : Int32)))] [(.int (Int32.ofNat (Y2 (st)))), (.ref bc), (.int ((Int32.ofNat (own_F P ((Y2 st)))) + xx)), (.ref bb)])) rfl rfl (hb hby d3_353)) ?_
                  show Dn p e below s _ _ _ T24 (mkF m 354 #[.val (.ref a1), .val (.ref a2), .val (.int x2), .val (.int (32 : Int32)), .val (.int (Nat.toInt32 nn)), .val (.ref b5), .val (.int i6), .val (.int (23 : Int32)), .val (.int (Int32.ofNat (own_sg Hh k))), .val (.ref c2), .val (.int k10), .val (.int (Int32.ofNat (Y2 (st)))), .val (.int xx), .val (.int (x2 - ((31 : Int32) - (own_nlz xx)))), .val (.int ((xx <<< ((x2 - ((31 : Int32) - (own_nlz xx))) &&& 31)) - (32 : Int32)))] [(.int (own_cn (P ((Y2 st))))), (.int ((Int32.ofNat (own_F P ((Y2 st)))) + xx)), (.ref bb)])
                  refine Dn.st (fun t q => XS.isub X24.here hx rfl (hb hby d3_354) rfl q) ?_
                  show Dn p e below s _ _ _ T24 (mkF m 355 #[.val (.ref a1), .val (.ref a2), .val (.int x2), .val (.int (32 : Int32)), .val (.int (Nat.toInt32 nn)), .val (.ref b5), .val (.int i6), .val (.int (23 : Int32)), .val (.int (Int32.ofNat (own_sg Hh k))), .val (.ref c2), .val (.int k10), .val (.int (Int32.ofNat (Y2 (st)))), .val (.int xx), .val (.int (x2 - ((31 : Int32) - (own_nlz xx)))), .val (.int ((xx <<< ((x2 - ((31 : Int32) - (own_nlz xx))) &&& 31)) - (32 : Int32)))] [(.int (((Int32.ofNat (own_F P ((Y2 st)))) + xx) - (own_cn (P ((Y2 st)))))), (.ref bb)])
                  refine Dn.st (fun t q => XS.iload X24.here hx rfl (hb hby d3_355) rfl  q) ?_
                  show Dn p e below s _ _ _ T24 (mkF m 357 #[.val (.ref a1), .val (.ref a2), .val (.int x2), .val (.int (32 : Int32)), .val (.int (Nat.toInt32 nn)), .val (.ref b5), .val (.int i6), .val (.int (23 : Int32)), .val (.int (Int32.ofNat (own_sg Hh k))), .val (.ref c2), .val (.int k10), .val (.int (Int32.ofNat (Y2 (st)))), .val (.int xx), .val (.int (x2 - ((31 : Int32) - (own_nlz xx)))), .val (.int ((xx <<< ((x2 - ((31 : Int32) - (own_nlz xx))) &&& 31)) - (32 : Int32)))] [(.int k10), (.int (((Int32.ofNat (own_F P ((Y2 st)))) + xx) - (own_cn (P ((Y2 st)))))), (.ref bb)])
                  obtain ⟨T25, h25, X25, e25, W25, B25, st25⟩ := aStoI X24 hx hZ e24 A_bb (i := (own_F P (Y2 st) + own_c Y2 (Y2 st) (List.range st))) (own_bidx hok hY hst hxx) (own_idx hok hY hst) (g := (mkF m 357 #[.val (.ref a1), .val (.ref a2), .val (.int x2), .val (.int (32 : Int32)), .val (.int (Nat.toInt32 nn)), .val (.ref b5), .val (.int i6), .val (.int (23 : Int32)), .val (.int (Int32.ofNat (own_sg Hh k))), .val (.ref c2), .val (.int k10), .val (.int (Int32.ofNat (Y2 (st)))), .val (.int xx), .val (.int (x2 - ((31 : Int32) - (own_nlz xx)))), .val (.int ((xx <<< ((x2 - ((31 : Int32) - (own_nlz xx))) &&& 31)) - (32 : Int32)))] [(.int k10), (.int (((Int32.ofNat (own_F P ((Y2 st)))) + xx) - (own_cn (P ((Y2 st)))))), (.ref bb)])) rfl rfl (hb hby d3_357)
                  have N0 := Fr.snoc X25 N0 g_bb
                  have Z0 := Nat.le_trans Z0 (Keep.of_wr W25).1
                  have K0 := K0.wr W25 (Or.inr sz_bb)
                  have E_a1 := E_a1.wr W25
                  have F_counts := F_counts.other W25 (Or.inl ne_a1_bb)
                  have F_first := F_first.other W25 (Or.inl ne_a1_bb)
                  have F_byState := F_byState.other W25 (Or.inl ne_a1_bb)
                  have F_states := F_states.other W25 (Or.inl ne_a1_bb)
                  have A_b5 := A_b5.other W25 ne_b5_bb
                  have A_bc := A_bc.other W25 ne_bc_bb
                  have A_bf := A_bf.other W25 ne_bf_bb
                  have A_c2 := A_c2.other W25 (Ne.symm ne_bb_c2)
                  have A_bs := A_bs.other W25 (Ne.symm ne_bb_bs)
                  have A_bb : Ary Z h25 bb .int 32 (fun x => .int (if x = (own_F P (Y2 st) + own_c Y2 (Y2 st) (List.range st)) then k10 else ub x)) := B25.congr (fun j _ => own_ite)
                  refine Dn.st st25 ?_
                  show Dn p e below s _ _ _ T25 (mkF m 358 #[.val (.ref a1), .val (.ref a2), .val (.int x2), .val (.int (32 : Int32)), .val (.int (Nat.toInt32 nn)), .val (.ref b5), .val (.int i6), .val (.int (23 : Int32)), .val (.int (Int32.ofNat (own_sg Hh k))), .val (.ref c2), .val (.int k10), .val (.int (Int32.ofNat (Y2 (st)))), .val (.int xx), .val (.int (x2 - ((31 : Int32) - (own_nlz xx)))), .val (.int ((xx <<< ((x2 - ((31 : Int32) - (own_nlz xx))) &&& 31)) - (32 : Int32)))] [])
                  refine Dn.st (fun t q => XS.iinc X25.here hx rfl (hb hby d3_358) rfl (l' := #[.val (.ref a1), .val (.ref a2), .val (.int x2), .val (.int (32 : Int32)), .val (.int (Nat.toInt32 nn)), .val (.ref b5), .val (.int i6), .val (.int (23 : Int32)), .val (.int (Int32.ofNat (own_sg Hh k))), .val (.ref c2), .val (.int (k10 + (1 : Int32))), .val (.int (Int32.ofNat (Y2 (st)))), .val (.int xx), .val (.int (x2 - ((31 : Int32) - (own_nlz xx)))), .val (.int ((xx <<< ((x2 - ((31 : Int32) - (own_nlz xx))) &&& 31)) - (32 : Int32)))]) rfl q) ?_
                  show Dn p e below s _ _ _ T25 (mkF m 361 #[.val (.ref a1), .val (.ref a2), .val (.int x2), .val (.int (32 : Int32)), .val (.int (Nat.toInt32 nn)), .val (.ref b5), .val (.int i6), .val (.int (23 : Int32)), .val (.int (Int32.ofNat (own_sg Hh k))), .val (.ref c2), .val (.int (k10 + (1 : Int32))), .val (.int (Int32.ofNat (Y2 (st)))), .val (.int xx), .val (.int (x2 - ((31 : Int32) - (own_nlz xx)))), .val (.int ((xx <<< ((x2 - ((31 : Int32) - (own_nlz xx))) &&& 31)) - (32 : Int32)))] [])
                  refine Dn.st (fun t q => XS.goto X25.here hx rfl (pc0 := 361) (pc' := 269) rfl (hb hby d3_361) (by decide) (by decide) q) ?_
                  show Dn p e below s _ _ _ T25 (mkF m 269 #[.val (.ref a1), .val (.ref a2), .val (.int x2), .val (.int (32 : Int32)), .val (.int (Nat.toInt32 nn)), .val (.ref b5), .val (.int i6), .val (.int (23 : Int32)), .val (.int (Int32.ofNat (own_sg Hh k))), .val (.ref c2), .val (.int (k10 + (1 : Int32))), .val (.int (Int32.ofNat (Y2 (st)))), .val (.int xx), .val (.int (x2 - ((31 : Int32) - (own_nlz xx)))), .val (.int ((xx <<< ((x2 - ((31 : Int32) - (own_nlz xx))) &&& 31)) - (32 : Int32)))] [])
                  exact ih5 (st + 1) (k10 + (1 : Int32)) (fun x => if x = (own_F P (Y2 st) + own_c Y2 (Y2 st) (List.range st)) then k10 else ub x) (fun x => if x = st then vv else ut x) (.val (.int (Int32.ofNat (Y2 (st))))) (.val (.int xx)) (.val (.int (x2 - ((31 : Int32) - (own_nlz xx))))) (.val (.int ((xx <<< ((x2 - ((31 : Int32) - (own_nlz xx))) &&& 31)) - (32 : Int32)))) _ _ X25 _ e25 N0 Z0 K0 E_a1 F_counts F_first F_byState F_states A_b5 A_bc A_bf A_bb A_bs A_c2 (One.val rfl) (One.val rfl) (One.val rfl) (One.val rfl) (own_ix g10 (i := 1) rfl (by omega)) (by omega)
              exact lp5 32 0 (0 : Int32) (fun _ => (0 : Int32)) (fun _ => (0 : Int32)) .unset .unset .unset .unset _ _ X17 _ e17 N0 Z0 K0 E_a1 F_counts F_first F_byState F_states A_b5 A_bc A_bf A_bb A_bs A_c2 One.u One.u One.u One.u rfl rfl
            | succ r4 ih4 =>
              intro q4 j9 TL lcL XL hL eL N0 Z0 K0 E_a1 F_counts F_first F_byState F_states A_b5 E_bc A_bc A_bf g9 g4
              refine Dn.st (fun t q => XS.iload XL.here hx rfl (hb hby d3_201) rfl  q) ?_
              show Dn p e below s _ _ _ TL (mkF m 203 #[.val (.ref a1), .val (.ref a2), .val (.int x2), .val (.int (32 : Int32)), .val (.int (Nat.toInt32 nn)), .val (.ref b5), .val (.int i6), .val (.int (23 : Int32)), .val (.int (Int32.ofNat (own_sg Hh k))), .val (.int j9), s10, .unset, .unset, .unset, .unset] [(.int j9)])
              refine Dn.st (fun t q => XS.iload XL.here hx rfl (hb hby d3_203) rfl  q) ?_
              show Dn p e below s _ _ _ TL (mkF m 205 #[.val (.ref a1), .val (.ref a2), .val (.int x2), .val (.int (32 : Int32)), .val (.int (Nat.toInt32 nn)), .val (.ref b5), .val (.int i6), .val (.int (23 : Int32)), .val (.int (Int32.ofNat (own_sg Hh k))), .val (.int j9), s10, .unset, .unset, .unset, .unset] [(.int (Nat.toInt32 nn)), (.int j9)])
              refine Dn.st (fun t q => XS.icmpNo XL.here hx rfl (hb hby d3_205) rfl (tlt (own_in hok g9 g4)).2.1 q) ?_
              show Dn p e below s _ _ _ TL (mkF m 208 #[.val (.ref a1), .val (.ref a2), .val (.int x2), .val (.int (32 : Int32)), .val (.int (Nat.toInt32 nn)), .val (.ref b5), .val (.int i6), .val (.int (23 : Int32)), .val (.int (Int32.ofNat (own_sg Hh k))), .val (.int j9), s10, .unset, .unset, .unset, .unset] [])
              refine Dn.st (fun t q => XS.aloadN XL.here hx rfl (hb hby d3_208) rfl rfl  q) ?_
              show Dn p e below s _ _ _ TL (mkF m 209 #[.val (.ref a1), .val (.ref a2), .val (.int x2), .val (.int (32 : Int32)), .val (.int (Nat.toInt32 nn)), .val (.ref b5), .val (.int i6), .val (.int (23 : Int32)), .val (.int (Int32.ofNat (own_sg Hh k))), .val (.int j9), s10, .unset, .unset, .unset, .unset] [(.ref a1)])
              obtain ⟨T26, X26, e26, st26⟩ := getF XL hx hZ hown (host := "") (Or.inl (hw _ (List.mem_of_getElem? (i := 33) rfl))) Via.refl eL F_first (g := (mkF m 209 #[.val (.ref a1), .val (.ref a2), .val (.int x2), .val (.int (32 : Int32)), .val (.int (Nat.toInt32 nn)), .val (.ref b5), .val (.int i6), .val (.int (23 : Int32)), .val (.int (Int32.ofNat (own_sg Hh k))), .val (.int j9), s10, .unset, .unset, .unset, .unset] [(.ref a1)])) rfl rfl (hb hby d3_209)
              refine Dn.st st26 ?_
              show Dn p e below s _ _ _ T26 (mkF m 212 #[.val (.ref a1), .val (.ref a2), .val (.int x2), .val (.int (32 : Int32)), .val (.int (Nat.toInt32 nn)), .val (.ref b5), .val (.int i6), .val (.int (23 : Int32)), .val (.int (Int32.ofNat (own_sg Hh k))), .val (.int j9), s10, .unset, .unset, .unset, .unset] [(.ref bf)])
              refine Dn.st (fun t q => XS.iload X26.here hx rfl (hb hby d3_212) rfl  q) ?_
              show Dn p e below s _ _ _ T26 (mkF m 214 #[.val (.ref a1), .val (.ref a2), .val (.int x2), .val (.int (32 : Int32)), .val (.int (Nat.toInt32 nn)), .val (.ref b5), .val (.int i6), .val (.int (23 : Int32)), .val (.int (Int32.ofNat (own_sg Hh k))), .val (.int j9), s10, .unset, .unset, .unset, .unset] [(.int j9), (.ref bf)])
              refine Dn.st (fun t q => XS.aloadN X26.here hx rfl (hb hby d3_214) rfl rfl  q) ?_
              show Dn p e below s _ _ _ T26 (mkF m 215 #[.val (.ref a1), .val (.ref a2), .val (.int x2), .val (.int (32 : Int32)), .val (.int (Nat.toInt32 nn)), .val (.ref b5), .val (.int i6), .val (.int (23 : Int32)), .val (.int (Int32.ofNat (own_sg Hh k))), .val (.int j9), s10, .unset, .unset, .unset, .unset] [(.ref a1), (.int j9), (.ref bf)])
              obtain ⟨T27, X27, e27, st27⟩ := getF X26 hx hZ hown (host := "") (Or.inl (hw _ (List.mem_of_getElem? (i := 33) rfl))) Via.refl e26 F_first (g := (mkF m 215 #[.val (.ref a1), .val (.ref a2), .val (.int x2), .val (.int (32 : Int32)), .val (.int (Nat.toInt32 nn)), .val (.ref b5), .val (.int i6), .val (.int (23 : Int32)), .val (.int (Int32.ofNat (own_sg Hh k))), .val (.int j9), s10, .unset, .unset, .unset, .unset] [(.ref a1), (.int j9), (.ref bf)])) rfl rfl (hb hby d3_215)
              refine Dn.st st27 ?_
              show Dn p e below s _ _ _ T27 (mkF m 218 #[.val (.ref a1), .val (.ref a2), .val (.int x2), .val (.int (32 : Int32)), .val (.int (Nat.toInt32 nn)), .val (.ref b5), .val (.int i6), .val (.int (23 : Int32)), .val (.int (Int32.ofNat (own_sg Hh k))), .val (.int j9), s10, .unset, .unset, .unset, .unset] [(.ref bf), (.int j9), (.ref bf)])
              refine Dn.st (fun t q => XS.iload X27.here hx rfl (hb hby d3_218) rfl  q) ?_
              show Dn p e below s _ _ _ T27 (mkF m 220 #[.val (.ref a1), .val (.ref a2), .val (.int x2), .val (.int (32 : Int32)), .val (.int (Nat.toInt32 nn)), .val (.ref b5), .val (.int i6), .val (.int (23 : Int32)), .val (.int (Int32.ofNat (own_sg Hh k))), .val (.int j9), s10, .unset, .unset, .unset, .unset] [(.int j9), (.ref bf), (.int j9), (.ref bf)])
              refine Dn.st (fun t q => XS.iconst X27.here hx rfl (hb hby d3_220) q) ?_
              show Dn p e below s _ _ _ T27 (mkF m 221 #[.val (.ref a1), .val (.ref a2), .val (.int x2), .val (.int (32 : Int32)), .val (.int (Nat.toInt32 nn)), .val (.ref b5), .val (.int i6), .val (.int (23 : Int32)), .val (.int (Int32.ofNat (own_sg Hh k))), .val (.int j9), s10, .unset, .unset, .unset, .unset] [(.int (1 : Int32)), (.int j9), (.ref bf), (.int j9), (.ref bf)])
              refine Dn.st (fun t q => XS.isub X27.here hx rfl (hb hby d3_221) rfl q) ?_
              show Dn p e below s _ _ _ T27 (mkF m 222 #[.val (.ref a1), .val (.ref a2), .val (.int x2), .val (.int (32 : Int32)), .val (.int (Nat.toInt32 nn)), .val (.ref b5), .val (.int i6), .val (.int (23 : Int32)), .val (.int (Int32.ofNat (own_sg Hh k))), .val (.int j9), s10, .unset, .unset, .unset, .unset] [(.int (j9 - (1 : Int32))), (.ref bf), (.int j9), (.ref bf)])
              refine Dn.st (aLoadI (w := (fun x => (Int32.ofNat (if x < q4 + 1 then own_F P x else 0)))) X27 hx hZ e27 A_bf (i := q4) (own_pred1 g9) (by omega) (g := (mkF m 222 #[.val (.ref a1), .val (.ref a2), .val (.int x2), .val (.int (32 : Int32)), .val (.int (Nat.toInt32 nn)), .val (.ref b5), .val (.int i6), .val (.int (23 : Int32)), .val (.int (Int32.ofNat (own_sg Hh k))), .val (.int j9), s10, .unset, .unset, .unset, .unset] [(.int (j9 - (1 : Int32))), (.ref bf), (.int j9), (.ref bf)])) rfl rfl (hb hby d3_222)) ?_
              show Dn p e below s _ _ _ T27 (mkF m 223 #[.val (.ref a1), .val (.ref a2), .val (.int x2), .val (.int (32 : Int32)), .val (.int (Nat.toInt32 nn)), .val (.ref b5), .val (.int i6), .val (.int (23 : Int32)), .val (.int (Int32.ofNat (own_sg Hh k))), .val (.int j9), s10, .unset, .unset, .unset, .unset] [(.int (Int32.ofNat (if (q4) < q4 + 1 then own_F P (q4) else 0))), (.int j9), (.ref bf)])
              refine Dn.st (fun t q => XS.aloadN X27.here hx rfl (hb hby d3_223) rfl rfl  q) ?_
              show Dn p e below s _ _ _ T27 (mkF m 224 #[.val (.ref a1), .val (.ref a2), .val (.int x2), .val (.int (32 : Int32)), .val (.int (Nat.toInt32 nn)), .val (.ref b5), .val (.int i6), .val (.int (23 : Int32)), .val (.int (Int32.ofNat (own_sg Hh k))), .val (.int j9), s10, .unset, .unset, .unset, .unset] [(.ref a1), (.int (Int32.ofNat (if (q4) < q4 + 1 then own_F P (q4) else 0))), (.int j9), (.ref bf)])
              obtain ⟨T28, X28, e28, st28⟩ := getF X27 hx hZ hown (host := "") (Or.inl (hw _ (List.mem_of_getElem? (i := 31) rfl))) Via.refl e27 F_counts (g := (mkF m 224 #[.val (.ref a1), .val (.ref a2), .val (.int x2), .val (.int (32 : Int32)), .val (.int (Nat.toInt32 nn)), .val (.ref b5), .val (.int i6), .val (.int (23 : Int32)), .val (.int (Int32.ofNat (own_sg Hh k))), .val (.int j9), s10, .unset, .unset, .unset, .unset] [(.ref a1), (.int (Int32.ofNat (if (q4) < q4 + 1 then own_F P (q4) else 0))), (.int j9), (.ref bf)])) rfl rfl (hb hby d3_224)
              refine Dn.st st28 ?_
              show Dn p e below s _ _ _ T28 (mkF m 227 #[.val (.ref a1), .val (.ref a2), .val (.int x2), .val (.int (32 : Int32)), .val (.int (Nat.toInt32 nn)), .val (.ref b5), .val (.int i6), .val (.int (23 : Int32)), .val (.int (Int32.ofNat (own_sg Hh k))), .val (.int j9), s10, .unset, .unset, .unset, .unset] [(.ref bc), (.int (Int32.ofNat (if (q4) < q4 + 1 then own_F P (q4) else 0))), (.int j9), (.ref bf)])
              refine Dn.st (fun t q => XS.iload X28.here hx rfl (hb hby d3_227) rfl  q) ?_
              show Dn p e below s _ _ _ T28 (mkF m 229 #[.val (.ref a1), .val (.ref a2), .val (.int x2), .val (.int (32 : Int32)), .val (.int (Nat.toInt32 nn)), .val (.ref b5), .val (.int i6), .val (.int (23 : Int32)), .val (.int (Int32.ofNat (own_sg Hh k))), .val (.int j9), s10, .unset, .unset, .unset, .unset] [(.int j9), (.ref bc), (.int (Int32.ofNat (if (q4) < q4 + 1 then own_F P (q4) else 0))), (.int j9), (.ref bf)])
              refine Dn.st (fun t q => XS.iconst X28.here hx rfl (hb hby d3_229) q) ?_
              show Dn p e below s _ _ _ T28 (mkF m 230 #[.val (.ref a1), .val (.ref a2), .val (.int x2), .val (.int (32 : Int32)), .val (.int (Nat.toInt32 nn)), .val (.ref b5), .val (.int i6), .val (.int (23 : Int32)), .val (.int (Int32.ofNat (own_sg Hh k))), .val (.int j9), s10, .unset, .unset, .unset, .unset] [(.int (1 : Int32)), (.int j9), (.ref bc), (.int (Int32.ofNat (if (q4) < q4 + 1 then own_F P (q4) else 0))), (.int j9), (.ref bf)])
              refine Dn.st (fun t q => XS.isub X28.here hx rfl (hb hby d3_230) rfl q) ?_
              show Dn p e below s _ _ _ T28 (mkF m 231 #[.val (.ref a1), .val (.ref a2), .val (.int x2), .val (.int (32 : Int32)), .val (.int (Nat.toInt32 nn)), .val (.ref b5), .val (.int i6), .val (.int (23 : Int32)), .val (.int (Int32.ofNat (own_sg Hh k))), .val (.int j9), s10, .unset, .unset, .unset, .unset] [(.int (j9 - (1 : Int32))), (.ref bc), (.int (Int32.ofNat (if (q4) < q4 + 1 then own_F P (q4) else 0))), (.int j9), (.ref bf)])
              refine Dn.st (aLoadI (w := (fun x => (own_cn (P x)))) X28 hx hZ e28 A_bc (i := q4) (own_pred1 g9) (by omega) (g := (mkF m 231 #[.val (.ref a1), .val (.ref a2), .val (.int x2), .val (.int (32 : Int32)), .val (.int (Nat.toInt32 nn)), .val (.ref b5), .val (.int i6), .val (.int (23 : Int32)), .val (.int (Int32.ofNat (own_sg Hh k))), .val (.int j9), s10, .unset, .unset, .unset, .unset] [(.int (j9 - (1 : Int32))), (.ref bc), (.int (Int32.ofNat (if (q4) < q4 + 1 then own_F P (q4) else 0))), (.int j9), (.ref bf)])) rfl rfl (hb hby d3_231)) ?_
              show Dn p e below s _ _ _ T28 (mkF m 232 #[.val (.ref a1), .val (.ref a2), .val (.int x2), .val (.int (32 : Int32)), .val (.int (Nat.toInt32 nn)), .val (.ref b5), .val (.int i6), .val (.int (23 : Int32)), .val (.int (Int32.ofNat (own_sg Hh k))), .val (.int j9), s10, .unset, .unset, .unset, .unset] [(.int (own_cn (P (q4)))), (.int (Int32.ofNat (if (q4) < q4 + 1 then own_F P (q4) else 0))), (.int j9), (.ref bf)])
              refine Dn.st (fun t q => XS.iadd X28.here hx rfl (hb hby d3_232) rfl q) ?_
              show Dn p e below s _ _ _ T28 (mkF m 233 #[.val (.ref a1), .val (.ref a2), .val (.int x2), .val (.int (32 : Int32)), .val (.int (Nat.toInt32 nn)), .val (.ref b5), .val (.int i6), .val (.int (23 : Int32)), .val (.int (Int32.ofNat (own_sg Hh k))), .val (.int j9), s10, .unset, .unset, .unset, .unset] [(.int ((Int32.ofNat (if (q4) < q4 + 1 then own_F P (q4) else 0)) + (own_cn (P (q4))))), (.int j9), (.ref bf)])
              obtain ⟨T29, h29, X29, e29, W29, B29, st29⟩ := aStoI X28 hx hZ e28 A_bf (i := (q4 + 1)) g9 (by omega) (g := (mkF m 233 #[.val (.ref a1), .val (.ref a2), .val (.int x2), .val (.int (32 : Int32)), .val (.int (Nat.toInt32 nn)), .val (.ref b5), .val (.int i6), .val (.int (23 : Int32)), .val (.int (Int32.ofNat (own_sg Hh k))), .val (.int j9), s10, .unset, .unset, .unset, .unset] [(.int ((Int32.ofNat (if (q4) < q4 + 1 then own_F P (q4) else 0)) + (own_cn (P (q4))))), (.int j9), (.ref bf)])) rfl rfl (hb hby d3_233)
              have N0 := Fr.snoc X29 N0 g_bf
              have Z0 := Nat.le_trans Z0 (Keep.of_wr W29).1
              have K0 := K0.wr W29 (Or.inr sz_bf)
              have E_a1 := E_a1.wr W29
              have F_counts := F_counts.other W29 (Or.inl ne_a1_bf)
              have F_first := F_first.other W29 (Or.inl ne_a1_bf)
              have F_byState := F_byState.other W29 (Or.inl ne_a1_bf)
              have F_states := F_states.other W29 (Or.inl ne_a1_bf)
              have A_b5 := A_b5.other W29 ne_b5_bf
              have E_bc := E_bc.wr W29
              have A_bc := A_bc.other W29 ne_bc_bf
              have A_bf : Ary Z h29 bf .int nn (fun x => .int (Int32.ofNat (if x < (q4 + 1) + 1 then own_F P x else 0))) := B29.congr (own_f_eq hok (by omega))
              refine Dn.st st29 ?_
              show Dn p e below s _ _ _ T29 (mkF m 234 #[.val (.ref a1), .val (.ref a2), .val (.int x2), .val (.int (32 : Int32)), .val (.int (Nat.toInt32 nn)), .val (.ref b5), .val (.int i6), .val (.int (23 : Int32)), .val (.int (Int32.ofNat (own_sg Hh k))), .val (.int j9), s10, .unset, .unset, .unset, .unset] [])
              refine Dn.st (fun t q => XS.iinc X29.here hx rfl (hb hby d3_234) rfl (l' := #[.val (.ref a1), .val (.ref a2), .val (.int x2), .val (.int (32 : Int32)), .val (.int (Nat.toInt32 nn)), .val (.ref b5), .val (.int i6), .val (.int (23 : Int32)), .val (.int (Int32.ofNat (own_sg Hh k))), .val (.int (j9 + (1 : Int32))), s10, .unset, .unset, .unset, .unset]) rfl q) ?_
              show Dn p e below s _ _ _ T29 (mkF m 237 #[.val (.ref a1), .val (.ref a2), .val (.int x2), .val (.int (32 : Int32)), .val (.int (Nat.toInt32 nn)), .val (.ref b5), .val (.int i6), .val (.int (23 : Int32)), .val (.int (Int32.ofNat (own_sg Hh k))), .val (.int (j9 + (1 : Int32))), s10, .unset, .unset, .unset, .unset] [])
              refine Dn.st (fun t q => XS.goto X29.here hx rfl (pc0 := 237) (pc' := 201) rfl (hb hby d3_237) (by decide) (by decide) q) ?_
              show Dn p e below s _ _ _ T29 (mkF m 201 #[.val (.ref a1), .val (.ref a2), .val (.int x2), .val (.int (32 : Int32)), .val (.int (Nat.toInt32 nn)), .val (.ref b5), .val (.int i6), .val (.int (23 : Int32)), .val (.int (Int32.ofNat (own_sg Hh k))), .val (.int (j9 + (1 : Int32))), s10, .unset, .unset, .unset, .unset] [])
              exact ih4 (q4 + 1) (j9 + (1 : Int32)) _ _ X29 _ e29 N0 Z0 K0 E_a1 F_counts F_first F_byState F_states A_b5 E_bc A_bc A_bf (own_ix g9 (i := 1) rfl (by omega)) (by omega)
          exact lp4 (nn - 1) 0 (1 : Int32) _ _ X10 _ e10 N0 Z0 K0 E_a1 F_counts F_first F_byState F_states A_b5 E_bc A_bc A_bf rfl (own_nn1 hok)
        | succ r2 ih2 =>
          intro s2 i9 k Y2 s10 TL lcL XL hL eL N0 Z0 K0 E_a1 F_counts F_first F_byState F_states A_a2 A_b5 E_bc A_bc hs10 h9 hs2 hJ2
          refine Dn.st (fun t q => XS.iload XL.here hx rfl (hb hby d3_119) rfl  q) ?_
          show Dn p e below s _ _ _ TL (mkF m 121 #[.val (.ref a1), .val (.ref a2), .val (.int x2), .val (.int (32 : Int32)), .val (.int (Nat.toInt32 nn)), .val (.ref b5), .val (.int i6), .val (.int (23 : Int32)), .val (.int (Int32.ofNat (own_sg Hh k))), .val (.int i9), s10, .unset, .unset, .unset, .unset] [(.int i9)])
          refine Dn.st (fun t q => XS.iload XL.here hx rfl (hb hby d3_121) rfl  q) ?_
          show Dn p e below s _ _ _ TL (mkF m 123 #[.val (.ref a1), .val (.ref a2), .val (.int x2), .val (.int (32 : Int32)), .val (.int (Nat.toInt32 nn)), .val (.ref b5), .val (.int i6), .val (.int (23 : Int32)), .val (.int (Int32.ofNat (own_sg Hh k))), .val (.int i9), s10, .unset, .unset, .unset, .unset] [(.int (Nat.toInt32 nn)), (.int i9)])
          refine Dn.st (fun t q => XS.icmpNo XL.here hx rfl (hb hby d3_123) rfl (tlt (own_in hok h9 hs2)).2.1 q) ?_
          show Dn p e below s _ _ _ TL (mkF m 126 #[.val (.ref a1), .val (.ref a2), .val (.int x2), .val (.int (32 : Int32)), .val (.int (Nat.toInt32 nn)), .val (.ref b5), .val (.int i6), .val (.int (23 : Int32)), .val (.int (Int32.ofNat (own_sg Hh k))), .val (.int i9), s10, .unset, .unset, .unset, .unset] [])
          have hsn : s2 < nn := by omega
          refine Dn.st (fun t q => XS.iconst XL.here hx rfl (hb hby d3_126) q) ?_
          show Dn p e below s _ _ _ TL (mkF m 127 #[.val (.ref a1), .val (.ref a2), .val (.int x2), .val (.int (32 : Int32)), .val (.int (Nat.toInt32 nn)), .val (.ref b5), .val (.int i6), .val (.int (23 : Int32)), .val (.int (Int32.ofNat (own_sg Hh k))), .val (.int i9), s10, .unset, .unset, .unset, .unset] [(.int (0 : Int32))])
          refine Dn.st (fun t q => XS.istore XL.here hx rfl (hb hby d3_127) rfl (l' := #[.val (.ref a1), .val (.ref a2), .val (.int x2), .val (.int (32 : Int32)), .val (.int (Nat.toInt32 nn)), .val (.ref b5), .val (.int i6), .val (.int (23 : Int32)), .val (.int (Int32.ofNat (own_sg Hh k))), .val (.int i9), .val (.int (0 : Int32)), .unset, .unset, .unset, .unset]) (XS.store1 (o := s10) rfl hs10 rfl) q) ?_
          show Dn p e below s _ _ _ TL (mkF m 129 #[.val (.ref a1), .val (.ref a2), .val (.int x2), .val (.int (32 : Int32)), .val (.int (Nat.toInt32 nn)), .val (.ref b5), .val (.int i6), .val (.int (23 : Int32)), .val (.int (Int32.ofNat (own_sg Hh k))), .val (.int i9), .val (.int (0 : Int32)), .unset, .unset, .unset, .unset] [])
          have lp3 : ∀ (r3 : Nat) (i : Nat) (i10 : Int32) (k3 : Nat) (Y3 : Nat → Nat) (TL : State) (lcL : List Loc) (XL : Stand p l e ({ frames := 2, cells := 7, slots := 116, locals := 27 } : Room) s m #[(.ref a1), (.ref a2), (.int x2)] below meth c TL lcL 3 42) (hL : Heap) (eL : TL.heap = hL) (N0 : Fr n0 lcL) (Z0 : n0 ≤ hL.size) (K0 : Keep h0 hL [a1]) (E_a1 : Exa Z hL a1 "keyfold/Fse") (F_counts : Fld Z hL a1 "keyfold/Fse" "counts" "[I" (.ref bc)) (F_first : Fld Z hL a1 "keyfold/Fse" "first" "[I" u3) (F_byState : Fld Z hL a1 "keyfold/Fse" "byState" "[I" u4) (F_states : Fld Z hL a1 "keyfold/Fse" "states" "[I" u5) (A_a2 : Ary Z hL a2 .int nn (fun x => .int (P x))) (A_b5 : Ary Z hL b5 .int 32 (fun x => .int (Int32.ofNat (Y3 x)))) (E_bc : Exa Z hL bc "[I") (A_bc : Ary Z hL bc .int nn (fun x => .int (own_cn (P x)))) (hi10 : i10.toInt = (i : Int)) (hi3 : i + r3 = own_pp (P s2)) (hJ3 : own_J2 P nn Hh s2 i k3 Y3), Dn p e below s (Q3 Z a1 a2 x2 u0 u1 u2 u3 u4 u5 P nn h0 n0) (({ frames := 2, cells := 7, slots := 116, locals := 27 } : Room).cells) (({ frames := 2, cells := 7, slots := 116, locals := 27 } : Room).slots) TL (mkF m 129 #[.val (.ref a1), .val (.ref a2), .val (.int x2), .val (.int (32 : Int32)), .val (.int (Nat.toInt32 nn)), .val (.ref b5), .val (.int i6), .val (.int (23 : Int32)), .val (.int (Int32.ofNat (own_sg Hh k3))), .val (.int i9), .val (.int i10), .unset, .unset, .unset, .unset] []) := by
            intro r3
            induction r3 with
            | zero =>
              intro i i10 k3 Y3 TL lcL XL hL eL N0 Z0 K0 E_a1 F_counts F_first F_byState F_states A_a2 A_b5 E_bc A_bc hi10 hi3 hJ3
              refine Dn.st (fun t q => XS.iload XL.here hx rfl (hb hby d3_129) rfl  q) ?_
              show Dn p e below s _ _ _ TL (mkF m 131 #[.val (.ref a1), .val (.ref a2), .val (.int x2), .val (.int (32 : Int32)), .val (.int (Nat.toInt32 nn)), .val (.ref b5), .val (.int i6), .val (.int (23 : Int32)), .val (.int (Int32.ofNat (own_sg Hh k3))), .val (.int i9), .val (.int i10), .unset, .unset, .unset, .unset] [(.int i10)])
              refine Dn.st (fun t q => XS.aloadN XL.here hx rfl (hb hby d3_131) rfl rfl  q) ?_
              show Dn p e below s _ _ _ TL (mkF m 132 #[.val (.ref a1), .val (.ref a2), .val (.int x2), .val (.int (32 : Int32)), .val (.int (Nat.toInt32 nn)), .val (.ref b5), .val (.int i6), .val (.int (23 : Int32)), .val (.int (Int32.ofNat (own_sg Hh k3))), .val (.int i9), .val (.int i10), .unset, .unset, .unset, .unset] [(.ref a2), (.int i10)])
              refine Dn.st (fun t q => XS.iload XL.here hx rfl (hb hby d3_132) rfl  q) ?_
              show Dn p e below s _ _ _ TL (mkF m 134 #[.val (.ref a1), .val (.ref a2), .val (.int x2), .val (.int (32 : Int32)), .val (.int (Nat.toInt32 nn)), .val (.ref b5), .val (.int i6), .val (.int (23 : Int32)), .val (.int (Int32.ofNat (own_sg Hh k3))), .val (.int i9), .val (.int i10), .unset, .unset, .unset, .unset] [(.int i9), (.ref a2), (.int i10)])
              refine Dn.st (aLoadI (w := P) XL hx hZ eL A_a2 (i := s2) h9 hsn (g := (mkF m 134 #[.val (.ref a1), .val (.ref a2), .val (.int x2), .val (.int (32 : Int32)), .val (.int (Nat.toInt32 nn)), .val (.ref b5), .val (.int i6), .val (.int (23 : Int32)), .val (.int (Int32.ofNat (own_sg Hh k3))), .val (.int i9), .val (.int i10), .unset, .unset, .unset, .unset] [(.int i9), (.ref a2), (.int i10)])) rfl rfl (hb hby d3_134)) ?_
              show Dn p e below s _ _ _ TL (mkF m 135 #[.val (.ref a1), .val (.ref a2), .val (.int x2), .val (.int (32 : Int32)), .val (.int (Nat.toInt32 nn)), .val (.ref b5), .val (.int i6), .val (.int (23 : Int32)), .val (.int (Int32.ofNat (own_sg Hh k3))), .val (.int i9), .val (.int i10), .unset, .unset, .unset, .unset] [(.int (P s2)), (.int i10)])
              refine Dn.st (fun t q => XS.icmpYes XL.here hx rfl (pc0 := 135) (pc' := 169) rfl (hb hby d3_135) rfl (flt (own_iout hi10 hi3)).2.1 (by decide) (by decide) q) ?_
              show Dn p e below s _ _ _ TL (mkF m 169 #[.val (.ref a1), .val (.ref a2), .val (.int x2), .val (.int (32 : Int32)), .val (.int (Nat.toInt32 nn)), .val (.ref b5), .val (.int i6), .val (.int (23 : Int32)), .val (.int (Int32.ofNat (own_sg Hh k3))), .val (.int i9), .val (.int i10), .unset, .unset, .unset, .unset] [])
              refine Dn.st (fun t q => XS.iinc XL.here hx rfl (hb hby d3_169) rfl (l' := #[.val (.ref a1), .val (.ref a2), .val (.int x2), .val (.int (32 : Int32)), .val (.int (Nat.toInt32 nn)), .val (.ref b5), .val (.int i6), .val (.int (23 : Int32)), .val (.int (Int32.ofNat (own_sg Hh k3))), .val (.int (i9 + (1 : Int32))), .val (.int i10), .unset, .unset, .unset, .unset]) rfl q) ?_
              show Dn p e below s _ _ _ TL (mkF m 172 #[.val (.ref a1), .val (.ref a2), .val (.int x2), .val (.int (32 : Int32)), .val (.int (Nat.toInt32 nn)), .val (.ref b5), .val (.int i6), .val (.int (23 : Int32)), .val (.int (Int32.ofNat (own_sg Hh k3))), .val (.int (i9 + (1 : Int32))), .val (.int i10), .unset, .unset, .unset, .unset] [])
              refine Dn.st (fun t q => XS.goto XL.here hx rfl (pc0 := 172) (pc' := 119) rfl (hb hby d3_172) (by decide) (by decide) q) ?_
              show Dn p e below s _ _ _ TL (mkF m 119 #[.val (.ref a1), .val (.ref a2), .val (.int x2), .val (.int (32 : Int32)), .val (.int (Nat.toInt32 nn)), .val (.ref b5), .val (.int i6), .val (.int (23 : Int32)), .val (.int (Int32.ofNat (own_sg Hh k3))), .val (.int (i9 + (1 : Int32))), .val (.int i10), .unset, .unset, .unset, .unset] [])
              exact ih2 (s2 + 1) (i9 + (1 : Int32)) k3 Y3 (.val (.int i10)) _ _ XL _ eL N0 Z0 K0 E_a1 F_counts F_first F_byState F_states A_a2 A_b5 E_bc A_bc (One.val rfl) (own_ix h9 (i := 1) rfl (by omega)) (by omega) (own_J2_next hJ3 (by omega))
            | succ r3 ih3 =>
              intro i i10 k3 Y3 TL lcL XL hL eL N0 Z0 K0 E_a1 F_counts F_first F_byState F_states A_a2 A_b5 E_bc A_bc hi10 hi3 hJ3
              refine Dn.st (fun t q => XS.iload XL.here hx rfl (hb hby d3_129) rfl  q) ?_
              show Dn p e below s _ _ _ TL (mkF m 131 #[.val (.ref a1), .val (.ref a2), .val (.int x2), .val (.int (32 : Int32)), .val (.int (Nat.toInt32 nn)), .val (.ref b5), .val (.int i6), .val (.int (23 : Int32)), .val (.int (Int32.ofNat (own_sg Hh k3))), .val (.int i9), .val (.int i10), .unset, .unset, .unset, .unset] [(.int i10)])
              refine Dn.st (fun t q => XS.aloadN XL.here hx rfl (hb hby d3_131) rfl rfl  q) ?_
              show Dn p e below s _ _ _ TL (mkF m 132 #[.val (.ref a1), .val (.ref a2), .val (.int x2), .val (.int (32 : Int32)), .val (.int (Nat.toInt32 nn)), .val (.ref b5), .val (.int i6), .val (.int (23 : Int32)), .val (.int (Int32.ofNat (own_sg Hh k3))), .val (.int i9), .val (.int i10), .unset, .unset, .unset, .unset] [(.ref a2), (.int i10)])
              refine Dn.st (fun t q => XS.iload XL.here hx rfl (hb hby d3_132) rfl  q) ?_
              show Dn p e below s _ _ _ TL (mkF m 134 #[.val (.ref a1), .val (.ref a2), .val (.int x2), .val (.int (32 : Int32)), .val (.int (Nat.toInt32 nn)), .val (.ref b5), .val (.int i6), .val (.int (23 : Int32)), .val (.int (Int32.ofNat (own_sg Hh k3))), .val (.int i9), .val (.int i10), .unset, .unset, .unset, .unset] [(.int i9), (.ref a2), (.int i10)])
              refine Dn.st (aLoadI (w := P) XL hx hZ eL A_a2 (i := s2) h9 hsn (g := (mkF m 134 #[.val (.ref a1), .val (.ref a2), .val (.int x2), .val (.int (32 : Int32)), .val (.int (Nat.toInt32 nn)), .val (.ref b5), .val (.int i6), .val (.int (23 : Int32)), .val (.int (Int32.ofNat (own_sg Hh k3))), .val (.int i9), .val (.int i10), .unset, .unset, .unset, .unset] [(.int i9), (.ref a2), (.int i10)])) rfl rfl (hb hby d3_134)) ?_
              show Dn p e below s _ _ _ TL (mkF m 135 #[.val (.ref a1), .val (.ref a2), .val (.int x2), .val (.int (32 : Int32)), .val (.int (Nat.toInt32 nn)), .val (.ref b5), .val (.int i6), .val (.int (23 : Int32)), .val (.int (Int32.ofNat (own_sg Hh k3))), .val (.int i9), .val (.int i10), .unset, .unset, .unset, .unset] [(.int (P s2)), (.int i10)])
              refine Dn.st (fun t q => XS.icmpNo XL.here hx rfl (hb hby d3_135) rfl (tlt (own_iin hi10 hi3)).2.1 q) ?_
              show Dn p e below s _ _ _ TL (mkF m 138 #[.val (.ref a1), .val (.ref a2), .val (.int x2), .val (.int (32 : Int32)), .val (.int (Nat.toInt32 nn)), .val (.ref b5), .val (.int i6), .val (.int (23 : Int32)), .val (.int (Int32.ofNat (own_sg Hh k3))), .val (.int i9), .val (.int i10), .unset, .unset, .unset, .unset] [])
              have hpp32 := own_pp32 hok hsn
              have hk3 := own_J2_kle hJ3 hsn hH.2.2 (by omega)
              have hsg := own_sg_le Hh hH.2.1 hH.1 k3 (by omega)
              refine Dn.st (fun t q => XS.aload XL.here hx rfl (hb hby d3_138) rfl rfl  q) ?_
              show Dn p e below s _ _ _ TL (mkF m 140 #[.val (.ref a1), .val (.ref a2), .val (.int x2), .val (.int (32 : Int32)), .val (.int (Nat.toInt32 nn)), .val (.ref b5), .val (.int i6), .val (.int (23 : Int32)), .val (.int (Int32.ofNat (own_sg Hh k3))), .val (.int i9), .val (.int i10), .unset, .unset, .unset, .unset] [(.ref b5)])
              refine Dn.st (fun t q => XS.iload XL.here hx rfl (hb hby d3_140) rfl  q) ?_
              show Dn p e below s _ _ _ TL (mkF m 142 #[.val (.ref a1), .val (.ref a2), .val (.int x2), .val (.int (32 : Int32)), .val (.int (Nat.toInt32 nn)), .val (.ref b5), .val (.int i6), .val (.int (23 : Int32)), .val (.int (Int32.ofNat (own_sg Hh k3))), .val (.int i9), .val (.int i10), .unset, .unset, .unset, .unset] [(.int (Int32.ofNat (own_sg Hh k3))), (.ref b5)])
              refine Dn.st (fun t q => XS.iload XL.here hx rfl (hb hby d3_142) rfl  q) ?_
              show Dn p e below s _ _ _ TL (mkF m 144 #[.val (.ref a1), .val (.ref a2), .val (.int x2), .val (.int (32 : Int32)), .val (.int (Nat.toInt32 nn)), .val (.ref b5), .val (.int i6), .val (.int (23 : Int32)), .val (.int (Int32.ofNat (own_sg Hh k3))), .val (.int i9), .val (.int i10), .unset, .unset, .unset, .unset] [(.int i9), (.int (Int32.ofNat (own_sg Hh k3))), (.ref b5)])
              obtain ⟨T30, h30, X30, e30, W30, B30, st30⟩ := aStoI XL hx hZ eL A_b5 (i := (own_sg Hh k3)) (own_toN (by omega)) (by omega) (g := (mkF m 144 #[.val (.ref a1), .val (.ref a2), .val (.int x2), .val (.int (32 : Int32)), .val (.int (Nat.toInt32 nn)), .val (.ref b5), .val (.int i6), .val (.int (23 : Int32)), .val (.int (Int32.ofNat (own_sg Hh k3))), .val (.int i9), .val (.int i10), .unset, .unset, .unset, .unset] [(.int i9), (.int (Int32.ofNat (own_sg Hh k3))), (.ref b5)])) rfl rfl (hb hby d3_144)
              have N0 := Fr.snoc X30 N0 g_b5
              have Z0 := Nat.le_trans Z0 (Keep.of_wr W30).1
              have K0 := K0.wr W30 (Or.inr sz_b5)
              have E_a1 := E_a1.wr W30
              have F_counts := F_counts.other W30 (Or.inl ne_a1_b5)
              have F_first := F_first.other W30 (Or.inl ne_a1_b5)
              have F_byState := F_byState.other W30 (Or.inl ne_a1_b5)
              have F_states := F_states.other W30 (Or.inl ne_a1_b5)
              have A_a2 := A_a2.other W30 ne_a2_b5
              have E_bc := E_bc.wr W30
              have A_bc := A_bc.other W30 (Ne.symm ne_b5_bc)
              have A_b5 : Ary Z h30 b5 .int 32 (fun x => .int (Int32.ofNat (own_ud Y3 (own_sg Hh k3) s2 x))) := B30.congr (own_ud_eq h9)
              refine Dn.st st30 ?_
              show Dn p e below s _ _ _ T30 (mkF m 145 #[.val (.ref a1), .val (.ref a2), .val (.int x2), .val (.int (32 : Int32)), .val (.int (Nat.toInt32 nn)), .val (.ref b5), .val (.int i6), .val (.int (23 : Int32)), .val (.int (Int32.ofNat (own_sg Hh k3))), .val (.int i9), .val (.int i10), .unset, .unset, .unset, .unset] [])
              refine Dn.st (fun t q => XS.iload X30.here hx rfl (hb hby d3_145) rfl  q) ?_
              show Dn p e below s _ _ _ T30 (mkF m 147 #[.val (.ref a1), .val (.ref a2), .val (.int x2), .val (.int (32 : Int32)), .val (.int (Nat.toInt32 nn)), .val (.ref b5), .val (.int i6), .val (.int (23 : Int32)), .val (.int (Int32.ofNat (own_sg Hh k3))), .val (.int i9), .val (.int i10), .unset, .unset, .unset, .unset] [(.int (Int32.ofNat (own_sg Hh k3)))])
              refine Dn.st (fun t q => XS.iload X30.here hx rfl (hb hby d3_147) rfl  q) ?_
              show Dn p e below s _ _ _ T30 (mkF m 149 #[.val (.ref a1), .val (.ref a2), .val (.int x2), .val (.int (32 : Int32)), .val (.int (Nat.toInt32 nn)), .val (.ref b5), .val (.int i6), .val (.int (23 : Int32)), .val (.int (Int32.ofNat (own_sg Hh k3))), .val (.int i9), .val (.int i10), .unset, .unset, .unset, .unset] [(.int (23 : Int32)), (.int (Int32.ofNat (own_sg Hh k3)))])
              refine Dn.st (fun t q => XS.iadd X30.here hx rfl (hb hby d3_149) rfl q) ?_
              show Dn p e below s _ _ _ T30 (mkF m 150 #[.val (.ref a1), .val (.ref a2), .val (.int x2), .val (.int (32 : Int32)), .val (.int (Nat.toInt32 nn)), .val (.ref b5), .val (.int i6), .val (.int (23 : Int32)), .val (.int (Int32.ofNat (own_sg Hh k3))), .val (.int i9), .val (.int i10), .unset, .unset, .unset, .unset] [(.int ((Int32.ofNat (own_sg Hh k3)) + (23 : Int32)))])
              refine Dn.st (fun t q => XS.iloadN X30.here hx rfl (hb hby d3_150) rfl  q) ?_
              show Dn p e below s _ _ _ T30 (mkF m 151 #[.val (.ref a1), .val (.ref a2), .val (.int x2), .val (.int (32 : Int32)), .val (.int (Nat.toInt32 nn)), .val (.ref b5), .val (.int i6), .val (.int (23 : Int32)), .val (.int (Int32.ofNat (own_sg Hh k3))), .val (.int i9), .val (.int i10), .unset, .unset, .unset, .unset] [(.int (32 : Int32)), (.int ((Int32.ofNat (own_sg Hh k3)) + (23 : Int32)))])
              refine Dn.st (fun t q => XS.iconst X30.here hx rfl (hb hby d3_151) q) ?_
              show Dn p e below s _ _ _ T30 (mkF m 152 #[.val (.ref a1), .val (.ref a2), .val (.int x2), .val (.int (32 : Int32)), .val (.int (Nat.toInt32 nn)), .val (.ref b5), .val (.int i6), .val (.int (23 : Int32)), .val (.int (Int32.ofNat (own_sg Hh k3))), .val (.int i9), .val (.int i10), .unset, .unset, .unset, .unset] [(.int (1 : Int32)), (.int (32 : Int32)), (.int ((Int32.ofNat (own_sg Hh k3)) + (23 : Int32)))])
              refine Dn.st (fun t q => XS.isub X30.here hx rfl (hb hby d3_152) rfl q) ?_
              show Dn p e below s _ _ _ T30 (mkF m 153 #[.val (.ref a1), .val (.ref a2), .val (.int x2), .val (.int (32 : Int32)), .val (.int (Nat.toInt32 nn)), .val (.ref b5), .val (.int i6), .val (.int (23 : Int32)), .val (.int (Int32.ofNat (own_sg Hh k3))), .val (.int i9), .val (.int i10), .unset, .unset, .unset, .unset] [(.int ((32 : Int32) - (1 : Int32))), (.int ((Int32.ofNat (own_sg Hh k3)) + (23 : Int32)))])
              refine Dn.st (fun t q => XS.iand X30.here hx rfl (hb hby d3_153) rfl q) ?_
              show Dn p e below s _ _ _ T30 (mkF m 154 #[.val (.ref a1), .val (.ref a2), .val (.int x2), .val (.int (32 : Int32)), .val (.int (Nat.toInt32 nn)), .val (.ref b5), .val (.int i6), .val (.int (23 : Int32)), .val (.int (Int32.ofNat (own_sg Hh k3))), .val (.int i9), .val (.int i10), .unset, .unset, .unset, .unset] [(.int (((Int32.ofNat (own_sg Hh k3)) + (23 : Int32)) &&& ((32 : Int32) - (1 : Int32))))])
              rw [show (((Int32.ofNat (own_sg Hh k3)) + (23 : Int32)) &&& ((32 : Int32) - (1 : Int32))) = (Int32.ofNat ((own_sg Hh k3 + 23) % 32)) from (own_step1 (by omega))]
              show Dn p e below s _ _ _ T30 (mkF m 154 #[.val (.ref a1), .val (.ref a2), .val (.int x2), .val (.int (32 : Int32)), .val (.int (Nat.toInt32 nn)), .val (.ref b5), .val (.int i6), .val (.int (23 : Int32)), .val (.int (Int32.ofNat (own_sg Hh k3))), .val (.int i9), .val (.int i10), .unset, .unset, .unset, .unset] [(.int (Int32.ofNat ((own_sg Hh k3 + 23) % 32)))])
              refine Dn.st (fun t q => XS.istore X30.here hx rfl (hb hby d3_154) rfl (l' := #[.val (.ref a1), .val (.ref a2), .val (.int x2), .val (.int (32 : Int32)), .val (.int (Nat.toInt32 nn)), .val (.ref b5), .val (.int i6), .val (.int (23 : Int32)), .val (.int (Int32.ofNat ((own_sg Hh k3 + 23) % 32))), .val (.int i9), .val (.int i10), .unset, .unset, .unset, .unset]) rfl q) ?_
              show Dn p e below s _ _ _ T30 (mkF m 156 #[.val (.ref a1), .val (.ref a2), .val (.int x2), .val (.int (32 : Int32)), .val (.int (Nat.toInt32 nn)), .val (.ref b5), .val (.int i6), .val (.int (23 : Int32)), .val (.int (Int32.ofNat ((own_sg Hh k3 + 23) % 32))), .val (.int i9), .val (.int i10), .unset, .unset, .unset, .unset] [])
              refine Dn.st (fun t q => XS.iload X30.here hx rfl (hb hby d3_156) rfl  q) ?_
              show Dn p e below s _ _ _ T30 (mkF m 158 #[.val (.ref a1), .val (.ref a2), .val (.int x2), .val (.int (32 : Int32)), .val (.int (Nat.toInt32 nn)), .val (.ref b5), .val (.int i6), .val (.int (23 : Int32)), .val (.int (Int32.ofNat ((own_sg Hh k3 + 23) % 32))), .val (.int i9), .val (.int i10), .unset, .unset, .unset, .unset] [(.int (Int32.ofNat ((own_sg Hh k3 + 23) % 32)))])
              refine Dn.st (fun t q => XS.iload X30.here hx rfl (hb hby d3_158) rfl  q) ?_
              show Dn p e below s _ _ _ T30 (mkF m 160 #[.val (.ref a1), .val (.ref a2), .val (.int x2), .val (.int (32 : Int32)), .val (.int (Nat.toInt32 nn)), .val (.ref b5), .val (.int i6), .val (.int (23 : Int32)), .val (.int (Int32.ofNat ((own_sg Hh k3 + 23) % 32))), .val (.int i9), .val (.int i10), .unset, .unset, .unset, .unset] [(.int i6), (.int (Int32.ofNat ((own_sg Hh k3 + 23) % 32)))])
              by_cases hgt : i6 < (Int32.ofNat ((own_sg Hh k3 + 23) % 32))
              · refine Dn.st (fun t q => XS.icmpYes X30.here hx rfl (pc0 := 160) (pc' := 145) rfl (hb hby d3_160) rfl (tlt hgt).2.2.1 (by decide) (by decide) q) ?_
                show Dn p e below s _ _ _ T30 (mkF m 145 #[.val (.ref a1), .val (.ref a2), .val (.int x2), .val (.int (32 : Int32)), .val (.int (Nat.toInt32 nn)), .val (.ref b5), .val (.int i6), .val (.int (23 : Int32)), .val (.int (Int32.ofNat ((own_sg Hh k3 + 23) % 32))), .val (.int i9), .val (.int i10), .unset, .unset, .unset, .unset] [])
                refine Dn.st (fun t q => XS.iload X30.here hx rfl (hb hby d3_145) rfl  q) ?_
                show Dn p e below s _ _ _ T30 (mkF m 147 #[.val (.ref a1), .val (.ref a2), .val (.int x2), .val (.int (32 : Int32)), .val (.int (Nat.toInt32 nn)), .val (.ref b5), .val (.int i6), .val (.int (23 : Int32)), .val (.int (Int32.ofNat ((own_sg Hh k3 + 23) % 32))), .val (.int i9), .val (.int i10), .unset, .unset, .unset, .unset] [(.int (Int32.ofNat ((own_sg Hh k3 + 23) % 32)))])
                refine Dn.st (fun t q => XS.iload X30.here hx rfl (hb hby d3_147) rfl  q) ?_
                show Dn p e below s _ _ _ T30 (mkF m 149 #[.val (.ref a1), .val (.ref a2), .val (.int x2), .val (.int (32 : Int32)), .val (.int (Nat.toInt32 nn)), .val (.ref b5), .val (.int i6), .val (.int (23 : Int32)), .val (.int (Int32.ofNat ((own_sg Hh k3 + 23) % 32))), .val (.int i9), .val (.int i10), .unset, .unset, .unset, .unset] [(.int (23 : Int32)), (.int (Int32.ofNat ((own_sg Hh k3 + 23) % 32)))])
                refine Dn.st (fun t q => XS.iadd X30.here hx rfl (hb hby d3_149) rfl q) ?_
                show Dn p e below s _ _ _ T30 (mkF m 150 #[.val (.ref a1), .val (.ref a2), .val (.int x2), .val (.int (32 : Int32)), .val (.int (Nat.toInt32 nn)), .val (.ref b5), .val (.int i6), .val (.int (23 : Int32)), .val (.int (Int32.ofNat ((own_sg Hh k3 + 23) % 32))), .val (.int i9), .val (.int i10), .unset, .unset, .unset, .unset] [(.int ((Int32.ofNat ((own_sg Hh k3 + 23) % 32)) + (23 : Int32)))])
                refine Dn.st (fun t q => XS.iloadN X30.here hx rfl (hb hby d3_150) rfl  q) ?_
                show Dn p e below s _ _ _ T30 (mkF m 151 #[.val (.ref a1), .val (.ref a2), .val (.int x2), .val (.int (32 : Int32)), .val (.int (Nat.toInt32 nn)), .val (.ref b5), .val (.int i6), .val (.int (23 : Int32)), .val (.int (Int32.ofNat ((own_sg Hh k3 + 23) % 32))), .val (.int i9), .val (.int i10), .unset, .unset, .unset, .unset] [(.int (32 : Int32)), (.int ((Int32.ofNat ((own_sg Hh k3 + 23) % 32)) + (23 : Int32)))])
                refine Dn.st (fun t q => XS.iconst X30.here hx rfl (hb hby d3_151) q) ?_
                show Dn p e below s _ _ _ T30 (mkF m 152 #[.val (.ref a1), .val (.ref a2), .val (.int x2), .val (.int (32 : Int32)), .val (.int (Nat.toInt32 nn)), .val (.ref b5), .val (.int i6), .val (.int (23 : Int32)), .val (.int (Int32.ofNat ((own_sg Hh k3 + 23) % 32))), .val (.int i9), .val (.int i10), .unset, .unset, .unset, .unset] [(.int (1 : Int32)), (.int (32 : Int32)), (.int ((Int32.ofNat ((own_sg Hh k3 + 23) % 32)) + (23 : Int32)))])
                refine Dn.st (fun t q => XS.isub X30.here hx rfl (hb hby d3_152) rfl q) ?_
                show Dn p e below s _ _ _ T30 (mkF m 153 #[.val (.ref a1), .val (.ref a2), .val (.int x2), .val (.int (32 : Int32)), .val (.int (Nat.toInt32 nn)), .val (.ref b5), .val (.int i6), .val (.int (23 : Int32)), .val (.int (Int32.ofNat ((own_sg Hh k3 + 23) % 32))), .val (.int i9), .val (.int i10), .unset, .unset, .unset, .unset] [(.int ((32 : Int32) - (1 : Int32))), (.int ((Int32.ofNat ((own_sg Hh k3 + 23) % 32)) + (23 : Int32)))])
                refine Dn.st (fun t q => XS.iand X30.here hx rfl (hb hby d3_153) rfl q) ?_
                show Dn p e below s _ _ _ T30 (mkF m 154 #[.val (.ref a1), .val (.ref a2), .val (.int x2), .val (.int (32 : Int32)), .val (.int (Nat.toInt32 nn)), .val (.ref b5), .val (.int i6), .val (.int (23 : Int32)), .val (.int (Int32.ofNat ((own_sg Hh k3 + 23) % 32))), .val (.int i9), .val (.int i10), .unset, .unset, .unset, .unset] [(.int (((Int32.ofNat ((own_sg Hh k3 + 23) % 32)) + (23 : Int32)) &&& ((32 : Int32) - (1 : Int32))))])
                rw [show (((Int32.ofNat ((own_sg Hh k3 + 23) % 32)) + (23 : Int32)) &&& ((32 : Int32) - (1 : Int32))) = (Int32.ofNat ((own_sg Hh k3 + 46) % 32)) from (own_step2 (by omega))]
                show Dn p e below s _ _ _ T30 (mkF m 154 #[.val (.ref a1), .val (.ref a2), .val (.int x2), .val (.int (32 : Int32)), .val (.int (Nat.toInt32 nn)), .val (.ref b5), .val (.int i6), .val (.int (23 : Int32)), .val (.int (Int32.ofNat ((own_sg Hh k3 + 23) % 32))), .val (.int i9), .val (.int i10), .unset, .unset, .unset, .unset] [(.int (Int32.ofNat ((own_sg Hh k3 + 46) % 32)))])
                refine Dn.st (fun t q => XS.istore X30.here hx rfl (hb hby d3_154) rfl (l' := #[.val (.ref a1), .val (.ref a2), .val (.int x2), .val (.int (32 : Int32)), .val (.int (Nat.toInt32 nn)), .val (.ref b5), .val (.int i6), .val (.int (23 : Int32)), .val (.int (Int32.ofNat ((own_sg Hh k3 + 46) % 32))), .val (.int i9), .val (.int i10), .unset, .unset, .unset, .unset]) rfl q) ?_
                show Dn p e below s _ _ _ T30 (mkF m 156 #[.val (.ref a1), .val (.ref a2), .val (.int x2), .val (.int (32 : Int32)), .val (.int (Nat.toInt32 nn)), .val (.ref b5), .val (.int i6), .val (.int (23 : Int32)), .val (.int (Int32.ofNat ((own_sg Hh k3 + 46) % 32))), .val (.int i9), .val (.int i10), .unset, .unset, .unset, .unset] [])
                refine Dn.st (fun t q => XS.iload X30.here hx rfl (hb hby d3_156) rfl  q) ?_
                show Dn p e below s _ _ _ T30 (mkF m 158 #[.val (.ref a1), .val (.ref a2), .val (.int x2), .val (.int (32 : Int32)), .val (.int (Nat.toInt32 nn)), .val (.ref b5), .val (.int i6), .val (.int (23 : Int32)), .val (.int (Int32.ofNat ((own_sg Hh k3 + 46) % 32))), .val (.int i9), .val (.int i10), .unset, .unset, .unset, .unset] [(.int (Int32.ofNat ((own_sg Hh k3 + 46) % 32)))])
                refine Dn.st (fun t q => XS.iload X30.here hx rfl (hb hby d3_158) rfl  q) ?_
                show Dn p e below s _ _ _ T30 (mkF m 160 #[.val (.ref a1), .val (.ref a2), .val (.int x2), .val (.int (32 : Int32)), .val (.int (Nat.toInt32 nn)), .val (.ref b5), .val (.int i6), .val (.int (23 : Int32)), .val (.int (Int32.ofNat ((own_sg Hh k3 + 46) % 32))), .val (.int i9), .val (.int i10), .unset, .unset, .unset, .unset] [(.int i6), (.int (Int32.ofNat ((own_sg Hh k3 + 46) % 32)))])
                refine Dn.st (fun t q => XS.icmpNo X30.here hx rfl (hb hby d3_160) rfl (flt (own_nover h6 hH hsg hgt)).2.2.1 q) ?_
                show Dn p e below s _ _ _ T30 (mkF m 163 #[.val (.ref a1), .val (.ref a2), .val (.int x2), .val (.int (32 : Int32)), .val (.int (Nat.toInt32 nn)), .val (.ref b5), .val (.int i6), .val (.int (23 : Int32)), .val (.int (Int32.ofNat ((own_sg Hh k3 + 46) % 32))), .val (.int i9), .val (.int i10), .unset, .unset, .unset, .unset] [])
                rw [show (Int32.ofNat ((own_sg Hh k3 + 46) % 32)) = (Int32.ofNat (own_sg Hh (k3 + 1))) from (own_sg2 h6 hgt)]
                show Dn p e below s _ _ _ T30 (mkF m 163 #[.val (.ref a1), .val (.ref a2), .val (.int x2), .val (.int (32 : Int32)), .val (.int (Nat.toInt32 nn)), .val (.ref b5), .val (.int i6), .val (.int (23 : Int32)), .val (.int (Int32.ofNat (own_sg Hh (k3 + 1)))), .val (.int i9), .val (.int i10), .unset, .unset, .unset, .unset] [])
                refine Dn.st (fun t q => XS.iinc X30.here hx rfl (hb hby d3_163) rfl (l' := #[.val (.ref a1), .val (.ref a2), .val (.int x2), .val (.int (32 : Int32)), .val (.int (Nat.toInt32 nn)), .val (.ref b5), .val (.int i6), .val (.int (23 : Int32)), .val (.int (Int32.ofNat (own_sg Hh (k3 + 1)))), .val (.int i9), .val (.int (i10 + (1 : Int32))), .unset, .unset, .unset, .unset]) rfl q) ?_
                show Dn p e below s _ _ _ T30 (mkF m 166 #[.val (.ref a1), .val (.ref a2), .val (.int x2), .val (.int (32 : Int32)), .val (.int (Nat.toInt32 nn)), .val (.ref b5), .val (.int i6), .val (.int (23 : Int32)), .val (.int (Int32.ofNat (own_sg Hh (k3 + 1)))), .val (.int i9), .val (.int (i10 + (1 : Int32))), .unset, .unset, .unset, .unset] [])
                refine Dn.st (fun t q => XS.goto X30.here hx rfl (pc0 := 166) (pc' := 129) rfl (hb hby d3_166) (by decide) (by decide) q) ?_
                show Dn p e below s _ _ _ T30 (mkF m 129 #[.val (.ref a1), .val (.ref a2), .val (.int x2), .val (.int (32 : Int32)), .val (.int (Nat.toInt32 nn)), .val (.ref b5), .val (.int i6), .val (.int (23 : Int32)), .val (.int (Int32.ofNat (own_sg Hh (k3 + 1)))), .val (.int i9), .val (.int (i10 + (1 : Int32))), .unset, .unset, .unset, .unset] [])
                exact ih3 (i + 1) (i10 + (1 : Int32)) (k3 + 1) (own_ud Y3 (own_sg Hh k3) s2) _ _ X30 _ e30 N0 Z0 K0 E_a1 F_counts F_first F_byState F_states A_a2 A_b5 E_bc A_bc (own_ix hi10 (i := 1) rfl (by omega)) (by omega) (own_J2_lay hJ3 hsn hH (by omega))
              · refine Dn.st (fun t q => XS.icmpNo X30.here hx rfl (hb hby d3_160) rfl (flt hgt).2.2.1 q) ?_
                show Dn p e below s _ _ _ T30 (mkF m 163 #[.val (.ref a1), .val (.ref a2), .val (.int x2), .val (.int (32 : Int32)), .val (.int (Nat.toInt32 nn)), .val (.ref b5), .val (.int i6), .val (.int (23 : Int32)), .val (.int (Int32.ofNat ((own_sg Hh k3 + 23) % 32))), .val (.int i9), .val (.int i10), .unset, .unset, .unset, .unset] [])
                rw [show (Int32.ofNat ((own_sg Hh k3 + 23) % 32)) = (Int32.ofNat (own_sg Hh (k3 + 1))) from (own_sg1 h6 hgt)]
                show Dn p e below s _ _ _ T30 (mkF m 163 #[.val (.ref a1), .val (.ref a2), .val (.int x2), .val (.int (32 : Int32)), .val (.int (Nat.toInt32 nn)), .val (.ref b5), .val (.int i6), .val (.int (23 : Int32)), .val (.int (Int32.ofNat (own_sg Hh (k3 + 1)))), .val (.int i9), .val (.int i10), .unset, .unset, .unset, .unset] [])
                refine Dn.st (fun t q => XS.iinc X30.here hx rfl (hb hby d3_163) rfl (l' := #[.val (.ref a1), .val (.ref a2), .val (.int x2), .val (.int (32 : Int32)), .val (.int (Nat.toInt32 nn)), .val (.ref b5), .val (.int i6), .val (.int (23 : Int32)), .val (.int (Int32.ofNat (own_sg Hh (k3 + 1)))), .val (.int i9), .val (.int (i10 + (1 : Int32))), .unset, .unset, .unset, .unset]) rfl q) ?_
                show Dn p e below s _ _ _ T30 (mkF m 166 #[.val (.ref a1), .val (.ref a2), .val (.int x2), .val (.int (32 : Int32)), .val (.int (Nat.toInt32 nn)), .val (.ref b5), .val (.int i6), .val (.int (23 : Int32)), .val (.int (Int32.ofNat (own_sg Hh (k3 + 1)))), .val (.int i9), .val (.int (i10 + (1 : Int32))), .unset, .unset, .unset, .unset] [])
                refine Dn.st (fun t q => XS.goto X30.here hx rfl (pc0 := 166) (pc' := 129) rfl (hb hby d3_166) (by decide) (by decide) q) ?_
                show Dn p e below s _ _ _ T30 (mkF m 129 #[.val (.ref a1), .val (.ref a2), .val (.int x2), .val (.int (32 : Int32)), .val (.int (Nat.toInt32 nn)), .val (.ref b5), .val (.int i6), .val (.int (23 : Int32)), .val (.int (Int32.ofNat (own_sg Hh (k3 + 1)))), .val (.int i9), .val (.int (i10 + (1 : Int32))), .unset, .unset, .unset, .unset] [])
                exact ih3 (i + 1) (i10 + (1 : Int32)) (k3 + 1) (own_ud Y3 (own_sg Hh k3) s2) _ _ X30 _ e30 N0 Z0 K0 E_a1 F_counts F_first F_byState F_states A_a2 A_b5 E_bc A_bc (own_ix hi10 (i := 1) rfl (by omega)) (by omega) (own_J2_lay hJ3 hsn hH (by omega))
          exact lp3 _ 0 (0 : Int32) k Y2 _ _ XL _ eL N0 Z0 K0 E_a1 F_counts F_first F_byState F_states A_a2 A_b5 E_bc A_bc rfl (Nat.zero_add _) hJ2
      exact lp2 nn 0 (0 : Int32) 0 Y .unset _ _ XL _ eL N0 Z0 K0 E_a1 F_counts F_first F_byState F_states A_a2 A_b5 E_bc A_bc One.u rfl (Nat.zero_add _) (own_J2_0 hJ1)
    | succ r1 ih1 =>
      intro sN i7 Hh i6 Y TL lcL XL hL eL N0 Z0 K0 E_a1 F_counts F_first F_byState F_states A_a2 A_b5 E_bc A_bc hs h7 h6 hJ
      refine Dn.st (fun t q => XS.iload XL.here hx rfl (hb hby d3_49) rfl  q) ?_
      show Dn p e below s _ _ _ TL (mkF m 51 #[.val (.ref a1), .val (.ref a2), .val (.int x2), .val (.int (32 : Int32)), .val (.int (Nat.toInt32 nn)), .val (.ref b5), .val (.int i6), .val (.int i7), .unset, .unset, .unset, .unset, .unset, .unset, .unset] [(.int i7)])
      refine Dn.st (fun t q => XS.iload XL.here hx rfl (hb hby d3_51) rfl  q) ?_
      show Dn p e below s _ _ _ TL (mkF m 53 #[.val (.ref a1), .val (.ref a2), .val (.int x2), .val (.int (32 : Int32)), .val (.int (Nat.toInt32 nn)), .val (.ref b5), .val (.int i6), .val (.int i7), .unset, .unset, .unset, .unset, .unset, .unset, .unset] [(.int (Nat.toInt32 nn)), (.int i7)])
      refine Dn.st (fun t q => XS.icmpNo XL.here hx rfl (hb hby d3_53) rfl (tlt (own_in hok h7 hs)).2.1 q) ?_
      show Dn p e below s _ _ _ TL (mkF m 56 #[.val (.ref a1), .val (.ref a2), .val (.int x2), .val (.int (32 : Int32)), .val (.int (Nat.toInt32 nn)), .val (.ref b5), .val (.int i6), .val (.int i7), .unset, .unset, .unset, .unset, .unset, .unset, .unset] [])
      have hsn : sN < nn := by omega
      refine Dn.st (fun t q => XS.aloadN XL.here hx rfl (hb hby d3_56) rfl rfl  q) ?_
      show Dn p e below s _ _ _ TL (mkF m 57 #[.val (.ref a1), .val (.ref a2), .val (.int x2), .val (.int (32 : Int32)), .val (.int (Nat.toInt32 nn)), .val (.ref b5), .val (.int i6), .val (.int i7), .unset, .unset, .unset, .unset, .unset, .unset, .unset] [(.ref a2)])
      refine Dn.st (fun t q => XS.iload XL.here hx rfl (hb hby d3_57) rfl  q) ?_
      show Dn p e below s _ _ _ TL (mkF m 59 #[.val (.ref a1), .val (.ref a2), .val (.int x2), .val (.int (32 : Int32)), .val (.int (Nat.toInt32 nn)), .val (.ref b5), .val (.int i6), .val (.int i7), .unset, .unset, .unset, .unset, .unset, .unset, .unset] [(.int i7), (.ref a2)])
      refine Dn.st (aLoadI (w := P) XL hx hZ eL A_a2 (i := sN) h7 hsn (g := (mkF m 59 #[.val (.ref a1), .val (.ref a2), .val (.int x2), .val (.int (32 : Int32)), .val (.int (Nat.toInt32 nn)), .val (.ref b5), .val (.int i6), .val (.int i7), .unset, .unset, .unset, .unset, .unset, .unset, .unset] [(.int i7), (.ref a2)])) rfl rfl (hb hby d3_59)) ?_
      show Dn p e below s _ _ _ TL (mkF m 60 #[.val (.ref a1), .val (.ref a2), .val (.int x2), .val (.int (32 : Int32)), .val (.int (Nat.toInt32 nn)), .val (.ref b5), .val (.int i6), .val (.int i7), .unset, .unset, .unset, .unset, .unset, .unset, .unset] [(.int (P sN))])
      refine Dn.st (fun t q => XS.iconst XL.here hx rfl (hb hby d3_60) q) ?_
      show Dn p e below s _ _ _ TL (mkF m 61 #[.val (.ref a1), .val (.ref a2), .val (.int x2), .val (.int (32 : Int32)), .val (.int (Nat.toInt32 nn)), .val (.ref b5), .val (.int i6), .val (.int i7), .unset, .unset, .unset, .unset, .unset, .unset, .unset] [(.int (-1 : Int32)), (.int (P sN))])
      by_cases hp : (P sN) = (-1 : Int32)
      · refine Dn.st (fun t q => XS.icmpNo XL.here hx rfl (hb hby d3_61) rfl (teq hp).2 q) ?_
        show Dn p e below s _ _ _ TL (mkF m 64 #[.val (.ref a1), .val (.ref a2), .val (.int x2), .val (.int (32 : Int32)), .val (.int (Nat.toInt32 nn)), .val (.ref b5), .val (.int i6), .val (.int i7), .unset, .unset, .unset, .unset, .unset, .unset, .unset] [])
        obtain ⟨hJ', hH1, hH2, hH3⟩ := own_J1_m hok hsn hJ hp
        refine Dn.st (fun t q => XS.aload XL.here hx rfl (hb hby d3_64) rfl rfl  q) ?_
        show Dn p e below s _ _ _ TL (mkF m 66 #[.val (.ref a1), .val (.ref a2), .val (.int x2), .val (.int (32 : Int32)), .val (.int (Nat.toInt32 nn)), .val (.ref b5), .val (.int i6), .val (.int i7), .unset, .unset, .unset, .unset, .unset, .unset, .unset] [(.ref b5)])
        refine Dn.st (fun t q => XS.iload XL.here hx rfl (hb hby d3_66) rfl  q) ?_
        show Dn p e below s _ _ _ TL (mkF m 68 #[.val (.ref a1), .val (.ref a2), .val (.int x2), .val (.int (32 : Int32)), .val (.int (Nat.toInt32 nn)), .val (.ref b5), .val (.int i6), .val (.int i7), .unset, .unset, .unset, .unset, .unset, .unset, .unset] [(.int i6), (.ref b5)])
        refine Dn.st (fun t q => XS.iinc XL.here hx rfl (hb hby d3_68) rfl (l' := #[.val (.ref a1), .val (.ref a2), .val (.int x2), .val (.int (32 : Int32)), .val (.int (Nat.toInt32 nn)), .val (.ref b5), .val (.int (i6 + (-1 : Int32))), .val (.int i7), .unset, .unset, .unset, .unset, .unset, .unset, .unset]) rfl q) ?_
        show Dn p e below s _ _ _ TL (mkF m 71 #[.val (.ref a1), .val (.ref a2), .val (.int x2), .val (.int (32 : Int32)), .val (.int (Nat.toInt32 nn)), .val (.ref b5), .val (.int (i6 + (-1 : Int32))), .val (.int i7), .unset, .unset, .unset, .unset, .unset, .unset, .unset] [(.int i6), (.ref b5)])
        refine Dn.st (fun t q => XS.iload XL.here hx rfl (hb hby d3_71) rfl  q) ?_
        show Dn p e below s _ _ _ TL (mkF m 73 #[.val (.ref a1), .val (.ref a2), .val (.int x2), .val (.int (32 : Int32)), .val (.int (Nat.toInt32 nn)), .val (.ref b5), .val (.int (i6 + (-1 : Int32))), .val (.int i7), .unset, .unset, .unset, .unset, .unset, .unset, .unset] [(.int i7), (.int i6), (.ref b5)])
        obtain ⟨T31, h31, X31, e31, W31, B31, st31⟩ := aStoI XL hx hZ eL A_b5 (i := Hh) h6 hH2 (g := (mkF m 73 #[.val (.ref a1), .val (.ref a2), .val (.int x2), .val (.int (32 : Int32)), .val (.int (Nat.toInt32 nn)), .val (.ref b5), .val (.int (i6 + (-1 : Int32))), .val (.int i7), .unset, .unset, .unset, .unset, .unset, .unset, .unset] [(.int i7), (.int i6), (.ref b5)])) rfl rfl (hb hby d3_73)
        have N0 := Fr.snoc X31 N0 g_b5
        have Z0 := Nat.le_trans Z0 (Keep.of_wr W31).1
        have K0 := K0.wr W31 (Or.inr sz_b5)
        have E_a1 := E_a1.wr W31
        have F_counts := F_counts.other W31 (Or.inl ne_a1_b5)
        have F_first := F_first.other W31 (Or.inl ne_a1_b5)
        have F_byState := F_byState.other W31 (Or.inl ne_a1_b5)
        have F_states := F_states.other W31 (Or.inl ne_a1_b5)
        have A_a2 := A_a2.other W31 ne_a2_b5
        have E_bc := E_bc.wr W31
        have A_bc := A_bc.other W31 (Ne.symm ne_b5_bc)
        have A_b5 : Ary Z h31 b5 .int 32 (fun x => .int (Int32.ofNat (own_ud Y Hh sN x))) := B31.congr (own_ud_eq h7)
        refine Dn.st st31 ?_
        show Dn p e below s _ _ _ T31 (mkF m 74 #[.val (.ref a1), .val (.ref a2), .val (.int x2), .val (.int (32 : Int32)), .val (.int (Nat.toInt32 nn)), .val (.ref b5), .val (.int (i6 + (-1 : Int32))), .val (.int i7), .unset, .unset, .unset, .unset, .unset, .unset, .unset] [])
        refine Dn.st (fun t q => XS.aloadN X31.here hx rfl (hb hby d3_74) rfl rfl  q) ?_
        show Dn p e below s _ _ _ T31 (mkF m 75 #[.val (.ref a1), .val (.ref a2), .val (.int x2), .val (.int (32 : Int32)), .val (.int (Nat.toInt32 nn)), .val (.ref b5), .val (.int (i6 + (-1 : Int32))), .val (.int i7), .unset, .unset, .unset, .unset, .unset, .unset, .unset] [(.ref a1)])
        obtain ⟨T32, X32, e32, st32⟩ := getF X31 hx hZ hown (host := "") (Or.inl (hw _ (List.mem_of_getElem? (i := 31) rfl))) Via.refl e31 F_counts (g := (mkF m 75 #[.val (.ref a1), .val (.ref a2), .val (.int x2), .val (.int (32 : Int32)), .val (.int (Nat.toInt32 nn)), .val (.ref b5), .val (.int (i6 + (-1 : Int32))), .val (.int i7), .unset, .unset, .unset, .unset, .unset, .unset, .unset] [(.ref a1)])) rfl rfl (hb hby d3_75)
        refine Dn.st st32 ?_
        show Dn p e below s _ _ _ T32 (mkF m 78 #[.val (.ref a1), .val (.ref a2), .val (.int x2), .val (.int (32 : Int32)), .val (.int (Nat.toInt32 nn)), .val (.ref b5), .val (.int (i6 + (-1 : Int32))), .val (.int i7), .unset, .unset, .unset, .unset, .unset, .unset, .unset] [(.ref bc)])
        refine Dn.st (fun t q => XS.iload X32.here hx rfl (hb hby d3_78) rfl  q) ?_
        show Dn p e below s _ _ _ T32 (mkF m 80 #[.val (.ref a1), .val (.ref a2), .val (.int x2), .val (.int (32 : Int32)), .val (.int (Nat.toInt32 nn)), .val (.ref b5), .val (.int (i6 + (-1 : Int32))), .val (.int i7), .unset, .unset, .unset, .unset, .unset, .unset, .unset] [(.int i7), (.ref bc)])
        refine Dn.st (fun t q => XS.iconst X32.here hx rfl (hb hby d3_80) q) ?_
        show Dn p e below s _ _ _ T32 (mkF m 81 #[.val (.ref a1), .val (.ref a2), .val (.int x2), .val (.int (32 : Int32)), .val (.int (Nat.toInt32 nn)), .val (.ref b5), .val (.int (i6 + (-1 : Int32))), .val (.int i7), .unset, .unset, .unset, .unset, .unset, .unset, .unset] [(.int (1 : Int32)), (.int i7), (.ref bc)])
        obtain ⟨T33, h33, X33, e33, W33, B33, st33⟩ := aStoI X32 hx hZ e32 A_bc (i := sN) h7 hsn (g := (mkF m 81 #[.val (.ref a1), .val (.ref a2), .val (.int x2), .val (.int (32 : Int32)), .val (.int (Nat.toInt32 nn)), .val (.ref b5), .val (.int (i6 + (-1 : Int32))), .val (.int i7), .unset, .unset, .unset, .unset, .unset, .unset, .unset] [(.int (1 : Int32)), (.int i7), (.ref bc)])) rfl rfl (hb hby d3_81)
        have N0 := Fr.snoc X33 N0 g_bc
        have Z0 := Nat.le_trans Z0 (Keep.of_wr W33).1
        have K0 := K0.wr W33 (Or.inr sz_bc)
        have E_a1 := E_a1.wr W33
        have F_counts := F_counts.other W33 (Or.inl ne_a1_bc)
        have F_first := F_first.other W33 (Or.inl ne_a1_bc)
        have F_byState := F_byState.other W33 (Or.inl ne_a1_bc)
        have F_states := F_states.other W33 (Or.inl ne_a1_bc)
        have A_a2 := A_a2.other W33 ne_a2_bc
        have E_bc := E_bc.wr W33
        have A_b5 := A_b5.other W33 ne_b5_bc
        have A_bc : Ary Z h33 bc .int nn (fun x => .int (if x < sN + 1 then own_cn (P x) else (0 : Int32))) := B33.congr (own_cnt_eq (own_cnm hp))
        refine Dn.st st33 ?_
        show Dn p e below s _ _ _ T33 (mkF m 82 #[.val (.ref a1), .val (.ref a2), .val (.int x2), .val (.int (32 : Int32)), .val (.int (Nat.toInt32 nn)), .val (.ref b5), .val (.int (i6 + (-1 : Int32))), .val (.int i7), .unset, .unset, .unset, .unset, .unset, .unset, .unset] [])
        refine Dn.st (fun t q => XS.goto X33.here hx rfl (pc0 := 82) (pc' := 96) rfl (hb hby d3_82) (by decide) (by decide) q) ?_
        show Dn p e below s _ _ _ T33 (mkF m 96 #[.val (.ref a1), .val (.ref a2), .val (.int x2), .val (.int (32 : Int32)), .val (.int (Nat.toInt32 nn)), .val (.ref b5), .val (.int (i6 + (-1 : Int32))), .val (.int i7), .unset, .unset, .unset, .unset, .unset, .unset, .unset] [])
        refine Dn.st (fun t q => XS.iinc X33.here hx rfl (hb hby d3_96) rfl (l' := #[.val (.ref a1), .val (.ref a2), .val (.int x2), .val (.int (32 : Int32)), .val (.int (Nat.toInt32 nn)), .val (.ref b5), .val (.int (i6 + (-1 : Int32))), .val (.int (i7 + (1 : Int32))), .unset, .unset, .unset, .unset, .unset, .unset, .unset]) rfl q) ?_
        show Dn p e below s _ _ _ T33 (mkF m 99 #[.val (.ref a1), .val (.ref a2), .val (.int x2), .val (.int (32 : Int32)), .val (.int (Nat.toInt32 nn)), .val (.ref b5), .val (.int (i6 + (-1 : Int32))), .val (.int (i7 + (1 : Int32))), .unset, .unset, .unset, .unset, .unset, .unset, .unset] [])
        refine Dn.st (fun t q => XS.goto X33.here hx rfl (pc0 := 99) (pc' := 49) rfl (hb hby d3_99) (by decide) (by decide) q) ?_
        show Dn p e below s _ _ _ T33 (mkF m 49 #[.val (.ref a1), .val (.ref a2), .val (.int x2), .val (.int (32 : Int32)), .val (.int (Nat.toInt32 nn)), .val (.ref b5), .val (.int (i6 + (-1 : Int32))), .val (.int (i7 + (1 : Int32))), .unset, .unset, .unset, .unset, .unset, .unset, .unset] [])
        exact ih1 (sN + 1) (i7 + (1 : Int32)) (Hh - 1) (i6 + (-1 : Int32)) (own_ud Y Hh sN) _ _ X33 _ e33 N0 Z0 K0 E_a1 F_counts F_first F_byState F_states A_a2 A_b5 E_bc A_bc (by omega) (own_ix h7 (i := 1) rfl (by omega)) (own_decH h6 hH3) hJ'
      · refine Dn.st (fun t q => XS.icmpYes XL.here hx rfl (pc0 := 61) (pc' := 85) rfl (hb hby d3_61) rfl (feq hp).2 (by decide) (by decide) q) ?_
        show Dn p e below s _ _ _ TL (mkF m 85 #[.val (.ref a1), .val (.ref a2), .val (.int x2), .val (.int (32 : Int32)), .val (.int (Nat.toInt32 nn)), .val (.ref b5), .val (.int i6), .val (.int i7), .unset, .unset, .unset, .unset, .unset, .unset, .unset] [])
        refine Dn.st (fun t q => XS.aloadN XL.here hx rfl (hb hby d3_85) rfl rfl  q) ?_
        show Dn p e below s _ _ _ TL (mkF m 86 #[.val (.ref a1), .val (.ref a2), .val (.int x2), .val (.int (32 : Int32)), .val (.int (Nat.toInt32 nn)), .val (.ref b5), .val (.int i6), .val (.int i7), .unset, .unset, .unset, .unset, .unset, .unset, .unset] [(.ref a1)])
        obtain ⟨T34, X34, e34, st34⟩ := getF XL hx hZ hown (host := "") (Or.inl (hw _ (List.mem_of_getElem? (i := 31) rfl))) Via.refl eL F_counts (g := (mkF m 86 #[.val (.ref a1), .val (.ref a2), .val (.int x2), .val (.int (32 : Int32)), .val (.int (Nat.toInt32 nn)), .val (.ref b5), .val (.int i6), .val (.int i7), .unset, .unset, .unset, .unset, .unset, .unset, .unset] [(.ref a1)])) rfl rfl (hb hby d3_86)
        refine Dn.st st34 ?_
        show Dn p e below s _ _ _ T34 (mkF m 89 #[.val (.ref a1), .val (.ref a2), .val (.int x2), .val (.int (32 : Int32)), .val (.int (Nat.toInt32 nn)), .val (.ref b5), .val (.int i6), .val (.int i7), .unset, .unset, .unset, .unset, .unset, .unset, .unset] [(.ref bc)])
        refine Dn.st (fun t q => XS.iload X34.here hx rfl (hb hby d3_89) rfl  q) ?_
        show Dn p e below s _ _ _ T34 (mkF m 91 #[.val (.ref a1), .val (.ref a2), .val (.int x2), .val (.int (32 : Int32)), .val (.int (Nat.toInt32 nn)), .val (.ref b5), .val (.int i6), .val (.int i7), .unset, .unset, .unset, .unset, .unset, .unset, .unset] [(.int i7), (.ref bc)])
        refine Dn.st (fun t q => XS.aloadN X34.here hx rfl (hb hby d3_91) rfl rfl  q) ?_
        show Dn p e below s _ _ _ T34 (mkF m 92 #[.val (.ref a1), .val (.ref a2), .val (.int x2), .val (.int (32 : Int32)), .val (.int (Nat.toInt32 nn)), .val (.ref b5), .val (.int i6), .val (.int i7), .unset, .unset, .unset, .unset, .unset, .unset, .unset] [(.ref a2), (.int i7), (.ref bc)])
        refine Dn.st (fun t q => XS.iload X34.here hx rfl (hb hby d3_92) rfl  q) ?_
        show Dn p e below s _ _ _ T34 (mkF m 94 #[.val (.ref a1), .val (.ref a2), .val (.int x2), .val (.int (32 : Int32)), .val (.int (Nat.toInt32 nn)), .val (.ref b5), .val (.int i6), .val (.int i7), .unset, .unset, .unset, .unset, .unset, .unset, .unset] [(.int i7), (.ref a2), (.int i7), (.ref bc)])
        refine Dn.st (aLoadI (w := P) X34 hx hZ e34 A_a2 (i := sN) h7 hsn (g := (mkF m 94 #[.val (.ref a1), .val (.ref a2), .val (.int x2), .val (.int (32 : Int32)), .val (.int (Nat.toInt32 nn)), .val (.ref b5), .val (.int i6), .val (.int i7), .unset, .unset, .unset, .unset, .unset, .unset, .unset] [(.int i7), (.ref a2), (.int i7), (.ref bc)])) rfl rfl (hb hby d3_94)) ?_
        show Dn p e below s _ _ _ T34 (mkF m 95 #[.val (.ref a1), .val (.ref a2), .val (.int x2), .val (.int (32 : Int32)), .val (.int (Nat.toInt32 nn)), .val (.ref b5), .val (.int i6), .val (.int i7), .unset, .unset, .unset, .unset, .unset, .unset, .unset] [(.int (P sN)), (.int i7), (.ref bc)])
        obtain ⟨T35, h35, X35, e35, W35, B35, st35⟩ := aStoI X34 hx hZ e34 A_bc (i := sN) h7 hsn (g := (mkF m 95 #[.val (.ref a1), .val (.ref a2), .val (.int x2), .val (.int (32 : Int32)), .val (.int (Nat.toInt32 nn)), .val (.ref b5), .val (.int i6), .val (.int i7), .unset, .unset, .unset, .unset, .unset, .unset, .unset] [(.int (P sN)), (.int i7), (.ref bc)])) rfl rfl (hb hby d3_95)
        have N0 := Fr.snoc X35 N0 g_bc
        have Z0 := Nat.le_trans Z0 (Keep.of_wr W35).1
        have K0 := K0.wr W35 (Or.inr sz_bc)
        have E_a1 := E_a1.wr W35
        have F_counts := F_counts.other W35 (Or.inl ne_a1_bc)
        have F_first := F_first.other W35 (Or.inl ne_a1_bc)
        have F_byState := F_byState.other W35 (Or.inl ne_a1_bc)
        have F_states := F_states.other W35 (Or.inl ne_a1_bc)
        have A_a2 := A_a2.other W35 ne_a2_bc
        have A_b5 := A_b5.other W35 ne_b5_bc
        have E_bc := E_bc.wr W35
        have A_bc : Ary Z h35 bc .int nn (fun x => .int (if x < sN + 1 then own_cn (P x) else (0 : Int32))) := B35.congr (own_cnt_eq (own_cnp hp))
        refine Dn.st st35 ?_
        show Dn p e below s _ _ _ T35 (mkF m 96 #[.val (.ref a1), .val (.ref a2), .val (.int x2), .val (.int (32 : Int32)), .val (.int (Nat.toInt32 nn)), .val (.ref b5), .val (.int i6), .val (.int i7), .unset, .unset, .unset, .unset, .unset, .unset, .unset] [])
        refine Dn.st (fun t q => XS.iinc X35.here hx rfl (hb hby d3_96) rfl (l' := #[.val (.ref a1), .val (.ref a2), .val (.int x2), .val (.int (32 : Int32)), .val (.int (Nat.toInt32 nn)), .val (.ref b5), .val (.int i6), .val (.int (i7 + (1 : Int32))), .unset, .unset, .unset, .unset, .unset, .unset, .unset]) rfl q) ?_
        show Dn p e below s _ _ _ T35 (mkF m 99 #[.val (.ref a1), .val (.ref a2), .val (.int x2), .val (.int (32 : Int32)), .val (.int (Nat.toInt32 nn)), .val (.ref b5), .val (.int i6), .val (.int (i7 + (1 : Int32))), .unset, .unset, .unset, .unset, .unset, .unset, .unset] [])
        refine Dn.st (fun t q => XS.goto X35.here hx rfl (pc0 := 99) (pc' := 49) rfl (hb hby d3_99) (by decide) (by decide) q) ?_
        show Dn p e below s _ _ _ T35 (mkF m 49 #[.val (.ref a1), .val (.ref a2), .val (.int x2), .val (.int (32 : Int32)), .val (.int (Nat.toInt32 nn)), .val (.ref b5), .val (.int i6), .val (.int (i7 + (1 : Int32))), .unset, .unset, .unset, .unset, .unset, .unset, .unset] [])
        exact ih1 (sN + 1) (i7 + (1 : Int32)) Hh i6 Y _ _ X35 _ e35 N0 Z0 K0 E_a1 F_counts F_first F_byState F_states A_a2 A_b5 E_bc A_bc (by omega) (own_ix h7 (i := 1) rfl (by omega)) h6 (own_J1_p hJ hp)
  exact lp1 nn 0 (0 : Int32) 31 (31 : Int32) (fun _ => 0) _ _ X8 _ e8 N0 Z0 K0 E_a1 F_counts F_first F_byState F_states A_a2 A_b5 E_bc A_bc (Nat.zero_add _) rfl rfl (own_J1_0 hok)
theorem d7_0 : decode prog_10_method_7_code 0 = .ok (.iload_n 1, 1) := by decide +kernel
theorem d7_1 : decode prog_10_method_7_code 1 = .ok (.aload_n 0, 1) := by decide +kernel
theorem d7_2 : decode prog_10_method_7_code 2 = .ok (.getfield 22, 3) := by decide +kernel
theorem d7_5 : decode prog_10_method_7_code 5 = .ok (.arraylength, 1) := by decide +kernel
theorem d7_6 : decode prog_10_method_7_code 6 = .ok (.if_icmp .ge 16, 3) := by decide +kernel
theorem d7_9 : decode prog_10_method_7_code 9 = .ok (.aload_n 0, 1) := by decide +kernel
theorem d7_10 : decode prog_10_method_7_code 10 = .ok (.getfield 22, 3) := by decide +kernel
theorem d7_13 : decode prog_10_method_7_code 13 = .ok (.iload_n 1, 1) := by decide +kernel
theorem d7_14 : decode prog_10_method_7_code 14 = .ok (.iaload, 1) := by decide +kernel
theorem d7_15 : decode prog_10_method_7_code 15 = .ok (.ifCond .le 7, 3) := by decide +kernel
theorem d7_18 : decode prog_10_method_7_code 18 = .ok (.iconst 1, 1) := by decide +kernel
theorem d7_19 : decode prog_10_method_7_code 19 = .ok (.goto 4, 3) := by decide +kernel
theorem d7_23 : decode prog_10_method_7_code 23 = .ok (.ireturn, 1) := by decide +kernel
theorem d7_22 : decode prog_10_method_7_code 22 = .ok (.iconst 0, 1) := by decide +kernel
theorem ef_rm7 (m : MethodId) (x0 : Addr) (x1 : Int32) : entryFrame m #[(.ref x0), (.int x1)] 2 = mkF m 0 #[.val (.ref x0), .val (.int x1)] [] := by first | (simp [entryFrame, mkF, argsToLocals, Value.category]; done) | rfl
def Q7 (Z : State) (a1 : Addr) (x1 : Int32) (bc : Addr) (P : Nat → Int32) (nn : Nat) (i1 : Nat) (h0 : Heap) (n0 : Nat) (v : Option Value) (h : Heap) (L : List Loc) : Prop := v = some (.int (own_has P nn x1)) ∧ Fr n0 L ∧ h = h0
set_option maxRecDepth 65536 in
set_option maxHeartbeats 40000000 in
theorem rm7 (l : Launch) (Z : State) (a0 : Array Value) (hw : ∀ d ∈ tables_1, d.before a0 Z = true) (ws : List Jvm.Cond) (a1 : Addr) (x1 : Int32) (bc : Addr) (P : Nat → Int32) (nn : Nat) (i1 : Nat) (h0 : Heap) (n0 : Nat) (Z0 : n0 ≤ h0.size) (F_counts : Fld Z h0 a1 "keyfold/Fse" "counts" "[I" (.ref bc)) (A : Ary Z h0 bc .int nn (fun x => .int (own_cn (P x)))) (hx1 : x1.toInt = (i1 : Int)) (hn5 : nn ≤ 5) :
    MetFree l (⟨"keyfold/Fse", "has", "(I)Z"⟩ : MethodName) (head1 (Jvm.Cond.code (⟨"keyfold/Fse", "has", "(I)Z"⟩ : MethodName) prog_10_method_7_code 2 (some .boolean) :: ws) ({ frames := 0, cells := 0, slots := 0, locals := 0 } : Room)) (fun a U => a = #[(.ref a1), (.int x1)] ∧ Z.Warmed39 U.vm ∧ U.heap = h0) (fun _ _ _ _ _ => True) (fun _ U o U' => ∃ v L, o = .returned v ∧ Q7 Z a1 x1 bc P nn i1 h0 n0 v U'.heap L ∧ FrameEnd U o U' L ({ frames := 0, cells := 0, slots := 0, locals := 0 } : Room).cells ({ frames := 0, cells := 0, slots := 0, locals := 0 } : Room).slots) := by
  refine MetFree.of_bodySF (plainFor_of_name pn_3) hisR ?_
  intro p e s m args below meth c s₁ Bd hml0 hP hK
  obtain ⟨rfl, hZ, hh⟩ := hP
  have hx := Bd.exec
  have hby := Bd.bytes
  have hml : c.maxLocals = 2 := hml0
  have hown : s.vm.findClass "keyfold/Fse" = some m.cls := findClass_of_methodNamed Bd.named
  have hnm := (name_of_methodNamed Bd.named Bd.method).1
  have X0 : Stand p l e ({ frames := 0, cells := 0, slots := 0, locals := 0 } : Room) s m #[(.ref a1), (.int x1)] below meth c s₁ [] 0 0 := Stand.of_body Bd
  have e0 : s₁.heap = h0 := by rw [← hh, Bd.state]; rfl
  have N0 := Fr.nil n0
  have K0 := Keep.refl h0 []
  suffices hD : Dn p e below s (Q7 Z a1 x1 bc P nn i1 h0 n0) ({ frames := 0, cells := 0, slots := 0, locals := 0 } : Room).cells ({ frames := 0, cells := 0, slots := 0, locals := 0 } : Room).slots s₁ (mkF m 0 #[.val (.ref a1), .val (.int x1)] []) from by
    obtain ⟨s₂, o, q1, q2⟩ := hD
    exact ⟨s₂, o, castTop (ef_rm7 m a1 x1) q1, q2⟩
  refine Dn.st (fun t q => XS.iloadN X0.here hx rfl (hb hby d7_0) rfl  q) ?_
  show Dn p e below s _ _ _ s₁ (mkF m 1 #[.val (.ref a1), .val (.int x1)] [(.int x1)])
  refine Dn.st (fun t q => XS.aloadN X0.here hx rfl (hb hby d7_1) rfl rfl  q) ?_
  show Dn p e below s _ _ _ s₁ (mkF m 2 #[.val (.ref a1), .val (.int x1)] [(.ref a1), (.int x1)])
  obtain ⟨T1, X1, e1, st1⟩ := getF X0 hx hZ hown (host := "") (Or.inl (hw _ (List.mem_of_getElem? (i := 31) rfl))) Via.refl e0 F_counts (g := (mkF m 2 #[.val (.ref a1), .val (.int x1)] [(.ref a1), (.int x1)])) rfl rfl (hb hby d7_2)
  refine Dn.st st1 ?_
  show Dn p e below s _ _ _ T1 (mkF m 5 #[.val (.ref a1), .val (.int x1)] [(.ref bc), (.int x1)])
  refine Dn.st (aLen X1 hx hZ e1 A (g := (mkF m 5 #[.val (.ref a1), .val (.int x1)] [(.ref bc), (.int x1)])) rfl rfl (hb hby d7_5)) ?_
  show Dn p e below s _ _ _ T1 (mkF m 6 #[.val (.ref a1), .val (.int x1)] [(.int (Nat.toInt32 nn)), (.int x1)])
  by_cases h1 : x1 < (Nat.toInt32 nn)
  · refine Dn.st (fun t q => XS.icmpNo X1.here hx rfl (hb hby d7_6) rfl (tlt h1).2.1 q) ?_
    show Dn p e below s _ _ _ T1 (mkF m 9 #[.val (.ref a1), .val (.int x1)] [])
    refine Dn.st (fun t q => XS.aloadN X1.here hx rfl (hb hby d7_9) rfl rfl  q) ?_
    show Dn p e below s _ _ _ T1 (mkF m 10 #[.val (.ref a1), .val (.int x1)] [(.ref a1)])
    obtain ⟨T2, X2, e2, st2⟩ := getF X1 hx hZ hown (host := "") (Or.inl (hw _ (List.mem_of_getElem? (i := 31) rfl))) Via.refl e1 F_counts (g := (mkF m 10 #[.val (.ref a1), .val (.int x1)] [(.ref a1)])) rfl rfl (hb hby d7_10)
    refine Dn.st st2 ?_
    show Dn p e below s _ _ _ T2 (mkF m 13 #[.val (.ref a1), .val (.int x1)] [(.ref bc)])
    refine Dn.st (fun t q => XS.iloadN X2.here hx rfl (hb hby d7_13) rfl  q) ?_
    show Dn p e below s _ _ _ T2 (mkF m 14 #[.val (.ref a1), .val (.int x1)] [(.int x1), (.ref bc)])
    refine Dn.st (aLoadI (w := (fun x => (own_cn (P x)))) X2 hx hZ e2 A (i := i1) hx1 (own_lt1 hx1 hn5 h1) (g := (mkF m 14 #[.val (.ref a1), .val (.int x1)] [(.int x1), (.ref bc)])) rfl rfl (hb hby d7_14)) ?_
    show Dn p e below s _ _ _ T2 (mkF m 15 #[.val (.ref a1), .val (.int x1)] [(.int (own_cn (P (i1))))])
    by_cases h2 : (0 : Int32) < (own_cn (P (i1)))
    · refine Dn.st (fun t q => XS.ifNo X2.here hx rfl (hb hby d7_15) rfl ((if0 _ _).trans (tlt h2).2.2.2) q) ?_
      show Dn p e below s _ _ _ T2 (mkF m 18 #[.val (.ref a1), .val (.int x1)] [])
      refine Dn.st (fun t q => XS.iconst X2.here hx rfl (hb hby d7_18) q) ?_
      show Dn p e below s _ _ _ T2 (mkF m 19 #[.val (.ref a1), .val (.int x1)] [(.int (1 : Int32))])
      refine Dn.st (fun t q => XS.goto X2.here hx rfl (pc0 := 19) (pc' := 23) rfl (hb hby d7_19) (by decide) (by decide) q) ?_
      show Dn p e below s _ _ _ T2 (mkF m 23 #[.val (.ref a1), .val (.int x1)] [(.int (1 : Int32))])
      exact Dn.retZ X2 hx Bd.notSynchronized (t := .boolean) Bd.returns (by simp) (hb hby d7_23) (by rw [e2]; exact ⟨congrArg (fun z => some (Value.int z)) (own_has_1 hx1 h1 h2).symm, N0, rfl⟩) (by decide) (by decide)
    · refine Dn.st (fun t q => XS.ifYes X2.here hx rfl (pc0 := 15) (pc' := 22) rfl (hb hby d7_15) rfl ((if0 _ _).trans (flt h2).2.2.2) (by decide) (by decide) q) ?_
      show Dn p e below s _ _ _ T2 (mkF m 22 #[.val (.ref a1), .val (.int x1)] [])
      refine Dn.st (fun t q => XS.iconst X2.here hx rfl (hb hby d7_22) q) ?_
      show Dn p e below s _ _ _ T2 (mkF m 23 #[.val (.ref a1), .val (.int x1)] [(.int (0 : Int32))])
      exact Dn.retZ X2 hx Bd.notSynchronized (t := .boolean) Bd.returns (by simp) (hb hby d7_23) (by rw [e2]; exact ⟨congrArg (fun z => some (Value.int z)) (own_has_0 hx1 h1 h2).symm, N0, rfl⟩) (by decide) (by decide)
  · refine Dn.st (fun t q => XS.icmpYes X1.here hx rfl (pc0 := 6) (pc' := 22) rfl (hb hby d7_6) rfl (flt h1).2.1 (by decide) (by decide) q) ?_
    show Dn p e below s _ _ _ T1 (mkF m 22 #[.val (.ref a1), .val (.int x1)] [])
    refine Dn.st (fun t q => XS.iconst X1.here hx rfl (hb hby d7_22) q) ?_
    show Dn p e below s _ _ _ T1 (mkF m 23 #[.val (.ref a1), .val (.int x1)] [(.int (0 : Int32))])
    exact Dn.retZ X1 hx Bd.notSynchronized (t := .boolean) Bd.returns (by simp) (hb hby d7_23) (by rw [e1]; exact ⟨congrArg (fun z => some (Value.int z)) (own_has_n h1).symm, N0, rfl⟩) (by decide) (by decide)
theorem pd_1 : parseMethodDescriptor "([II)V" = some ⟨[(.array .int), .int], none⟩ := by decide +kernel
theorem pd_2 : parseMethodDescriptor "(I)Z" = some ⟨[.int], some .boolean⟩ := by decide +kernel
theorem pd_3 : parseMethodDescriptor "(III)I" = some ⟨[.int, .int, .int], some .int⟩ := by decide +kernel
theorem ef_rm0 (m : MethodId) (x0 : Int32) (x1 : Int32) (x2 : Int32) (x3 : Int32) (x4 : Int32) : entryFrame m #[(.int x0), (.int x1), (.int x2), (.int x3), (.int x4)] maxLocals = mkF m 0 #[.val (.int x0), .val (.int x1), .val (.int x2), .val (.int x3), .val (.int x4), .unset, .unset, .unset, .unset, .unset, .unset, .unset] [] := by first | (simp [entryFrame, mkF, argsToLocals, Value.category, maxLocals]; done) | rfl
def Q0 (Z : State) (x0 : Int32) (x1 : Int32) (x2 : Int32) (x3 : Int32) (x4 : Int32) (h0 : Heap) (n0 : Nat) (v : Option Value) (h : Heap) (L : List Loc) : Prop := v = some (.int 1) ∧ Fr n0 L
set_option maxRecDepth 65536 in
set_option maxHeartbeats 40000000 in
theorem rm0 (l : Launch) (Z : State) (a0 : Array Value) (hw : ∀ d ∈ tables_1, d.before a0 Z = true) (ws : List Jvm.Cond) (x0 : Int32) (x1 : Int32) (x2 : Int32) (x3 : Int32) (x4 : Int32) (h0 : Heap) (n0 : Nat) (Z0 : n0 ≤ h0.size) :
    MetFree l x (head1 (Jvm.Cond.code x code maxLocals ret :: ws) room_1) (fun a U => a = #[(.int x0), (.int x1), (.int x2), (.int x3), (.int x4)] ∧ Z.Warmed39 U.vm ∧ U.heap = h0) (fun _ _ _ _ _ => True) (fun _ U o U' => ∃ v L, o = .returned v ∧ Q0 Z x0 x1 x2 x3 x4 h0 n0 v U'.heap L ∧ FrameEnd U o U' L 9 128) := by
  refine MetFree.of_bodySF (plainFor_of_name pn_0) hisR ?_
  intro p e s m args below meth c s₁ Bd hml0 hP hK
  obtain ⟨rfl, hZ, hh⟩ := hP
  have hx := Bd.exec
  have hby := Bd.bytes
  have hml : c.maxLocals = 12 := hml0
  have hown : s.vm.findClass "keyfold/FseHasPinLaw" = some m.cls := findClass_of_methodNamed Bd.named
  have hnm := (name_of_methodNamed Bd.named Bd.method).1
  have X0 : Stand p l e room_1 s m #[(.int x0), (.int x1), (.int x2), (.int x3), (.int x4)] below meth c s₁ [] 0 0 := Stand.of_body Bd
  have e0 : s₁.heap = h0 := by rw [← hh, Bd.state]; rfl
  have N0 := Fr.nil n0
  have K0 := Keep.refl h0 []
  suffices hD : Dn p e below s (Q0 Z x0 x1 x2 x3 x4 h0 n0) 9 128 s₁ (mkF m 0 #[.val (.int x0), .val (.int x1), .val (.int x2), .val (.int x3), .val (.int x4), .unset, .unset, .unset, .unset, .unset, .unset, .unset] []) from by
    obtain ⟨s₂, o, q1, q2⟩ := hD
    exact ⟨s₂, o, castTop (ef_rm0 m x0 x1 x2 x3 x4) q1, q2⟩
  refine Dn.st (fun t q => XS.iconst X0.here hx rfl (hb hby at_0) q) ?_
  show Dn p e below s _ _ _ s₁ (mkF m 1 #[.val (.int x0), .val (.int x1), .val (.int x2), .val (.int x3), .val (.int x4), .unset, .unset, .unset, .unset, .unset, .unset, .unset] [(.int (4 : Int32))])
  refine Dn.st (fun t q => XS.iloadN X0.here hx rfl (hb hby at_1) rfl  q) ?_
  show Dn p e below s _ _ _ s₁ (mkF m 2 #[.val (.int x0), .val (.int x1), .val (.int x2), .val (.int x3), .val (.int x4), .unset, .unset, .unset, .unset, .unset, .unset, .unset] [(.int x3), (.int (4 : Int32))])
  refine Dn.st (fun t q => XS.iconst X0.here hx rfl (hb hby at_2) q) ?_
  show Dn p e below s _ _ _ s₁ (mkF m 3 #[.val (.int x0), .val (.int x1), .val (.int x2), .val (.int x3), .val (.int x4), .unset, .unset, .unset, .unset, .unset, .unset, .unset] [(.int (1 : Int32)), (.int x3), (.int (4 : Int32))])
  refine Dn.st (fun t q => XS.iand X0.here hx rfl (hb hby at_3) rfl q) ?_
  show Dn p e below s _ _ _ s₁ (mkF m 4 #[.val (.int x0), .val (.int x1), .val (.int x2), .val (.int x3), .val (.int x4), .unset, .unset, .unset, .unset, .unset, .unset, .unset] [(.int (x3 &&& (1 : Int32))), (.int (4 : Int32))])
  refine Dn.st (fun t q => XS.iadd X0.here hx rfl (hb hby at_4) rfl q) ?_
  show Dn p e below s _ _ _ s₁ (mkF m 5 #[.val (.int x0), .val (.int x1), .val (.int x2), .val (.int x3), .val (.int x4), .unset, .unset, .unset, .unset, .unset, .unset, .unset] [(.int ((4 : Int32) + (x3 &&& (1 : Int32))))])
  have hsh := own_sh x3
  rcases hsh with hsh | hsh
  · rw [show ((4 : Int32) + (x3 &&& (1 : Int32))) = (4 : Int32) from (by rw [hsh]; rfl)]
    show Dn p e below s _ _ _ s₁ (mkF m 5 #[.val (.int x0), .val (.int x1), .val (.int x2), .val (.int x3), .val (.int x4), .unset, .unset, .unset, .unset, .unset, .unset, .unset] [(.int (4 : Int32))])
    refine Dn.st (fun t q => XS.istore X0.here hx rfl (hb hby at_5) rfl (l' := #[.val (.int x0), .val (.int x1), .val (.int x2), .val (.int x3), .val (.int x4), .val (.int (4 : Int32)), .unset, .unset, .unset, .unset, .unset, .unset]) rfl q) ?_
    show Dn p e below s _ _ _ s₁ (mkF m 7 #[.val (.int x0), .val (.int x1), .val (.int x2), .val (.int x3), .val (.int x4), .val (.int (4 : Int32)), .unset, .unset, .unset, .unset, .unset, .unset] [])
    refine Dn.st (fun t q => XS.iloadN X0.here hx rfl (hb hby at_7) rfl  q) ?_
    show Dn p e below s _ _ _ s₁ (mkF m 8 #[.val (.int x0), .val (.int x1), .val (.int x2), .val (.int x3), .val (.int x4), .val (.int (4 : Int32)), .unset, .unset, .unset, .unset, .unset, .unset] [(.int x2)])
    refine Dn.st (X0.ldcInt hx hown (mvT hZ (hw _ (List.mem_of_getElem? (i := 0) rfl))) (g := (mkF m 8 #[.val (.int x0), .val (.int x1), .val (.int x2), .val (.int x3), .val (.int x4), .val (.int (4 : Int32)), .unset, .unset, .unset, .unset, .unset, .unset] [(.int x2)])) rfl (hb hby at_8)) ?_
    show Dn p e below s _ _ _ s₁ (mkF m 10 #[.val (.int x0), .val (.int x1), .val (.int x2), .val (.int x3), .val (.int x4), .val (.int (4 : Int32)), .unset, .unset, .unset, .unset, .unset, .unset] [(.int (2147483647 : Int32)), (.int x2)])
    refine Dn.st (fun t q => XS.iand X0.here hx rfl (hb hby at_10) rfl q) ?_
    show Dn p e below s _ _ _ s₁ (mkF m 11 #[.val (.int x0), .val (.int x1), .val (.int x2), .val (.int x3), .val (.int x4), .val (.int (4 : Int32)), .unset, .unset, .unset, .unset, .unset, .unset] [(.int (x2 &&& (2147483647 : Int32)))])
    refine Dn.st (fun t q => XS.iload X0.here hx rfl (hb hby at_11) rfl  q) ?_
    show Dn p e below s _ _ _ s₁ (mkF m 13 #[.val (.int x0), .val (.int x1), .val (.int x2), .val (.int x3), .val (.int x4), .val (.int (4 : Int32)), .unset, .unset, .unset, .unset, .unset, .unset] [(.int (4 : Int32)), (.int (x2 &&& (2147483647 : Int32)))])
    refine Dn.st (fun t q => iremM X0 hx rfl (hb hby at_13) rfl (by decide) q) ?_
    show Dn p e below s _ _ _ s₁ (mkF m 14 #[.val (.int x0), .val (.int x1), .val (.int x2), .val (.int x3), .val (.int x4), .val (.int (4 : Int32)), .unset, .unset, .unset, .unset, .unset, .unset] [(.int ((x2 &&& (2147483647 : Int32)) % (4 : Int32)))])
    generalize hff : ((x2 &&& (2147483647 : Int32)) % (4 : Int32)) = ff
    show Dn p e below s _ _ _ s₁ (mkF m 14 #[.val (.int x0), .val (.int x1), .val (.int x2), .val (.int x3), .val (.int x4), .val (.int (4 : Int32)), .unset, .unset, .unset, .unset, .unset, .unset] [(.int ff)])
    obtain ⟨f1, hf1, hfn⟩ := own_rem x2 4 4 rfl (by decide)
    rw [hff] at hf1
    refine Dn.st (fun t q => XS.istore X0.here hx rfl (hb hby at_14) rfl (l' := #[.val (.int x0), .val (.int x1), .val (.int x2), .val (.int x3), .val (.int x4), .val (.int (4 : Int32)), .val (.int ff), .unset, .unset, .unset, .unset, .unset]) rfl q) ?_
    show Dn p e below s _ _ _ s₁ (mkF m 16 #[.val (.int x0), .val (.int x1), .val (.int x2), .val (.int x3), .val (.int x4), .val (.int (4 : Int32)), .val (.int ff), .unset, .unset, .unset, .unset, .unset] [])
    refine Dn.st (fun t q => XS.iload X0.here hx rfl (hb hby at_16) rfl  q) ?_
    show Dn p e below s _ _ _ s₁ (mkF m 18 #[.val (.int x0), .val (.int x1), .val (.int x2), .val (.int x3), .val (.int x4), .val (.int (4 : Int32)), .val (.int ff), .unset, .unset, .unset, .unset, .unset] [(.int (4 : Int32))])
    obtain ⟨T1, h1, k1, X1, e1, E1, A1, B1, st1⟩ := newPE X0 hx hZ (hw _ (List.mem_of_getElem? (i := 1) rfl)) e0 (g := (mkF m 18 #[.val (.int x0), .val (.int x1), .val (.int x2), .val (.int x3), .val (.int x4), .val (.int (4 : Int32)), .val (.int ff), .unset, .unset, .unset, .unset, .unset] [(.int (4 : Int32))])) rfl (hb hby at_18) rfl (by decide) (cap := 4) (by decide) (by decide) (by decide) (by decide) (ad := "[I") (by decide)
    obtain ⟨b1, g1⟩ : ∃ z, z = h0.size := ⟨_, rfl⟩
    rw [← g1] at A1 st1
    rw [← g1] at B1
    have g_b1 : n0 ≤ b1 := Nat.le_trans Z0 (Nat.le_of_eq g1.symm)
    have sz_b1 : h0.size ≤ b1 := Nat.le_trans K0.1 (Nat.le_of_eq g1.symm)
    have Z0 := Nat.le_trans Z0 E1.1
    have K0 := K0.ext E1
    have E_b1 := B1
    have A_b1 : Ary Z h1 b1 .int 4 (fun _ => (.int (0 : Int32))) := Ary.new A1 (by decide)
    refine Dn.st st1 ?_
    show Dn p e below s _ _ _ T1 (mkF m 20 #[.val (.int x0), .val (.int x1), .val (.int x2), .val (.int x3), .val (.int x4), .val (.int (4 : Int32)), .val (.int ff), .unset, .unset, .unset, .unset, .unset] [(.ref b1)])
    refine Dn.st (fun t q => XS.astore X1.here hx rfl (hb hby at_20) rfl rfl (l' := #[.val (.int x0), .val (.int x1), .val (.int x2), .val (.int x3), .val (.int x4), .val (.int (4 : Int32)), .val (.int ff), .val (.ref b1), .unset, .unset, .unset, .unset]) rfl q) ?_
    show Dn p e below s _ _ _ T1 (mkF m 22 #[.val (.int x0), .val (.int x1), .val (.int x2), .val (.int x3), .val (.int x4), .val (.int (4 : Int32)), .val (.int ff), .val (.ref b1), .unset, .unset, .unset, .unset] [])
    refine Dn.st (fun t q => XS.aload X1.here hx rfl (hb hby at_22) rfl rfl  q) ?_
    show Dn p e below s _ _ _ T1 (mkF m 24 #[.val (.int x0), .val (.int x1), .val (.int x2), .val (.int x3), .val (.int x4), .val (.int (4 : Int32)), .val (.int ff), .val (.ref b1), .unset, .unset, .unset, .unset] [(.ref b1)])
    refine Dn.st (fun t q => XS.iconst X1.here hx rfl (hb hby at_24) q) ?_
    show Dn p e below s _ _ _ T1 (mkF m 25 #[.val (.int x0), .val (.int x1), .val (.int x2), .val (.int x3), .val (.int x4), .val (.int (4 : Int32)), .val (.int ff), .val (.ref b1), .unset, .unset, .unset, .unset] [(.int (0 : Int32)), (.ref b1)])
    refine Dn.st (fun t q => XS.iload X1.here hx rfl (hb hby at_25) rfl  q) ?_
    show Dn p e below s _ _ _ T1 (mkF m 27 #[.val (.int x0), .val (.int x1), .val (.int x2), .val (.int x3), .val (.int x4), .val (.int (4 : Int32)), .val (.int ff), .val (.ref b1), .unset, .unset, .unset, .unset] [(.int ff), (.int (0 : Int32)), (.ref b1)])
    have js0 : ∀ (TJ2 : State) (lcJ2 : List Loc) (XJ2 : Stand p l e room_1 s m #[(.int x0), (.int x1), (.int x2), (.int x3), (.int x4)] below meth c TJ2 lcJ2 1 4) (eJ2 : TJ2.heap = h1) (N0 : Fr n0 lcJ2), Dn p e below s (Q0 Z x0 x1 x2 x3 x4 h0 n0) (9) (128) TJ2 (mkF m 40 #[.val (.int x0), .val (.int x1), .val (.int x2), .val (.int x3), .val (.int x4), .val (.int (4 : Int32)), .val (.int ff), .val (.ref b1), .unset, .unset, .unset, .unset] [(.int (own_pv ff x0 x1 (0 : Int32))), (.int (0 : Int32)), (.ref b1)]) := by
      intro TJ2 lcJ2 XJ2 eJ2 N0
      obtain ⟨T3, h3, X3, e3, W3, B3, st3⟩ := aStoI XJ2 hx hZ eJ2 A_b1 (i := 0) rfl (by decide) (g := (mkF m 40 #[.val (.int x0), .val (.int x1), .val (.int x2), .val (.int x3), .val (.int x4), .val (.int (4 : Int32)), .val (.int ff), .val (.ref b1), .unset, .unset, .unset, .unset] [(.int (own_pv ff x0 x1 (0 : Int32))), (.int (0 : Int32)), (.ref b1)])) rfl rfl (hb hby at_40)
      have N0 := Fr.snoc X3 N0 g_b1
      have Z0 := Nat.le_trans Z0 (Keep.of_wr W3).1
      have K0 := K0.wr W3 (Or.inr sz_b1)
      have E_b1 := E_b1.wr W3
      have A_b1 : Ary Z h3 b1 .int 4 (fun x => .int (if x = 0 then (own_pv ff x0 x1 (0 : Int32)) else (0 : Int32))) := B3.congr (fun j _ => own_ite)
      refine Dn.st st3 ?_
      show Dn p e below s _ _ _ T3 (mkF m 41 #[.val (.int x0), .val (.int x1), .val (.int x2), .val (.int x3), .val (.int x4), .val (.int (4 : Int32)), .val (.int ff), .val (.ref b1), .unset, .unset, .unset, .unset] [])
      refine Dn.st (fun t q => XS.aload X3.here hx rfl (hb hby at_41) rfl rfl  q) ?_
      show Dn p e below s _ _ _ T3 (mkF m 43 #[.val (.int x0), .val (.int x1), .val (.int x2), .val (.int x3), .val (.int x4), .val (.int (4 : Int32)), .val (.int ff), .val (.ref b1), .unset, .unset, .unset, .unset] [(.ref b1)])
      refine Dn.st (fun t q => XS.iconst X3.here hx rfl (hb hby at_43) q) ?_
      show Dn p e below s _ _ _ T3 (mkF m 44 #[.val (.int x0), .val (.int x1), .val (.int x2), .val (.int x3), .val (.int x4), .val (.int (4 : Int32)), .val (.int ff), .val (.ref b1), .unset, .unset, .unset, .unset] [(.int (1 : Int32)), (.ref b1)])
      refine Dn.st (fun t q => XS.iload X3.here hx rfl (hb hby at_44) rfl  q) ?_
      show Dn p e below s _ _ _ T3 (mkF m 46 #[.val (.int x0), .val (.int x1), .val (.int x2), .val (.int x3), .val (.int x4), .val (.int (4 : Int32)), .val (.int ff), .val (.ref b1), .unset, .unset, .unset, .unset] [(.int ff), (.int (1 : Int32)), (.ref b1)])
      refine Dn.st (fun t q => XS.iconst X3.here hx rfl (hb hby at_46) q) ?_
      show Dn p e below s _ _ _ T3 (mkF m 47 #[.val (.int x0), .val (.int x1), .val (.int x2), .val (.int x3), .val (.int x4), .val (.int (4 : Int32)), .val (.int ff), .val (.ref b1), .unset, .unset, .unset, .unset] [(.int (1 : Int32)), (.int ff), (.int (1 : Int32)), (.ref b1)])
      have js1 : ∀ (TJ4 : State) (lcJ4 : List Loc) (XJ4 : Stand p l e room_1 s m #[(.int x0), (.int x1), (.int x2), (.int x3), (.int x4)] below meth c TJ4 lcJ4 1 4) (eJ4 : TJ4.heap = h3) (N0 : Fr n0 lcJ4), Dn p e below s (Q0 Z x0 x1 x2 x3 x4 h0 n0) (9) (128) TJ4 (mkF m 60 #[.val (.int x0), .val (.int x1), .val (.int x2), .val (.int x3), .val (.int x4), .val (.int (4 : Int32)), .val (.int ff), .val (.ref b1), .unset, .unset, .unset, .unset] [(.int (own_pv ff x0 x1 (1 : Int32))), (.int (1 : Int32)), (.ref b1)]) := by
        intro TJ4 lcJ4 XJ4 eJ4 N0
        obtain ⟨T5, h5, X5, e5, W5, B5, st5⟩ := aStoI XJ4 hx hZ eJ4 A_b1 (i := 1) rfl (by decide) (g := (mkF m 60 #[.val (.int x0), .val (.int x1), .val (.int x2), .val (.int x3), .val (.int x4), .val (.int (4 : Int32)), .val (.int ff), .val (.ref b1), .unset, .unset, .unset, .unset] [(.int (own_pv ff x0 x1 (1 : Int32))), (.int (1 : Int32)), (.ref b1)])) rfl rfl (hb hby at_60)
        have N0 := Fr.snoc X5 N0 g_b1
        have Z0 := Nat.le_trans Z0 (Keep.of_wr W5).1
        have K0 := K0.wr W5 (Or.inr sz_b1)
        have E_b1 := E_b1.wr W5
        have A_b1 : Ary Z h5 b1 .int 4 (fun x => .int (if x = 1 then (own_pv ff x0 x1 (1 : Int32)) else (if x = 0 then (own_pv ff x0 x1 (0 : Int32)) else (0 : Int32)))) := B5.congr (fun j _ => own_ite)
        refine Dn.st st5 ?_
        show Dn p e below s _ _ _ T5 (mkF m 61 #[.val (.int x0), .val (.int x1), .val (.int x2), .val (.int x3), .val (.int x4), .val (.int (4 : Int32)), .val (.int ff), .val (.ref b1), .unset, .unset, .unset, .unset] [])
        refine Dn.st (fun t q => XS.aload X5.here hx rfl (hb hby at_61) rfl rfl  q) ?_
        show Dn p e below s _ _ _ T5 (mkF m 63 #[.val (.int x0), .val (.int x1), .val (.int x2), .val (.int x3), .val (.int x4), .val (.int (4 : Int32)), .val (.int ff), .val (.ref b1), .unset, .unset, .unset, .unset] [(.ref b1)])
        refine Dn.st (fun t q => XS.iconst X5.here hx rfl (hb hby at_63) q) ?_
        show Dn p e below s _ _ _ T5 (mkF m 64 #[.val (.int x0), .val (.int x1), .val (.int x2), .val (.int x3), .val (.int x4), .val (.int (4 : Int32)), .val (.int ff), .val (.ref b1), .unset, .unset, .unset, .unset] [(.int (2 : Int32)), (.ref b1)])
        refine Dn.st (fun t q => XS.iload X5.here hx rfl (hb hby at_64) rfl  q) ?_
        show Dn p e below s _ _ _ T5 (mkF m 66 #[.val (.int x0), .val (.int x1), .val (.int x2), .val (.int x3), .val (.int x4), .val (.int (4 : Int32)), .val (.int ff), .val (.ref b1), .unset, .unset, .unset, .unset] [(.int ff), (.int (2 : Int32)), (.ref b1)])
        refine Dn.st (fun t q => XS.iconst X5.here hx rfl (hb hby at_66) q) ?_
        show Dn p e below s _ _ _ T5 (mkF m 67 #[.val (.int x0), .val (.int x1), .val (.int x2), .val (.int x3), .val (.int x4), .val (.int (4 : Int32)), .val (.int ff), .val (.ref b1), .unset, .unset, .unset, .unset] [(.int (2 : Int32)), (.int ff), (.int (2 : Int32)), (.ref b1)])
        have js2 : ∀ (TJ6 : State) (lcJ6 : List Loc) (XJ6 : Stand p l e room_1 s m #[(.int x0), (.int x1), (.int x2), (.int x3), (.int x4)] below meth c TJ6 lcJ6 1 4) (eJ6 : TJ6.heap = h5) (N0 : Fr n0 lcJ6), Dn p e below s (Q0 Z x0 x1 x2 x3 x4 h0 n0) (9) (128) TJ6 (mkF m 80 #[.val (.int x0), .val (.int x1), .val (.int x2), .val (.int x3), .val (.int x4), .val (.int (4 : Int32)), .val (.int ff), .val (.ref b1), .unset, .unset, .unset, .unset] [(.int (own_pv ff x0 x1 (2 : Int32))), (.int (2 : Int32)), (.ref b1)]) := by
          intro TJ6 lcJ6 XJ6 eJ6 N0
          obtain ⟨T7, h7, X7, e7, W7, B7, st7⟩ := aStoI XJ6 hx hZ eJ6 A_b1 (i := 2) rfl (by decide) (g := (mkF m 80 #[.val (.int x0), .val (.int x1), .val (.int x2), .val (.int x3), .val (.int x4), .val (.int (4 : Int32)), .val (.int ff), .val (.ref b1), .unset, .unset, .unset, .unset] [(.int (own_pv ff x0 x1 (2 : Int32))), (.int (2 : Int32)), (.ref b1)])) rfl rfl (hb hby at_80)
          have N0 := Fr.snoc X7 N0 g_b1
          have Z0 := Nat.le_trans Z0 (Keep.of_wr W7).1
          have K0 := K0.wr W7 (Or.inr sz_b1)
          have E_b1 := E_b1.wr W7
          have A_b1 : Ary Z h7 b1 .int 4 (fun x => .int (if x = 2 then (own_pv ff x0 x1 (2 : Int32)) else (if x = 1 then (own_pv ff x0 x1 (1 : Int32)) else (if x = 0 then (own_pv ff x0 x1 (0 : Int32)) else (0 : Int32))))) := B7.congr (fun j _ => own_ite)
          refine Dn.st st7 ?_
          show Dn p e below s _ _ _ T7 (mkF m 81 #[.val (.int x0), .val (.int x1), .val (.int x2), .val (.int x3), .val (.int x4), .val (.int (4 : Int32)), .val (.int ff), .val (.ref b1), .unset, .unset, .unset, .unset] [])
          refine Dn.st (fun t q => XS.aload X7.here hx rfl (hb hby at_81) rfl rfl  q) ?_
          show Dn p e below s _ _ _ T7 (mkF m 83 #[.val (.int x0), .val (.int x1), .val (.int x2), .val (.int x3), .val (.int x4), .val (.int (4 : Int32)), .val (.int ff), .val (.ref b1), .unset, .unset, .unset, .unset] [(.ref b1)])
          refine Dn.st (fun t q => XS.iconst X7.here hx rfl (hb hby at_83) q) ?_
          show Dn p e below s _ _ _ T7 (mkF m 84 #[.val (.int x0), .val (.int x1), .val (.int x2), .val (.int x3), .val (.int x4), .val (.int (4 : Int32)), .val (.int ff), .val (.ref b1), .unset, .unset, .unset, .unset] [(.int (3 : Int32)), (.ref b1)])
          refine Dn.st (fun t q => XS.iload X7.here hx rfl (hb hby at_84) rfl  q) ?_
          show Dn p e below s _ _ _ T7 (mkF m 86 #[.val (.int x0), .val (.int x1), .val (.int x2), .val (.int x3), .val (.int x4), .val (.int (4 : Int32)), .val (.int ff), .val (.ref b1), .unset, .unset, .unset, .unset] [(.int ff), (.int (3 : Int32)), (.ref b1)])
          refine Dn.st (fun t q => XS.iconst X7.here hx rfl (hb hby at_86) q) ?_
          show Dn p e below s _ _ _ T7 (mkF m 87 #[.val (.int x0), .val (.int x1), .val (.int x2), .val (.int x3), .val (.int x4), .val (.int (4 : Int32)), .val (.int ff), .val (.ref b1), .unset, .unset, .unset, .unset] [(.int (3 : Int32)), (.int ff), (.int (3 : Int32)), (.ref b1)])
          have js3 : ∀ (TJ8 : State) (lcJ8 : List Loc) (XJ8 : Stand p l e room_1 s m #[(.int x0), (.int x1), (.int x2), (.int x3), (.int x4)] below meth c TJ8 lcJ8 1 4) (eJ8 : TJ8.heap = h7) (N0 : Fr n0 lcJ8), Dn p e below s (Q0 Z x0 x1 x2 x3 x4 h0 n0) (9) (128) TJ8 (mkF m 100 #[.val (.int x0), .val (.int x1), .val (.int x2), .val (.int x3), .val (.int x4), .val (.int (4 : Int32)), .val (.int ff), .val (.ref b1), .unset, .unset, .unset, .unset] [(.int (own_pv ff x0 x1 (3 : Int32))), (.int (3 : Int32)), (.ref b1)]) := by
            intro TJ8 lcJ8 XJ8 eJ8 N0
            obtain ⟨T9, h9, X9, e9, W9, B9, st9⟩ := aStoI XJ8 hx hZ eJ8 A_b1 (i := 3) rfl (by decide) (g := (mkF m 100 #[.val (.int x0), .val (.int x1), .val (.int x2), .val (.int x3), .val (.int x4), .val (.int (4 : Int32)), .val (.int ff), .val (.ref b1), .unset, .unset, .unset, .unset] [(.int (own_pv ff x0 x1 (3 : Int32))), (.int (3 : Int32)), (.ref b1)])) rfl rfl (hb hby at_100)
            have N0 := Fr.snoc X9 N0 g_b1
            have Z0 := Nat.le_trans Z0 (Keep.of_wr W9).1
            have K0 := K0.wr W9 (Or.inr sz_b1)
            have E_b1 := E_b1.wr W9
            have A_b1 : Ary Z h9 b1 .int 4 (fun x => .int (if x = 3 then (own_pv ff x0 x1 (3 : Int32)) else (if x = 2 then (own_pv ff x0 x1 (2 : Int32)) else (if x = 1 then (own_pv ff x0 x1 (1 : Int32)) else (if x = 0 then (own_pv ff x0 x1 (0 : Int32)) else (0 : Int32)))))) := B9.congr (fun j _ => own_ite)
            refine Dn.st st9 ?_
            show Dn p e below s _ _ _ T9 (mkF m 101 #[.val (.int x0), .val (.int x1), .val (.int x2), .val (.int x3), .val (.int x4), .val (.int (4 : Int32)), .val (.int ff), .val (.ref b1), .unset, .unset, .unset, .unset] [])
            refine Dn.st (fun t q => XS.iload X9.here hx rfl (hb hby at_101) rfl  q) ?_
            show Dn p e below s _ _ _ T9 (mkF m 103 #[.val (.int x0), .val (.int x1), .val (.int x2), .val (.int x3), .val (.int x4), .val (.int (4 : Int32)), .val (.int ff), .val (.ref b1), .unset, .unset, .unset, .unset] [(.int (4 : Int32))])
            refine Dn.st (fun t q => XS.iconst X9.here hx rfl (hb hby at_103) q) ?_
            show Dn p e below s _ _ _ T9 (mkF m 104 #[.val (.int x0), .val (.int x1), .val (.int x2), .val (.int x3), .val (.int x4), .val (.int (4 : Int32)), .val (.int ff), .val (.ref b1), .unset, .unset, .unset, .unset] [(.int (5 : Int32)), (.int (4 : Int32))])
            refine Dn.st (fun t q => XS.icmpYes X9.here hx rfl (pc0 := 104) (pc' := 127) rfl (hb hby at_104) rfl (feq (by decide)).2 (by decide) (by decide) q) ?_
            show Dn p e below s _ _ _ T9 (mkF m 127 #[.val (.int x0), .val (.int x1), .val (.int x2), .val (.int x3), .val (.int x4), .val (.int (4 : Int32)), .val (.int ff), .val (.ref b1), .unset, .unset, .unset, .unset] [])
            have A_b1 : Ary Z h9 b1 .int 4 (fun x => .int ((own_P4 ff x0 x1) x)) := A_b1
            refine Dn.st (fun t q => XS.aload X9.here hx rfl (hb hby at_127) rfl rfl  q) ?_
            show Dn p e below s _ _ _ T9 (mkF m 129 #[.val (.int x0), .val (.int x1), .val (.int x2), .val (.int x3), .val (.int x4), .val (.int (4 : Int32)), .val (.int ff), .val (.ref b1), .unset, .unset, .unset, .unset] [(.ref b1)])
            refine Dn.st (fun t q => XS.iconst X9.here hx rfl (hb hby at_129) q) ?_
            show Dn p e below s _ _ _ T9 (mkF m 130 #[.val (.int x0), .val (.int x1), .val (.int x2), .val (.int x3), .val (.int x4), .val (.int (4 : Int32)), .val (.int ff), .val (.ref b1), .unset, .unset, .unset, .unset] [(.int (0 : Int32)), (.ref b1)])
            refine Dn.st (aLoadI (w := (fun x => ((own_P4 ff x0 x1) x))) X9 hx hZ e9 A_b1 (i := 0) rfl (by decide) (g := (mkF m 130 #[.val (.int x0), .val (.int x1), .val (.int x2), .val (.int x3), .val (.int x4), .val (.int (4 : Int32)), .val (.int ff), .val (.ref b1), .unset, .unset, .unset, .unset] [(.int (0 : Int32)), (.ref b1)])) rfl rfl (hb hby at_130)) ?_
            show Dn p e below s _ _ _ T9 (mkF m 131 #[.val (.int x0), .val (.int x1), .val (.int x2), .val (.int x3), .val (.int x4), .val (.int (4 : Int32)), .val (.int ff), .val (.ref b1), .unset, .unset, .unset, .unset] [(.int (own_pv ff x0 x1 (0 : Int32)))])
            obtain ⟨_, _, ⟨T10, Lq10, kq_10, nq_10⟩, -, X10, ⟨Lc10, hQ10, lq10, yq10, zq10⟩, st10⟩ := Jvm.LawKit.callS X9 hx (y := (⟨"keyfold/FseHasPinLaw", "weight", "(I)I"⟩ : MethodName)) hown (mvT hZ (hw _ (List.mem_of_getElem? (i := 6) rfl))) (mvT hZ (hw _ (List.mem_of_getElem? (i := 7) rfl))) (mvT hZ (hw _ (List.mem_of_getElem? (i := 4) rfl))) (mvT hZ (hw _ (List.mem_of_getElem? (i := 8) rfl))) (by decide) (backOf (W := 0) (rm2 l Z a0 hw [] (own_pv ff x0 x1 (0 : Int32))  h9 n0 Z0 ) hZ (hw _ (List.mem_of_getElem? (i := 8) rfl)) (hw _ (List.mem_of_getElem? (i := 4) rfl)) (by decide) (by decide)) (g := (mkF m 131 #[.val (.int x0), .val (.int x1), .val (.int x2), .val (.int x3), .val (.int x4), .val (.int (4 : Int32)), .val (.int ff), .val (.ref b1), .unset, .unset, .unset, .unset] [(.int (own_pv ff x0 x1 (0 : Int32)))])) rfl (by rw [hml]; rfl) (argsL := [(.int (own_pv ff x0 x1 (0 : Int32)))]) (rest := []) (lenOf pd_0 rfl) rfl (by show 2 * 0 + _ ≤ _; exact Nat.le_of_eq rfl) (hb hby at_131) (fun _ _ => ⟨rfl, e9, (by decide : 1 + 0 ≤ _), (by decide : 4 + 0 ≤ _)⟩)
            dsimp only [Pt.U, Pt.locs, Pt.cells, Pt.slots] at X10 lq10 yq10 zq10 st10 hQ10
            subst lq10 yq10 zq10
            obtain ⟨rfl, N10q, hq10⟩ := hQ10
            have N0 := Fr.app N0 N10q
            have e10 : T10.heap = h9 := hq10
            refine Dn.st st10 ?_
            show Dn p e below s _ _ _ T10 (mkF m 134 #[.val (.int x0), .val (.int x1), .val (.int x2), .val (.int x3), .val (.int x4), .val (.int (4 : Int32)), .val (.int ff), .val (.ref b1), .unset, .unset, .unset, .unset] [(.int (own_wt (own_pv ff x0 x1 (0 : Int32))))])
            refine Dn.st (fun t q => XS.aload X10.here hx rfl (hb hby at_134) rfl rfl  q) ?_
            show Dn p e below s _ _ _ T10 (mkF m 136 #[.val (.int x0), .val (.int x1), .val (.int x2), .val (.int x3), .val (.int x4), .val (.int (4 : Int32)), .val (.int ff), .val (.ref b1), .unset, .unset, .unset, .unset] [(.ref b1), (.int (own_wt (own_pv ff x0 x1 (0 : Int32))))])
            refine Dn.st (fun t q => XS.iconst X10.here hx rfl (hb hby at_136) q) ?_
            show Dn p e below s _ _ _ T10 (mkF m 137 #[.val (.int x0), .val (.int x1), .val (.int x2), .val (.int x3), .val (.int x4), .val (.int (4 : Int32)), .val (.int ff), .val (.ref b1), .unset, .unset, .unset, .unset] [(.int (1 : Int32)), (.ref b1), (.int (own_wt (own_pv ff x0 x1 (0 : Int32))))])
            refine Dn.st (aLoadI (w := (fun x => ((own_P4 ff x0 x1) x))) X10 hx hZ e10 A_b1 (i := 1) rfl (by decide) (g := (mkF m 137 #[.val (.int x0), .val (.int x1), .val (.int x2), .val (.int x3), .val (.int x4), .val (.int (4 : Int32)), .val (.int ff), .val (.ref b1), .unset, .unset, .unset, .unset] [(.int (1 : Int32)), (.ref b1), (.int (own_wt (own_pv ff x0 x1 (0 : Int32))))])) rfl rfl (hb hby at_137)) ?_
            show Dn p e below s _ _ _ T10 (mkF m 138 #[.val (.int x0), .val (.int x1), .val (.int x2), .val (.int x3), .val (.int x4), .val (.int (4 : Int32)), .val (.int ff), .val (.ref b1), .unset, .unset, .unset, .unset] [(.int (own_pv ff x0 x1 (1 : Int32))), (.int (own_wt (own_pv ff x0 x1 (0 : Int32))))])
            obtain ⟨_, _, ⟨T11, Lq11, kq_11, nq_11⟩, -, X11, ⟨Lc11, hQ11, lq11, yq11, zq11⟩, st11⟩ := Jvm.LawKit.callS X10 hx (y := (⟨"keyfold/FseHasPinLaw", "weight", "(I)I"⟩ : MethodName)) hown (mvT hZ (hw _ (List.mem_of_getElem? (i := 6) rfl))) (mvT hZ (hw _ (List.mem_of_getElem? (i := 7) rfl))) (mvT hZ (hw _ (List.mem_of_getElem? (i := 4) rfl))) (mvT hZ (hw _ (List.mem_of_getElem? (i := 8) rfl))) (by decide) (backOf (W := 1) (rm2 l Z a0 hw [] (own_pv ff x0 x1 (1 : Int32))  h9 n0 Z0 ) hZ (hw _ (List.mem_of_getElem? (i := 8) rfl)) (hw _ (List.mem_of_getElem? (i := 4) rfl)) (by decide) (by decide)) (g := (mkF m 138 #[.val (.int x0), .val (.int x1), .val (.int x2), .val (.int x3), .val (.int x4), .val (.int (4 : Int32)), .val (.int ff), .val (.ref b1), .unset, .unset, .unset, .unset] [(.int (own_pv ff x0 x1 (1 : Int32))), (.int (own_wt (own_pv ff x0 x1 (0 : Int32))))])) rfl (by rw [hml]; rfl) (argsL := [(.int (own_pv ff x0 x1 (1 : Int32)))]) (rest := [(.int (own_wt (own_pv ff x0 x1 (0 : Int32))))]) (lenOf pd_0 rfl) rfl (by show 2 * 0 + _ ≤ _; exact Nat.le_of_eq rfl) (hb hby at_138) (fun _ _ => ⟨rfl, e10, (by decide : 1 + 0 ≤ _), (by decide : 4 + 0 ≤ _)⟩)
            dsimp only [Pt.U, Pt.locs, Pt.cells, Pt.slots] at X11 lq11 yq11 zq11 st11 hQ11
            subst lq11 yq11 zq11
            obtain ⟨rfl, N11q, hq11⟩ := hQ11
            have N0 := Fr.app N0 N11q
            have e11 : T11.heap = h9 := hq11
            refine Dn.st st11 ?_
            show Dn p e below s _ _ _ T11 (mkF m 141 #[.val (.int x0), .val (.int x1), .val (.int x2), .val (.int x3), .val (.int x4), .val (.int (4 : Int32)), .val (.int ff), .val (.ref b1), .unset, .unset, .unset, .unset] [(.int (own_wt (own_pv ff x0 x1 (1 : Int32)))), (.int (own_wt (own_pv ff x0 x1 (0 : Int32))))])
            refine Dn.st (fun t q => XS.iadd X11.here hx rfl (hb hby at_141) rfl q) ?_
            show Dn p e below s _ _ _ T11 (mkF m 142 #[.val (.int x0), .val (.int x1), .val (.int x2), .val (.int x3), .val (.int x4), .val (.int (4 : Int32)), .val (.int ff), .val (.ref b1), .unset, .unset, .unset, .unset] [(.int ((own_wt (own_pv ff x0 x1 (0 : Int32))) + (own_wt (own_pv ff x0 x1 (1 : Int32)))))])
            refine Dn.st (fun t q => XS.aload X11.here hx rfl (hb hby at_142) rfl rfl  q) ?_
            show Dn p e below s _ _ _ T11 (mkF m 144 #[.val (.int x0), .val (.int x1), .val (.int x2), .val (.int x3), .val (.int x4), .val (.int (4 : Int32)), .val (.int ff), .val (.ref b1), .unset, .unset, .unset, .unset] [(.ref b1), (.int ((own_wt (own_pv ff x0 x1 (0 : Int32))) + (own_wt (own_pv ff x0 x1 (1 : Int32)))))])
            refine Dn.st (fun t q => XS.iconst X11.here hx rfl (hb hby at_144) q) ?_
            show Dn p e below s _ _ _ T11 (mkF m 145 #[.val (.int x0), .val (.int x1), .val (.int x2), .val (.int x3), .val (.int x4), .val (.int (4 : Int32)), .val (.int ff), .val (.ref b1), .unset, .unset, .unset, .unset] [(.int (2 : Int32)), (.ref b1), (.int ((own_wt (own_pv ff x0 x1 (0 : Int32))) + (own_wt (own_pv ff x0 x1 (1 : Int32)))))])
            refine Dn.st (aLoadI (w := (fun x => ((own_P4 ff x0 x1) x))) X11 hx hZ e11 A_b1 (i := 2) rfl (by decide) (g := (mkF m 145 #[.val (.int x0), .val (.int x1), .val (.int x2), .val (.int x3), .val (.int x4), .val (.int (4 : Int32)), .val (.int ff), .val (.ref b1), .unset, .unset, .unset, .unset] [(.int (2 : Int32)), (.ref b1), (.int ((own_wt (own_pv ff x0 x1 (0 : Int32))) + (own_wt (own_pv ff x0 x1 (1 : Int32)))))])) rfl rfl (hb hby at_145)) ?_
            show Dn p e below s _ _ _ T11 (mkF m 146 #[.val (.int x0), .val (.int x1), .val (.int x2), .val (.int x3), .val (.int x4), .val (.int (4 : Int32)), .val (.int ff), .val (.ref b1), .unset, .unset, .unset, .unset] [(.int (own_pv ff x0 x1 (2 : Int32))), (.int ((own_wt (own_pv ff x0 x1 (0 : Int32))) + (own_wt (own_pv ff x0 x1 (1 : Int32)))))])
            obtain ⟨_, _, ⟨T12, Lq12, kq_12, nq_12⟩, -, X12, ⟨Lc12, hQ12, lq12, yq12, zq12⟩, st12⟩ := Jvm.LawKit.callS X11 hx (y := (⟨"keyfold/FseHasPinLaw", "weight", "(I)I"⟩ : MethodName)) hown (mvT hZ (hw _ (List.mem_of_getElem? (i := 6) rfl))) (mvT hZ (hw _ (List.mem_of_getElem? (i := 7) rfl))) (mvT hZ (hw _ (List.mem_of_getElem? (i := 4) rfl))) (mvT hZ (hw _ (List.mem_of_getElem? (i := 8) rfl))) (by decide) (backOf (W := 1) (rm2 l Z a0 hw [] (own_pv ff x0 x1 (2 : Int32))  h9 n0 Z0 ) hZ (hw _ (List.mem_of_getElem? (i := 8) rfl)) (hw _ (List.mem_of_getElem? (i := 4) rfl)) (by decide) (by decide)) (g := (mkF m 146 #[.val (.int x0), .val (.int x1), .val (.int x2), .val (.int x3), .val (.int x4), .val (.int (4 : Int32)), .val (.int ff), .val (.ref b1), .unset, .unset, .unset, .unset] [(.int (own_pv ff x0 x1 (2 : Int32))), (.int ((own_wt (own_pv ff x0 x1 (0 : Int32))) + (own_wt (own_pv ff x0 x1 (1 : Int32)))))])) rfl (by rw [hml]; rfl) (argsL := [(.int (own_pv ff x0 x1 (2 : Int32)))]) (rest := [(.int ((own_wt (own_pv ff x0 x1 (0 : Int32))) + (own_wt (own_pv ff x0 x1 (1 : Int32)))))]) (lenOf pd_0 rfl) rfl (by show 2 * 0 + _ ≤ _; exact Nat.le_of_eq rfl) (hb hby at_146) (fun _ _ => ⟨rfl, e11, (by decide : 1 + 0 ≤ _), (by decide : 4 + 0 ≤ _)⟩)
            dsimp only [Pt.U, Pt.locs, Pt.cells, Pt.slots] at X12 lq12 yq12 zq12 st12 hQ12
            subst lq12 yq12 zq12
            obtain ⟨rfl, N12q, hq12⟩ := hQ12
            have N0 := Fr.app N0 N12q
            have e12 : T12.heap = h9 := hq12
            refine Dn.st st12 ?_
            show Dn p e below s _ _ _ T12 (mkF m 149 #[.val (.int x0), .val (.int x1), .val (.int x2), .val (.int x3), .val (.int x4), .val (.int (4 : Int32)), .val (.int ff), .val (.ref b1), .unset, .unset, .unset, .unset] [(.int (own_wt (own_pv ff x0 x1 (2 : Int32)))), (.int ((own_wt (own_pv ff x0 x1 (0 : Int32))) + (own_wt (own_pv ff x0 x1 (1 : Int32)))))])
            refine Dn.st (fun t q => XS.iadd X12.here hx rfl (hb hby at_149) rfl q) ?_
            show Dn p e below s _ _ _ T12 (mkF m 150 #[.val (.int x0), .val (.int x1), .val (.int x2), .val (.int x3), .val (.int x4), .val (.int (4 : Int32)), .val (.int ff), .val (.ref b1), .unset, .unset, .unset, .unset] [(.int (((own_wt (own_pv ff x0 x1 (0 : Int32))) + (own_wt (own_pv ff x0 x1 (1 : Int32)))) + (own_wt (own_pv ff x0 x1 (2 : Int32)))))])
            refine Dn.st (fun t q => XS.aload X12.here hx rfl (hb hby at_150) rfl rfl  q) ?_
            show Dn p e below s _ _ _ T12 (mkF m 152 #[.val (.int x0), .val (.int x1), .val (.int x2), .val (.int x3), .val (.int x4), .val (.int (4 : Int32)), .val (.int ff), .val (.ref b1), .unset, .unset, .unset, .unset] [(.ref b1), (.int (((own_wt (own_pv ff x0 x1 (0 : Int32))) + (own_wt (own_pv ff x0 x1 (1 : Int32)))) + (own_wt (own_pv ff x0 x1 (2 : Int32)))))])
            refine Dn.st (fun t q => XS.iconst X12.here hx rfl (hb hby at_152) q) ?_
            show Dn p e below s _ _ _ T12 (mkF m 153 #[.val (.int x0), .val (.int x1), .val (.int x2), .val (.int x3), .val (.int x4), .val (.int (4 : Int32)), .val (.int ff), .val (.ref b1), .unset, .unset, .unset, .unset] [(.int (3 : Int32)), (.ref b1), (.int (((own_wt (own_pv ff x0 x1 (0 : Int32))) + (own_wt (own_pv ff x0 x1 (1 : Int32)))) + (own_wt (own_pv ff x0 x1 (2 : Int32)))))])
            refine Dn.st (aLoadI (w := (fun x => ((own_P4 ff x0 x1) x))) X12 hx hZ e12 A_b1 (i := 3) rfl (by decide) (g := (mkF m 153 #[.val (.int x0), .val (.int x1), .val (.int x2), .val (.int x3), .val (.int x4), .val (.int (4 : Int32)), .val (.int ff), .val (.ref b1), .unset, .unset, .unset, .unset] [(.int (3 : Int32)), (.ref b1), (.int (((own_wt (own_pv ff x0 x1 (0 : Int32))) + (own_wt (own_pv ff x0 x1 (1 : Int32)))) + (own_wt (own_pv ff x0 x1 (2 : Int32)))))])) rfl rfl (hb hby at_153)) ?_
            show Dn p e below s _ _ _ T12 (mkF m 154 #[.val (.int x0), .val (.int x1), .val (.int x2), .val (.int x3), .val (.int x4), .val (.int (4 : Int32)), .val (.int ff), .val (.ref b1), .unset, .unset, .unset, .unset] [(.int (own_pv ff x0 x1 (3 : Int32))), (.int (((own_wt (own_pv ff x0 x1 (0 : Int32))) + (own_wt (own_pv ff x0 x1 (1 : Int32)))) + (own_wt (own_pv ff x0 x1 (2 : Int32)))))])
            obtain ⟨_, _, ⟨T13, Lq13, kq_13, nq_13⟩, -, X13, ⟨Lc13, hQ13, lq13, yq13, zq13⟩, st13⟩ := Jvm.LawKit.callS X12 hx (y := (⟨"keyfold/FseHasPinLaw", "weight", "(I)I"⟩ : MethodName)) hown (mvT hZ (hw _ (List.mem_of_getElem? (i := 6) rfl))) (mvT hZ (hw _ (List.mem_of_getElem? (i := 7) rfl))) (mvT hZ (hw _ (List.mem_of_getElem? (i := 4) rfl))) (mvT hZ (hw _ (List.mem_of_getElem? (i := 8) rfl))) (by decide) (backOf (W := 1) (rm2 l Z a0 hw [] (own_pv ff x0 x1 (3 : Int32))  h9 n0 Z0 ) hZ (hw _ (List.mem_of_getElem? (i := 8) rfl)) (hw _ (List.mem_of_getElem? (i := 4) rfl)) (by decide) (by decide)) (g := (mkF m 154 #[.val (.int x0), .val (.int x1), .val (.int x2), .val (.int x3), .val (.int x4), .val (.int (4 : Int32)), .val (.int ff), .val (.ref b1), .unset, .unset, .unset, .unset] [(.int (own_pv ff x0 x1 (3 : Int32))), (.int (((own_wt (own_pv ff x0 x1 (0 : Int32))) + (own_wt (own_pv ff x0 x1 (1 : Int32)))) + (own_wt (own_pv ff x0 x1 (2 : Int32)))))])) rfl (by rw [hml]; rfl) (argsL := [(.int (own_pv ff x0 x1 (3 : Int32)))]) (rest := [(.int (((own_wt (own_pv ff x0 x1 (0 : Int32))) + (own_wt (own_pv ff x0 x1 (1 : Int32)))) + (own_wt (own_pv ff x0 x1 (2 : Int32)))))]) (lenOf pd_0 rfl) rfl (by show 2 * 0 + _ ≤ _; exact Nat.le_of_eq rfl) (hb hby at_154) (fun _ _ => ⟨rfl, e12, (by decide : 1 + 0 ≤ _), (by decide : 4 + 0 ≤ _)⟩)
            dsimp only [Pt.U, Pt.locs, Pt.cells, Pt.slots] at X13 lq13 yq13 zq13 st13 hQ13
            subst lq13 yq13 zq13
            obtain ⟨rfl, N13q, hq13⟩ := hQ13
            have N0 := Fr.app N0 N13q
            have e13 : T13.heap = h9 := hq13
            refine Dn.st st13 ?_
            show Dn p e below s _ _ _ T13 (mkF m 157 #[.val (.int x0), .val (.int x1), .val (.int x2), .val (.int x3), .val (.int x4), .val (.int (4 : Int32)), .val (.int ff), .val (.ref b1), .unset, .unset, .unset, .unset] [(.int (own_wt (own_pv ff x0 x1 (3 : Int32)))), (.int (((own_wt (own_pv ff x0 x1 (0 : Int32))) + (own_wt (own_pv ff x0 x1 (1 : Int32)))) + (own_wt (own_pv ff x0 x1 (2 : Int32)))))])
            refine Dn.st (fun t q => XS.iadd X13.here hx rfl (hb hby at_157) rfl q) ?_
            show Dn p e below s _ _ _ T13 (mkF m 158 #[.val (.int x0), .val (.int x1), .val (.int x2), .val (.int x3), .val (.int x4), .val (.int (4 : Int32)), .val (.int ff), .val (.ref b1), .unset, .unset, .unset, .unset] [(.int ((((own_wt (own_pv ff x0 x1 (0 : Int32))) + (own_wt (own_pv ff x0 x1 (1 : Int32)))) + (own_wt (own_pv ff x0 x1 (2 : Int32)))) + (own_wt (own_pv ff x0 x1 (3 : Int32)))))])
            refine Dn.st (fun t q => XS.iload X13.here hx rfl (hb hby at_158) rfl  q) ?_
            show Dn p e below s _ _ _ T13 (mkF m 160 #[.val (.int x0), .val (.int x1), .val (.int x2), .val (.int x3), .val (.int x4), .val (.int (4 : Int32)), .val (.int ff), .val (.ref b1), .unset, .unset, .unset, .unset] [(.int (4 : Int32)), (.int ((((own_wt (own_pv ff x0 x1 (0 : Int32))) + (own_wt (own_pv ff x0 x1 (1 : Int32)))) + (own_wt (own_pv ff x0 x1 (2 : Int32)))) + (own_wt (own_pv ff x0 x1 (3 : Int32)))))])
            refine Dn.st (fun t q => XS.iconst X13.here hx rfl (hb hby at_160) q) ?_
            show Dn p e below s _ _ _ T13 (mkF m 161 #[.val (.int x0), .val (.int x1), .val (.int x2), .val (.int x3), .val (.int x4), .val (.int (4 : Int32)), .val (.int ff), .val (.ref b1), .unset, .unset, .unset, .unset] [(.int (5 : Int32)), (.int (4 : Int32)), (.int ((((own_wt (own_pv ff x0 x1 (0 : Int32))) + (own_wt (own_pv ff x0 x1 (1 : Int32)))) + (own_wt (own_pv ff x0 x1 (2 : Int32)))) + (own_wt (own_pv ff x0 x1 (3 : Int32)))))])
            refine Dn.st (fun t q => XS.icmpYes X13.here hx rfl (pc0 := 161) (pc' := 174) rfl (hb hby at_161) rfl (feq (by decide)).2 (by decide) (by decide) q) ?_
            show Dn p e below s _ _ _ T13 (mkF m 174 #[.val (.int x0), .val (.int x1), .val (.int x2), .val (.int x3), .val (.int x4), .val (.int (4 : Int32)), .val (.int ff), .val (.ref b1), .unset, .unset, .unset, .unset] [(.int ((((own_wt (own_pv ff x0 x1 (0 : Int32))) + (own_wt (own_pv ff x0 x1 (1 : Int32)))) + (own_wt (own_pv ff x0 x1 (2 : Int32)))) + (own_wt (own_pv ff x0 x1 (3 : Int32)))))])
            refine Dn.st (fun t q => XS.iconst X13.here hx rfl (hb hby at_174) q) ?_
            show Dn p e below s _ _ _ T13 (mkF m 175 #[.val (.int x0), .val (.int x1), .val (.int x2), .val (.int x3), .val (.int x4), .val (.int (4 : Int32)), .val (.int ff), .val (.ref b1), .unset, .unset, .unset, .unset] [(.int (0 : Int32)), (.int ((((own_wt (own_pv ff x0 x1 (0 : Int32))) + (own_wt (own_pv ff x0 x1 (1 : Int32)))) + (own_wt (own_pv ff x0 x1 (2 : Int32)))) + (own_wt (own_pv ff x0 x1 (3 : Int32)))))])
            refine Dn.st (fun t q => XS.iadd X13.here hx rfl (hb hby at_175) rfl q) ?_
            show Dn p e below s _ _ _ T13 (mkF m 176 #[.val (.int x0), .val (.int x1), .val (.int x2), .val (.int x3), .val (.int x4), .val (.int (4 : Int32)), .val (.int ff), .val (.ref b1), .unset, .unset, .unset, .unset] [(.int (((((own_wt (own_pv ff x0 x1 (0 : Int32))) + (own_wt (own_pv ff x0 x1 (1 : Int32)))) + (own_wt (own_pv ff x0 x1 (2 : Int32)))) + (own_wt (own_pv ff x0 x1 (3 : Int32)))) + (0 : Int32)))])
            generalize hus : (((((own_wt (own_pv ff x0 x1 (0 : Int32))) + (own_wt (own_pv ff x0 x1 (1 : Int32)))) + (own_wt (own_pv ff x0 x1 (2 : Int32)))) + (own_wt (own_pv ff x0 x1 (3 : Int32)))) + (0 : Int32)) = us
            show Dn p e below s _ _ _ T13 (mkF m 176 #[.val (.int x0), .val (.int x1), .val (.int x2), .val (.int x3), .val (.int x4), .val (.int (4 : Int32)), .val (.int ff), .val (.ref b1), .unset, .unset, .unset, .unset] [(.int us)])
            refine Dn.st (fun t q => XS.istore X13.here hx rfl (hb hby at_176) rfl (l' := #[.val (.int x0), .val (.int x1), .val (.int x2), .val (.int x3), .val (.int x4), .val (.int (4 : Int32)), .val (.int ff), .val (.ref b1), .val (.int us), .unset, .unset, .unset]) rfl q) ?_
            show Dn p e below s _ _ _ T13 (mkF m 178 #[.val (.int x0), .val (.int x1), .val (.int x2), .val (.int x3), .val (.int x4), .val (.int (4 : Int32)), .val (.int ff), .val (.ref b1), .val (.int us), .unset, .unset, .unset] [])
            refine Dn.st (fun t q => XS.aload X13.here hx rfl (hb hby at_178) rfl rfl  q) ?_
            show Dn p e below s _ _ _ T13 (mkF m 180 #[.val (.int x0), .val (.int x1), .val (.int x2), .val (.int x3), .val (.int x4), .val (.int (4 : Int32)), .val (.int ff), .val (.ref b1), .val (.int us), .unset, .unset, .unset] [(.ref b1)])
            refine Dn.st (fun t q => XS.iload X13.here hx rfl (hb hby at_180) rfl  q) ?_
            show Dn p e below s _ _ _ T13 (mkF m 182 #[.val (.int x0), .val (.int x1), .val (.int x2), .val (.int x3), .val (.int x4), .val (.int (4 : Int32)), .val (.int ff), .val (.ref b1), .val (.int us), .unset, .unset, .unset] [(.int ff), (.ref b1)])
            refine Dn.st (fun t q => XS.bipush X13.here hx rfl (hb hby at_182) q) ?_
            show Dn p e below s _ _ _ T13 (mkF m 184 #[.val (.int x0), .val (.int x1), .val (.int x2), .val (.int x3), .val (.int x4), .val (.int (4 : Int32)), .val (.int ff), .val (.ref b1), .val (.int us), .unset, .unset, .unset] [(.int (32 : Int32)), (.int ff), (.ref b1)])
            refine Dn.st (fun t q => XS.iload X13.here hx rfl (hb hby at_184) rfl  q) ?_
            show Dn p e below s _ _ _ T13 (mkF m 186 #[.val (.int x0), .val (.int x1), .val (.int x2), .val (.int x3), .val (.int x4), .val (.int (4 : Int32)), .val (.int ff), .val (.ref b1), .val (.int us), .unset, .unset, .unset] [(.int us), (.int (32 : Int32)), (.int ff), (.ref b1)])
            refine Dn.st (fun t q => XS.isub X13.here hx rfl (hb hby at_186) rfl q) ?_
            show Dn p e below s _ _ _ T13 (mkF m 187 #[.val (.int x0), .val (.int x1), .val (.int x2), .val (.int x3), .val (.int x4), .val (.int (4 : Int32)), .val (.int ff), .val (.ref b1), .val (.int us), .unset, .unset, .unset] [(.int ((32 : Int32) - us)), (.int ff), (.ref b1)])
            have hok := own_law4 hf1 hfn hus
            obtain ⟨T14, h14, X14, e14, W14, B14, st14⟩ := aStoI X13 hx hZ e13 A_b1 (i := f1) hf1 hfn (g := (mkF m 187 #[.val (.int x0), .val (.int x1), .val (.int x2), .val (.int x3), .val (.int x4), .val (.int (4 : Int32)), .val (.int ff), .val (.ref b1), .val (.int us), .unset, .unset, .unset] [(.int ((32 : Int32) - us)), (.int ff), (.ref b1)])) rfl rfl (hb hby at_187)
            have N0 := Fr.snoc X14 N0 g_b1
            have Z0 := Nat.le_trans Z0 (Keep.of_wr W14).1
            have K0 := K0.wr W14 (Or.inr sz_b1)
            have E_b1 := E_b1.wr W14
            have A_b1 : Ary Z h14 b1 .int 4 (fun x => .int ((own_Q4 ff x0 x1 f1 us) x)) := B14.congr (own_Q4_eq)
            refine Dn.st st14 ?_
            show Dn p e below s _ _ _ T14 (mkF m 188 #[.val (.int x0), .val (.int x1), .val (.int x2), .val (.int x3), .val (.int x4), .val (.int (4 : Int32)), .val (.int ff), .val (.ref b1), .val (.int us), .unset, .unset, .unset] [])
            refine Dn.st (fun t q => XS.iloadN X14.here hx rfl (hb hby at_188) rfl  q) ?_
            show Dn p e below s _ _ _ T14 (mkF m 189 #[.val (.int x0), .val (.int x1), .val (.int x2), .val (.int x3), .val (.int x4), .val (.int (4 : Int32)), .val (.int ff), .val (.ref b1), .val (.int us), .unset, .unset, .unset] [(.int x3)])
            refine Dn.st (fun t q => XS.iconst X14.here hx rfl (hb hby at_189) q) ?_
            show Dn p e below s _ _ _ T14 (mkF m 190 #[.val (.int x0), .val (.int x1), .val (.int x2), .val (.int x3), .val (.int x4), .val (.int (4 : Int32)), .val (.int ff), .val (.ref b1), .val (.int us), .unset, .unset, .unset] [(.int (2 : Int32)), (.int x3)])
            refine Dn.st (fun t q => XS.iand X14.here hx rfl (hb hby at_190) rfl q) ?_
            show Dn p e below s _ _ _ T14 (mkF m 191 #[.val (.int x0), .val (.int x1), .val (.int x2), .val (.int x3), .val (.int x4), .val (.int (4 : Int32)), .val (.int ff), .val (.ref b1), .val (.int us), .unset, .unset, .unset] [(.int (x3 &&& (2 : Int32)))])
            have jq : Dn p e below s (Q0 Z x0 x1 x2 x3 x4 h0 n0) (9) (128) T14 (mkF m 207 #[.val (.int x0), .val (.int x1), .val (.int x2), .val (.int x3), .val (.int x4), .val (.int (4 : Int32)), .val (.int ff), .val (.ref b1), .val (.int us), .unset, .unset, .unset] [(.int (own_s x3 x4))]) := by
              obtain ⟨s1, hs1⟩ := own_snn x3 x4
              generalize hss : (own_s x3 x4) = ss
              show Dn p e below s _ _ _ T14 (mkF m 207 #[.val (.int x0), .val (.int x1), .val (.int x2), .val (.int x3), .val (.int x4), .val (.int (4 : Int32)), .val (.int ff), .val (.ref b1), .val (.int us), .unset, .unset, .unset] [(.int ss)])
              rw [hss] at hs1
              refine Dn.st (fun t q => XS.istore X14.here hx rfl (hb hby at_207) rfl (l' := #[.val (.int x0), .val (.int x1), .val (.int x2), .val (.int x3), .val (.int x4), .val (.int (4 : Int32)), .val (.int ff), .val (.ref b1), .val (.int us), .val (.int ss), .unset, .unset]) rfl q) ?_
              show Dn p e below s _ _ _ T14 (mkF m 209 #[.val (.int x0), .val (.int x1), .val (.int x2), .val (.int x3), .val (.int x4), .val (.int (4 : Int32)), .val (.int ff), .val (.ref b1), .val (.int us), .val (.int ss), .unset, .unset] [])
              refine Dn.st (fun t q => XS.iload X14.here hx rfl (hb hby at_209) rfl  q) ?_
              show Dn p e below s _ _ _ T14 (mkF m 211 #[.val (.int x0), .val (.int x1), .val (.int x2), .val (.int x3), .val (.int x4), .val (.int (4 : Int32)), .val (.int ff), .val (.ref b1), .val (.int us), .val (.int ss), .unset, .unset] [(.int ss)])
              refine Dn.st (fun t q => XS.iload X14.here hx rfl (hb hby at_211) rfl  q) ?_
              show Dn p e below s _ _ _ T14 (mkF m 213 #[.val (.int x0), .val (.int x1), .val (.int x2), .val (.int x3), .val (.int x4), .val (.int (4 : Int32)), .val (.int ff), .val (.ref b1), .val (.int us), .val (.int ss), .unset, .unset] [(.int (4 : Int32)), (.int ss)])
              have je : Dn p e below s (Q0 Z x0 x1 x2 x3 x4 h0 n0) (9) (128) T14 (mkF m 229 #[.val (.int x0), .val (.int x1), .val (.int x2), .val (.int x3), .val (.int x4), .val (.int (4 : Int32)), .val (.int ff), .val (.ref b1), .val (.int us), .val (.int ss), .unset, .unset] [(.int (own_exp (own_Q4 ff x0 x1 f1 us) 4 ss))]) := by
                refine Dn.st (fun t q => XS.istore X14.here hx rfl (hb hby at_229) rfl (l' := #[.val (.int x0), .val (.int x1), .val (.int x2), .val (.int x3), .val (.int x4), .val (.int (4 : Int32)), .val (.int ff), .val (.ref b1), .val (.int us), .val (.int ss), .val (.int (own_exp (own_Q4 ff x0 x1 f1 us) 4 ss)), .unset]) rfl q) ?_
                show Dn p e below s _ _ _ T14 (mkF m 231 #[.val (.int x0), .val (.int x1), .val (.int x2), .val (.int x3), .val (.int x4), .val (.int (4 : Int32)), .val (.int ff), .val (.ref b1), .val (.int us), .val (.int ss), .val (.int (own_exp (own_Q4 ff x0 x1 f1 us) 4 ss)), .unset] [])
                obtain ⟨T15, h15, X15, e15, E15, A15, D15, -, st15⟩ := newO X14 hx hZ hown (hw _ (List.mem_of_getElem? (i := 9) rfl)) (hw _ (List.mem_of_getElem? (i := 10) rfl)) (hw _ (List.mem_of_getElem? (i := 11) rfl)) e14 (g := (mkF m 231 #[.val (.int x0), .val (.int x1), .val (.int x2), .val (.int x3), .val (.int x4), .val (.int (4 : Int32)), .val (.int ff), .val (.ref b1), .val (.int us), .val (.int ss), .val (.int (own_exp (own_Q4 ff x0 x1 f1 us) 4 ss)), .unset] [])) rfl (hb hby at_231) (by decide) (by decide)
                obtain ⟨b2, g15⟩ : ∃ z, z = h14.size := ⟨_, rfl⟩
                rw [← g15] at A15 D15 st15
                have ne_b1_b2 : b1 ≠ b2 := own_ne E_b1.lt g15
                have g_b2 : n0 ≤ b2 := Nat.le_trans Z0 (Nat.le_of_eq g15.symm)
                have sz_b2 : h0.size ≤ b2 := Nat.le_trans K0.1 (Nat.le_of_eq g15.symm)
                have Z0 := Nat.le_trans Z0 E15.1
                have K0 := K0.ext E15
                have E_b1 := E_b1.ext E15
                have A_b1 := A_b1.ext E15
                have E_b2 := A15
                have F_log_b2 : Fld Z h15 b2 "keyfold/Fse" "log" "I" (.int (0 : Int32)) := D15 (Or.inr (hw _ (List.mem_of_getElem? (i := 19) rfl))) (ty := .int) (by decide)
                have F_probabilities_b2 : Fld Z h15 b2 "keyfold/Fse" "probabilities" "[I" .null := D15 (Or.inr (hw _ (List.mem_of_getElem? (i := 30) rfl))) (ty := (.array .int)) (by decide)
                have F_counts_b2 : Fld Z h15 b2 "keyfold/Fse" "counts" "[I" .null := D15 (Or.inr (hw _ (List.mem_of_getElem? (i := 32) rfl))) (ty := (.array .int)) (by decide)
                have F_first_b2 : Fld Z h15 b2 "keyfold/Fse" "first" "[I" .null := D15 (Or.inr (hw _ (List.mem_of_getElem? (i := 34) rfl))) (ty := (.array .int)) (by decide)
                have F_byState_b2 : Fld Z h15 b2 "keyfold/Fse" "byState" "[I" .null := D15 (Or.inr (hw _ (List.mem_of_getElem? (i := 36) rfl))) (ty := (.array .int)) (by decide)
                have F_states_b2 : Fld Z h15 b2 "keyfold/Fse" "states" "[I" .null := D15 (Or.inr (hw _ (List.mem_of_getElem? (i := 38) rfl))) (ty := (.array .int)) (by decide)
                refine Dn.st st15 ?_
                show Dn p e below s _ _ _ T15 (mkF m 234 #[.val (.int x0), .val (.int x1), .val (.int x2), .val (.int x3), .val (.int x4), .val (.int (4 : Int32)), .val (.int ff), .val (.ref b1), .val (.int us), .val (.int ss), .val (.int (own_exp (own_Q4 ff x0 x1 f1 us) 4 ss)), .unset] [(.ref b2)])
                refine Dn.st (fun t q => XS.dup X15.here hx rfl (hb hby at_234) rfl rfl q) ?_
                show Dn p e below s _ _ _ T15 (mkF m 235 #[.val (.int x0), .val (.int x1), .val (.int x2), .val (.int x3), .val (.int x4), .val (.int (4 : Int32)), .val (.int ff), .val (.ref b1), .val (.int us), .val (.int ss), .val (.int (own_exp (own_Q4 ff x0 x1 f1 us) 4 ss)), .unset] [(.ref b2), (.ref b2)])
                refine Dn.st (fun t q => XS.aload X15.here hx rfl (hb hby at_235) rfl rfl  q) ?_
                show Dn p e below s _ _ _ T15 (mkF m 237 #[.val (.int x0), .val (.int x1), .val (.int x2), .val (.int x3), .val (.int x4), .val (.int (4 : Int32)), .val (.int ff), .val (.ref b1), .val (.int us), .val (.int ss), .val (.int (own_exp (own_Q4 ff x0 x1 f1 us) 4 ss)), .unset] [(.ref b1), (.ref b2), (.ref b2)])
                refine Dn.st (fun t q => XS.iconst X15.here hx rfl (hb hby at_237) q) ?_
                show Dn p e below s _ _ _ T15 (mkF m 238 #[.val (.int x0), .val (.int x1), .val (.int x2), .val (.int x3), .val (.int x4), .val (.int (4 : Int32)), .val (.int ff), .val (.ref b1), .val (.int us), .val (.int ss), .val (.int (own_exp (own_Q4 ff x0 x1 f1 us) 4 ss)), .unset] [(.int (5 : Int32)), (.ref b1), (.ref b2), (.ref b2)])
                obtain ⟨_, _, ⟨T16, Lq16, kq_16, nq_16⟩, -, X16, ⟨Lc16, hQ16, lq16, yq16, zq16⟩, st16⟩ := X15.specialBack hx (y := (⟨"keyfold/Fse", "<init>", "([II)V"⟩ : MethodName)) rfl hown (mvT hZ (hw _ (List.mem_of_getElem? (i := 12) rfl))) (mvT hZ (hw _ (List.mem_of_getElem? (i := 13) rfl))) (mvT hZ (hw _ (List.mem_of_getElem? (i := 14) rfl))) (by decide) (backOf (W := 1) (rm3 l Z a0 hw [] b2 b1 (5 : Int32) (.int (0 : Int32)) .null .null .null .null .null (own_Q4 ff x0 x1 f1 us) 4 h15 n0 Z0 E_b2 F_log_b2 F_probabilities_b2 F_counts_b2 F_first_b2 F_byState_b2 F_states_b2 A_b1 E_b1 (Ne.symm ne_b1_b2) g_b2 rfl hok) hZ (hw _ (List.mem_of_getElem? (i := 14) rfl)) (hw _ (List.mem_of_getElem? (i := 11) rfl)) (by decide) (by decide)) (g := (mkF m 238 #[.val (.int x0), .val (.int x1), .val (.int x2), .val (.int x3), .val (.int x4), .val (.int (4 : Int32)), .val (.int ff), .val (.ref b1), .val (.int us), .val (.int ss), .val (.int (own_exp (own_Q4 ff x0 x1 f1 us) 4 ss)), .unset] [(.int (5 : Int32)), (.ref b1), (.ref b2), (.ref b2)])) rfl (by rw [hml]; rfl) (Steps.refl _) (a := b2) (argsL := [(.ref b1), (.int (5 : Int32))]) (rest := [(.ref b2)]) (lenOf pd_1 rfl) rfl (by show 2 * 0 + _ ≤ _; exact Nat.le_of_eq rfl) (hb hby at_238) (fun _ _ => ⟨rfl, e15, (by decide : 2 + 7 ≤ _), (by decide : 11 + 116 ≤ _)⟩)
                dsimp only [Pt.U, Pt.locs, Pt.cells, Pt.slots] at X16 lq16 yq16 zq16 st16 hQ16
                subst lq16 yq16 zq16
                obtain ⟨rfl, N16q, K16, bc, le16, F_counts_b2, A_bc⟩ := hQ16
                have N0 := Fr.app N0 N16q
                have Z0 := Nat.le_trans Z0 K16.1
                have K0 := K0.trans K16 (allS (Or.inr sz_b2) all0)
                have E_b1 := E_b1.keep K16
                have A_b1 := A_b1.keep K16 (ninS ne_b1_b2 nin0)
                have E_b2 := E_b2.keep K16
                refine Dn.tr st16 ?_
                show Dn p e below s _ _ _ T16 (mkF m 241 #[.val (.int x0), .val (.int x1), .val (.int x2), .val (.int x3), .val (.int x4), .val (.int (4 : Int32)), .val (.int ff), .val (.ref b1), .val (.int us), .val (.int ss), .val (.int (own_exp (own_Q4 ff x0 x1 f1 us) 4 ss)), .unset] [(.ref b2)])
                refine Dn.st (fun t q => XS.astore X16.here hx rfl (hb hby at_241) rfl rfl (l' := #[.val (.int x0), .val (.int x1), .val (.int x2), .val (.int x3), .val (.int x4), .val (.int (4 : Int32)), .val (.int ff), .val (.ref b1), .val (.int us), .val (.int ss), .val (.int (own_exp (own_Q4 ff x0 x1 f1 us) 4 ss)), .val (.ref b2)]) rfl q) ?_
                show Dn p e below s _ _ _ T16 (mkF m 243 #[.val (.int x0), .val (.int x1), .val (.int x2), .val (.int x3), .val (.int x4), .val (.int (4 : Int32)), .val (.int ff), .val (.ref b1), .val (.int us), .val (.int ss), .val (.int (own_exp (own_Q4 ff x0 x1 f1 us) 4 ss)), .val (.ref b2)] [])
                refine Dn.st (fun t q => XS.aload X16.here hx rfl (hb hby at_243) rfl rfl  q) ?_
                show Dn p e below s _ _ _ T16 (mkF m 245 #[.val (.int x0), .val (.int x1), .val (.int x2), .val (.int x3), .val (.int x4), .val (.int (4 : Int32)), .val (.int ff), .val (.ref b1), .val (.int us), .val (.int ss), .val (.int (own_exp (own_Q4 ff x0 x1 f1 us) 4 ss)), .val (.ref b2)] [(.ref b2)])
                refine Dn.st (fun t q => XS.iload X16.here hx rfl (hb hby at_245) rfl  q) ?_
                show Dn p e below s _ _ _ T16 (mkF m 247 #[.val (.int x0), .val (.int x1), .val (.int x2), .val (.int x3), .val (.int x4), .val (.int (4 : Int32)), .val (.int ff), .val (.ref b1), .val (.int us), .val (.int ss), .val (.int (own_exp (own_Q4 ff x0 x1 f1 us) 4 ss)), .val (.ref b2)] [(.int ss), (.ref b2)])
                obtain ⟨cq17, kq17, q17a, q17b, q17c⟩ := isOf hZ rfl E_b2
                obtain ⟨_, _, ⟨T17, Lq17, kq_17, nq_17⟩, -, X17, ⟨Lc17, hQ17, lq17, yq17, zq17⟩, st17⟩ := X16.virtualBack hx (y := (⟨"keyfold/Fse", "has", "(I)Z"⟩ : MethodName)) (z := (⟨"keyfold/Fse", "has", "(I)Z"⟩ : MethodName)) hown (mvT hZ (hw _ (List.mem_of_getElem? (i := 48) rfl))) (mvT hZ (hw _ (List.mem_of_getElem? (i := 49) rfl))) (notFace_of_selects (args := #[]) (mvT hZ (hw _ (List.mem_of_getElem? (i := 51) rfl)))) (mvT hZ (hw _ (List.mem_of_getElem? (i := 51) rfl))) (mvT hZ (hw _ (List.mem_of_getElem? (i := 50) rfl))) (by decide) (backOf (W := 0) (rm7 l Z a0 hw [] b2 ss bc (own_Q4 ff x0 x1 f1 us) 4 s1 T16.heap n0 Z0 F_counts_b2 A_bc hs1 (by decide)) hZ (hw _ (List.mem_of_getElem? (i := 52) rfl)) (hw _ (List.mem_of_getElem? (i := 11) rfl)) (by decide) (by decide)) q17a q17c (g := (mkF m 247 #[.val (.int x0), .val (.int x1), .val (.int x2), .val (.int x3), .val (.int x4), .val (.int (4 : Int32)), .val (.int ff), .val (.ref b1), .val (.int us), .val (.int ss), .val (.int (own_exp (own_Q4 ff x0 x1 f1 us) 4 ss)), .val (.ref b2)] [(.int ss), (.ref b2)])) rfl (by rw [hml]; rfl) (Steps.refl _) (argsL := [(.int ss)]) (rest := []) (lenOf pd_2 rfl) rfl (by show 2 * 0 + _ ≤ _; exact Nat.le_of_eq rfl) (hb hby at_247) (fun _ _ => ⟨rfl, rfl, (by decide : 9 + 0 ≤ _), (by decide : 127 + 0 ≤ _)⟩)
                dsimp only [Pt.U, Pt.locs, Pt.cells, Pt.slots] at X17 lq17 yq17 zq17 st17 hQ17
                subst lq17 yq17 zq17
                obtain ⟨rfl, N17q, hq17⟩ := hQ17
                have N0 := Fr.app N0 N17q
                have e17 : T17.heap = T16.heap := hq17
                refine Dn.tr st17 ?_
                show Dn p e below s _ _ _ T17 (mkF m 250 #[.val (.int x0), .val (.int x1), .val (.int x2), .val (.int x3), .val (.int x4), .val (.int (4 : Int32)), .val (.int ff), .val (.ref b1), .val (.int us), .val (.int ss), .val (.int (own_exp (own_Q4 ff x0 x1 f1 us) 4 ss)), .val (.ref b2)] [(.int (own_has (own_Q4 ff x0 x1 f1 us) 4 ss))])
                refine Dn.st (fun t q => XS.iload X17.here hx rfl (hb hby at_250) rfl  q) ?_
                show Dn p e below s _ _ _ T17 (mkF m 252 #[.val (.int x0), .val (.int x1), .val (.int x2), .val (.int x3), .val (.int x4), .val (.int (4 : Int32)), .val (.int ff), .val (.ref b1), .val (.int us), .val (.int ss), .val (.int (own_exp (own_Q4 ff x0 x1 f1 us) 4 ss)), .val (.ref b2)] [(.int (own_exp (own_Q4 ff x0 x1 f1 us) 4 ss)), (.int (own_has (own_Q4 ff x0 x1 f1 us) 4 ss))])
                refine Dn.st (fun t q => XS.icmpNo X17.here hx rfl (hb hby at_252) rfl (teq (own_hasexp hok hs1)).2 q) ?_
                show Dn p e below s _ _ _ T17 (mkF m 255 #[.val (.int x0), .val (.int x1), .val (.int x2), .val (.int x3), .val (.int x4), .val (.int (4 : Int32)), .val (.int ff), .val (.ref b1), .val (.int us), .val (.int ss), .val (.int (own_exp (own_Q4 ff x0 x1 f1 us) 4 ss)), .val (.ref b2)] [])
                refine Dn.st (fun t q => XS.iconst X17.here hx rfl (hb hby at_255) q) ?_
                show Dn p e below s _ _ _ T17 (mkF m 256 #[.val (.int x0), .val (.int x1), .val (.int x2), .val (.int x3), .val (.int x4), .val (.int (4 : Int32)), .val (.int ff), .val (.ref b1), .val (.int us), .val (.int ss), .val (.int (own_exp (own_Q4 ff x0 x1 f1 us) 4 ss)), .val (.ref b2)] [(.int (1 : Int32))])
                refine Dn.st (fun t q => XS.goto X17.here hx rfl (pc0 := 256) (pc' := 260) rfl (hb hby at_256) (by decide) (by decide) q) ?_
                show Dn p e below s _ _ _ T17 (mkF m 260 #[.val (.int x0), .val (.int x1), .val (.int x2), .val (.int x3), .val (.int x4), .val (.int (4 : Int32)), .val (.int ff), .val (.ref b1), .val (.int us), .val (.int ss), .val (.int (own_exp (own_Q4 ff x0 x1 f1 us) 4 ss)), .val (.ref b2)] [(.int (1 : Int32))])
                exact Dn.retZ X17 hx Bd.notSynchronized (t := .boolean) Bd.returns (by simp) (hb hby at_260) (by rw [e17]; exact ⟨rfl, N0⟩) (by decide) (by decide)
              by_cases e1 : ss < (4 : Int32)
              · refine Dn.st (fun t q => XS.icmpNo X14.here hx rfl (hb hby at_213) rfl (tlt e1).2.1 q) ?_
                show Dn p e below s _ _ _ T14 (mkF m 216 #[.val (.int x0), .val (.int x1), .val (.int x2), .val (.int x3), .val (.int x4), .val (.int (4 : Int32)), .val (.int ff), .val (.ref b1), .val (.int us), .val (.int ss), .unset, .unset] [])
                refine Dn.st (fun t q => XS.aload X14.here hx rfl (hb hby at_216) rfl rfl  q) ?_
                show Dn p e below s _ _ _ T14 (mkF m 218 #[.val (.int x0), .val (.int x1), .val (.int x2), .val (.int x3), .val (.int x4), .val (.int (4 : Int32)), .val (.int ff), .val (.ref b1), .val (.int us), .val (.int ss), .unset, .unset] [(.ref b1)])
                refine Dn.st (fun t q => XS.iload X14.here hx rfl (hb hby at_218) rfl  q) ?_
                show Dn p e below s _ _ _ T14 (mkF m 220 #[.val (.int x0), .val (.int x1), .val (.int x2), .val (.int x3), .val (.int x4), .val (.int (4 : Int32)), .val (.int ff), .val (.ref b1), .val (.int us), .val (.int ss), .unset, .unset] [(.int ss), (.ref b1)])
                refine Dn.st (aLoadI (w := (fun x => ((own_Q4 ff x0 x1 f1 us) x))) X14 hx hZ e14 A_b1 (i := s1) hs1 (own_lt1 hs1 (by decide) e1) (g := (mkF m 220 #[.val (.int x0), .val (.int x1), .val (.int x2), .val (.int x3), .val (.int x4), .val (.int (4 : Int32)), .val (.int ff), .val (.ref b1), .val (.int us), .val (.int ss), .unset, .unset] [(.int ss), (.ref b1)])) rfl rfl (hb hby at_220)) ?_
                show Dn p e below s _ _ _ T14 (mkF m 221 #[.val (.int x0), .val (.int x1), .val (.int x2), .val (.int x3), .val (.int x4), .val (.int (4 : Int32)), .val (.int ff), .val (.ref b1), .val (.int us), .val (.int ss), .unset, .unset] [(.int ((own_Q4 ff x0 x1 f1 us) (s1)))])
                by_cases e2 : ((own_Q4 ff x0 x1 f1 us) (s1)) = (0 : Int32)
                · refine Dn.st (fun t q => XS.ifYes X14.here hx rfl (pc0 := 221) (pc' := 228) rfl (hb hby at_221) rfl ((if0 _ _).trans (teq e2).1) (by decide) (by decide) q) ?_
                  show Dn p e below s _ _ _ T14 (mkF m 228 #[.val (.int x0), .val (.int x1), .val (.int x2), .val (.int x3), .val (.int x4), .val (.int (4 : Int32)), .val (.int ff), .val (.ref b1), .val (.int us), .val (.int ss), .unset, .unset] [])
                  refine Dn.st (fun t q => XS.iconst X14.here hx rfl (hb hby at_228) q) ?_
                  show Dn p e below s _ _ _ T14 (mkF m 229 #[.val (.int x0), .val (.int x1), .val (.int x2), .val (.int x3), .val (.int x4), .val (.int (4 : Int32)), .val (.int ff), .val (.ref b1), .val (.int us), .val (.int ss), .unset, .unset] [(.int (0 : Int32))])
                  rw [show (0 : Int32) = (own_exp (own_Q4 ff x0 x1 f1 us) 4 ss) from (own_exp_0 hs1 e1 e2)]
                  show Dn p e below s _ _ _ T14 (mkF m 229 #[.val (.int x0), .val (.int x1), .val (.int x2), .val (.int x3), .val (.int x4), .val (.int (4 : Int32)), .val (.int ff), .val (.ref b1), .val (.int us), .val (.int ss), .unset, .unset] [(.int (own_exp (own_Q4 ff x0 x1 f1 us) 4 ss))])
                  exact je
                · refine Dn.st (fun t q => XS.ifNo X14.here hx rfl (hb hby at_221) rfl ((if0 _ _).trans (feq e2).1) q) ?_
                  show Dn p e below s _ _ _ T14 (mkF m 224 #[.val (.int x0), .val (.int x1), .val (.int x2), .val (.int x3), .val (.int x4), .val (.int (4 : Int32)), .val (.int ff), .val (.ref b1), .val (.int us), .val (.int ss), .unset, .unset] [])
                  refine Dn.st (fun t q => XS.iconst X14.here hx rfl (hb hby at_224) q) ?_
                  show Dn p e below s _ _ _ T14 (mkF m 225 #[.val (.int x0), .val (.int x1), .val (.int x2), .val (.int x3), .val (.int x4), .val (.int (4 : Int32)), .val (.int ff), .val (.ref b1), .val (.int us), .val (.int ss), .unset, .unset] [(.int (1 : Int32))])
                  refine Dn.st (fun t q => XS.goto X14.here hx rfl (pc0 := 225) (pc' := 229) rfl (hb hby at_225) (by decide) (by decide) q) ?_
                  show Dn p e below s _ _ _ T14 (mkF m 229 #[.val (.int x0), .val (.int x1), .val (.int x2), .val (.int x3), .val (.int x4), .val (.int (4 : Int32)), .val (.int ff), .val (.ref b1), .val (.int us), .val (.int ss), .unset, .unset] [(.int (1 : Int32))])
                  rw [show (1 : Int32) = (own_exp (own_Q4 ff x0 x1 f1 us) 4 ss) from (own_exp_1 hs1 e1 e2)]
                  show Dn p e below s _ _ _ T14 (mkF m 229 #[.val (.int x0), .val (.int x1), .val (.int x2), .val (.int x3), .val (.int x4), .val (.int (4 : Int32)), .val (.int ff), .val (.ref b1), .val (.int us), .val (.int ss), .unset, .unset] [(.int (own_exp (own_Q4 ff x0 x1 f1 us) 4 ss))])
                  exact je
              · refine Dn.st (fun t q => XS.icmpYes X14.here hx rfl (pc0 := 213) (pc' := 228) rfl (hb hby at_213) rfl (flt e1).2.1 (by decide) (by decide) q) ?_
                show Dn p e below s _ _ _ T14 (mkF m 228 #[.val (.int x0), .val (.int x1), .val (.int x2), .val (.int x3), .val (.int x4), .val (.int (4 : Int32)), .val (.int ff), .val (.ref b1), .val (.int us), .val (.int ss), .unset, .unset] [])
                refine Dn.st (fun t q => XS.iconst X14.here hx rfl (hb hby at_228) q) ?_
                show Dn p e below s _ _ _ T14 (mkF m 229 #[.val (.int x0), .val (.int x1), .val (.int x2), .val (.int x3), .val (.int x4), .val (.int (4 : Int32)), .val (.int ff), .val (.ref b1), .val (.int us), .val (.int ss), .unset, .unset] [(.int (0 : Int32))])
                rw [show (0 : Int32) = (own_exp (own_Q4 ff x0 x1 f1 us) 4 ss) from (own_exp_n e1)]
                show Dn p e below s _ _ _ T14 (mkF m 229 #[.val (.int x0), .val (.int x1), .val (.int x2), .val (.int x3), .val (.int x4), .val (.int (4 : Int32)), .val (.int ff), .val (.ref b1), .val (.int us), .val (.int ss), .unset, .unset] [(.int (own_exp (own_Q4 ff x0 x1 f1 us) 4 ss))])
                exact je
            by_cases hc : (x3 &&& (2 : Int32)) = (0 : Int32)
            · refine Dn.st (fun t q => XS.ifYes X14.here hx rfl (pc0 := 191) (pc' := 202) rfl (hb hby at_191) rfl ((if0 _ _).trans (teq hc).1) (by decide) (by decide) q) ?_
              show Dn p e below s _ _ _ T14 (mkF m 202 #[.val (.int x0), .val (.int x1), .val (.int x2), .val (.int x3), .val (.int x4), .val (.int (4 : Int32)), .val (.int ff), .val (.ref b1), .val (.int us), .unset, .unset, .unset] [])
              refine Dn.st (fun t q => XS.iload X14.here hx rfl (hb hby at_202) rfl  q) ?_
              show Dn p e below s _ _ _ T14 (mkF m 204 #[.val (.int x0), .val (.int x1), .val (.int x2), .val (.int x3), .val (.int x4), .val (.int (4 : Int32)), .val (.int ff), .val (.ref b1), .val (.int us), .unset, .unset, .unset] [(.int x4)])
              refine Dn.st (fun t q => XS.bipush X14.here hx rfl (hb hby at_204) q) ?_
              show Dn p e below s _ _ _ T14 (mkF m 206 #[.val (.int x0), .val (.int x1), .val (.int x2), .val (.int x3), .val (.int x4), .val (.int (4 : Int32)), .val (.int ff), .val (.ref b1), .val (.int us), .unset, .unset, .unset] [(.int (7 : Int32)), (.int x4)])
              refine Dn.st (fun t q => XS.iand X14.here hx rfl (hb hby at_206) rfl q) ?_
              show Dn p e below s _ _ _ T14 (mkF m 207 #[.val (.int x0), .val (.int x1), .val (.int x2), .val (.int x3), .val (.int x4), .val (.int (4 : Int32)), .val (.int ff), .val (.ref b1), .val (.int us), .unset, .unset, .unset] [(.int (x4 &&& (7 : Int32)))])
              rw [show (x4 &&& (7 : Int32)) = (own_s x3 x4) from (own_s_y hc)]
              show Dn p e below s _ _ _ T14 (mkF m 207 #[.val (.int x0), .val (.int x1), .val (.int x2), .val (.int x3), .val (.int x4), .val (.int (4 : Int32)), .val (.int ff), .val (.ref b1), .val (.int us), .unset, .unset, .unset] [(.int (own_s x3 x4))])
              exact jq
            · refine Dn.st (fun t q => XS.ifNo X14.here hx rfl (hb hby at_191) rfl ((if0 _ _).trans (feq hc).1) q) ?_
              show Dn p e below s _ _ _ T14 (mkF m 194 #[.val (.int x0), .val (.int x1), .val (.int x2), .val (.int x3), .val (.int x4), .val (.int (4 : Int32)), .val (.int ff), .val (.ref b1), .val (.int us), .unset, .unset, .unset] [])
              refine Dn.st (fun t q => XS.iload X14.here hx rfl (hb hby at_194) rfl  q) ?_
              show Dn p e below s _ _ _ T14 (mkF m 196 #[.val (.int x0), .val (.int x1), .val (.int x2), .val (.int x3), .val (.int x4), .val (.int (4 : Int32)), .val (.int ff), .val (.ref b1), .val (.int us), .unset, .unset, .unset] [(.int x4)])
              refine Dn.st (X14.ldcInt hx hown (mvT hZ (hw _ (List.mem_of_getElem? (i := 0) rfl))) (g := (mkF m 196 #[.val (.int x0), .val (.int x1), .val (.int x2), .val (.int x3), .val (.int x4), .val (.int (4 : Int32)), .val (.int ff), .val (.ref b1), .val (.int us), .unset, .unset, .unset] [(.int x4)])) rfl (hb hby at_196)) ?_
              show Dn p e below s _ _ _ T14 (mkF m 198 #[.val (.int x0), .val (.int x1), .val (.int x2), .val (.int x3), .val (.int x4), .val (.int (4 : Int32)), .val (.int ff), .val (.ref b1), .val (.int us), .unset, .unset, .unset] [(.int (2147483647 : Int32)), (.int x4)])
              refine Dn.st (fun t q => XS.iand X14.here hx rfl (hb hby at_198) rfl q) ?_
              show Dn p e below s _ _ _ T14 (mkF m 199 #[.val (.int x0), .val (.int x1), .val (.int x2), .val (.int x3), .val (.int x4), .val (.int (4 : Int32)), .val (.int ff), .val (.ref b1), .val (.int us), .unset, .unset, .unset] [(.int (x4 &&& (2147483647 : Int32)))])
              refine Dn.st (fun t q => XS.goto X14.here hx rfl (pc0 := 199) (pc' := 207) rfl (hb hby at_199) (by decide) (by decide) q) ?_
              show Dn p e below s _ _ _ T14 (mkF m 207 #[.val (.int x0), .val (.int x1), .val (.int x2), .val (.int x3), .val (.int x4), .val (.int (4 : Int32)), .val (.int ff), .val (.ref b1), .val (.int us), .unset, .unset, .unset] [(.int (x4 &&& (2147483647 : Int32)))])
              rw [show (x4 &&& (2147483647 : Int32)) = (own_s x3 x4) from (own_s_n hc)]
              show Dn p e below s _ _ _ T14 (mkF m 207 #[.val (.int x0), .val (.int x1), .val (.int x2), .val (.int x3), .val (.int x4), .val (.int (4 : Int32)), .val (.int ff), .val (.ref b1), .val (.int us), .unset, .unset, .unset] [(.int (own_s x3 x4))])
              exact jq
          by_cases hc : ff = (3 : Int32)
          · refine Dn.st (fun t q => XS.icmpNo X7.here hx rfl (hb hby at_87) rfl (teq hc).2 q) ?_
            show Dn p e below s _ _ _ T7 (mkF m 90 #[.val (.int x0), .val (.int x1), .val (.int x2), .val (.int x3), .val (.int x4), .val (.int (4 : Int32)), .val (.int ff), .val (.ref b1), .unset, .unset, .unset, .unset] [(.int (3 : Int32)), (.ref b1)])
            refine Dn.st (fun t q => XS.iconst X7.here hx rfl (hb hby at_90) q) ?_
            show Dn p e below s _ _ _ T7 (mkF m 91 #[.val (.int x0), .val (.int x1), .val (.int x2), .val (.int x3), .val (.int x4), .val (.int (4 : Int32)), .val (.int ff), .val (.ref b1), .unset, .unset, .unset, .unset] [(.int (0 : Int32)), (.int (3 : Int32)), (.ref b1)])
            refine Dn.st (fun t q => XS.goto X7.here hx rfl (pc0 := 91) (pc' := 100) rfl (hb hby at_91) (by decide) (by decide) q) ?_
            show Dn p e below s _ _ _ T7 (mkF m 100 #[.val (.int x0), .val (.int x1), .val (.int x2), .val (.int x3), .val (.int x4), .val (.int (4 : Int32)), .val (.int ff), .val (.ref b1), .unset, .unset, .unset, .unset] [(.int (0 : Int32)), (.int (3 : Int32)), (.ref b1)])
            rw [show (0 : Int32) = (own_pv ff x0 x1 (3 : Int32)) from (own_pv_y hc)]
            show Dn p e below s _ _ _ T7 (mkF m 100 #[.val (.int x0), .val (.int x1), .val (.int x2), .val (.int x3), .val (.int x4), .val (.int (4 : Int32)), .val (.int ff), .val (.ref b1), .unset, .unset, .unset, .unset] [(.int (own_pv ff x0 x1 (3 : Int32))), (.int (3 : Int32)), (.ref b1)])
            exact js3 _ _ X7 e7 N0
          · refine Dn.st (fun t q => XS.icmpYes X7.here hx rfl (pc0 := 87) (pc' := 94) rfl (hb hby at_87) rfl (feq hc).2 (by decide) (by decide) q) ?_
            show Dn p e below s _ _ _ T7 (mkF m 94 #[.val (.int x0), .val (.int x1), .val (.int x2), .val (.int x3), .val (.int x4), .val (.int (4 : Int32)), .val (.int ff), .val (.ref b1), .unset, .unset, .unset, .unset] [(.int (3 : Int32)), (.ref b1)])
            refine Dn.st (fun t q => XS.iloadN X7.here hx rfl (hb hby at_94) rfl  q) ?_
            show Dn p e below s _ _ _ T7 (mkF m 95 #[.val (.int x0), .val (.int x1), .val (.int x2), .val (.int x3), .val (.int x4), .val (.int (4 : Int32)), .val (.int ff), .val (.ref b1), .unset, .unset, .unset, .unset] [(.int x0), (.int (3 : Int32)), (.ref b1)])
            refine Dn.st (fun t q => XS.iloadN X7.here hx rfl (hb hby at_95) rfl  q) ?_
            show Dn p e below s _ _ _ T7 (mkF m 96 #[.val (.int x0), .val (.int x1), .val (.int x2), .val (.int x3), .val (.int x4), .val (.int (4 : Int32)), .val (.int ff), .val (.ref b1), .unset, .unset, .unset, .unset] [(.int x1), (.int x0), (.int (3 : Int32)), (.ref b1)])
            refine Dn.st (fun t q => XS.iconst X7.here hx rfl (hb hby at_96) q) ?_
            show Dn p e below s _ _ _ T7 (mkF m 97 #[.val (.int x0), .val (.int x1), .val (.int x2), .val (.int x3), .val (.int x4), .val (.int (4 : Int32)), .val (.int ff), .val (.ref b1), .unset, .unset, .unset, .unset] [(.int (3 : Int32)), (.int x1), (.int x0), (.int (3 : Int32)), (.ref b1)])
            obtain ⟨_, _, ⟨T18, Lq18, kq_18, nq_18⟩, -, X18, ⟨Lc18, hQ18, lq18, yq18, zq18⟩, st18⟩ := Jvm.LawKit.callS X7 hx (y := (⟨"keyfold/FseHasPinLaw", "draw", "(III)I"⟩ : MethodName)) hown (mvT hZ (hw _ (List.mem_of_getElem? (i := 2) rfl))) (mvT hZ (hw _ (List.mem_of_getElem? (i := 3) rfl))) (mvT hZ (hw _ (List.mem_of_getElem? (i := 4) rfl))) (mvT hZ (hw _ (List.mem_of_getElem? (i := 5) rfl))) (by decide) (backOf (W := 2) (rm1 l Z a0 hw [] x0 x1 (3 : Int32)  h7 n0 Z0 ) hZ (hw _ (List.mem_of_getElem? (i := 5) rfl)) (hw _ (List.mem_of_getElem? (i := 4) rfl)) (by decide) (by decide)) (g := (mkF m 97 #[.val (.int x0), .val (.int x1), .val (.int x2), .val (.int x3), .val (.int x4), .val (.int (4 : Int32)), .val (.int ff), .val (.ref b1), .unset, .unset, .unset, .unset] [(.int (3 : Int32)), (.int x1), (.int x0), (.int (3 : Int32)), (.ref b1)])) rfl (by rw [hml]; rfl) (argsL := [(.int x0), (.int x1), (.int (3 : Int32))]) (rest := [(.int (3 : Int32)), (.ref b1)]) (lenOf pd_3 rfl) rfl (by show 2 * 0 + _ ≤ _; exact Nat.le_of_eq rfl) (hb hby at_97) (fun _ _ => ⟨rfl, e7, (by decide : 1 + 0 ≤ _), (by decide : 4 + 0 ≤ _)⟩)
            dsimp only [Pt.U, Pt.locs, Pt.cells, Pt.slots] at X18 lq18 yq18 zq18 st18 hQ18
            subst lq18 yq18 zq18
            obtain ⟨rfl, N18q, hq18⟩ := hQ18
            have N0 := Fr.app N0 N18q
            have e18 : T18.heap = h7 := hq18
            refine Dn.st st18 ?_
            show Dn p e below s _ _ _ T18 (mkF m 100 #[.val (.int x0), .val (.int x1), .val (.int x2), .val (.int x3), .val (.int x4), .val (.int (4 : Int32)), .val (.int ff), .val (.ref b1), .unset, .unset, .unset, .unset] [(.int (own_draw x0 x1 (3 : Int32))), (.int (3 : Int32)), (.ref b1)])
            rw [show (own_draw x0 x1 (3 : Int32)) = (own_pv ff x0 x1 (3 : Int32)) from (own_pv_n hc)]
            show Dn p e below s _ _ _ T18 (mkF m 100 #[.val (.int x0), .val (.int x1), .val (.int x2), .val (.int x3), .val (.int x4), .val (.int (4 : Int32)), .val (.int ff), .val (.ref b1), .unset, .unset, .unset, .unset] [(.int (own_pv ff x0 x1 (3 : Int32))), (.int (3 : Int32)), (.ref b1)])
            exact js3 _ _ X18 e18 N0
        by_cases hc : ff = (2 : Int32)
        · refine Dn.st (fun t q => XS.icmpNo X5.here hx rfl (hb hby at_67) rfl (teq hc).2 q) ?_
          show Dn p e below s _ _ _ T5 (mkF m 70 #[.val (.int x0), .val (.int x1), .val (.int x2), .val (.int x3), .val (.int x4), .val (.int (4 : Int32)), .val (.int ff), .val (.ref b1), .unset, .unset, .unset, .unset] [(.int (2 : Int32)), (.ref b1)])
          refine Dn.st (fun t q => XS.iconst X5.here hx rfl (hb hby at_70) q) ?_
          show Dn p e below s _ _ _ T5 (mkF m 71 #[.val (.int x0), .val (.int x1), .val (.int x2), .val (.int x3), .val (.int x4), .val (.int (4 : Int32)), .val (.int ff), .val (.ref b1), .unset, .unset, .unset, .unset] [(.int (0 : Int32)), (.int (2 : Int32)), (.ref b1)])
          refine Dn.st (fun t q => XS.goto X5.here hx rfl (pc0 := 71) (pc' := 80) rfl (hb hby at_71) (by decide) (by decide) q) ?_
          show Dn p e below s _ _ _ T5 (mkF m 80 #[.val (.int x0), .val (.int x1), .val (.int x2), .val (.int x3), .val (.int x4), .val (.int (4 : Int32)), .val (.int ff), .val (.ref b1), .unset, .unset, .unset, .unset] [(.int (0 : Int32)), (.int (2 : Int32)), (.ref b1)])
          rw [show (0 : Int32) = (own_pv ff x0 x1 (2 : Int32)) from (own_pv_y hc)]
          show Dn p e below s _ _ _ T5 (mkF m 80 #[.val (.int x0), .val (.int x1), .val (.int x2), .val (.int x3), .val (.int x4), .val (.int (4 : Int32)), .val (.int ff), .val (.ref b1), .unset, .unset, .unset, .unset] [(.int (own_pv ff x0 x1 (2 : Int32))), (.int (2 : Int32)), (.ref b1)])
          exact js2 _ _ X5 e5 N0
        · refine Dn.st (fun t q => XS.icmpYes X5.here hx rfl (pc0 := 67) (pc' := 74) rfl (hb hby at_67) rfl (feq hc).2 (by decide) (by decide) q) ?_
          show Dn p e below s _ _ _ T5 (mkF m 74 #[.val (.int x0), .val (.int x1), .val (.int x2), .val (.int x3), .val (.int x4), .val (.int (4 : Int32)), .val (.int ff), .val (.ref b1), .unset, .unset, .unset, .unset] [(.int (2 : Int32)), (.ref b1)])
          refine Dn.st (fun t q => XS.iloadN X5.here hx rfl (hb hby at_74) rfl  q) ?_
          show Dn p e below s _ _ _ T5 (mkF m 75 #[.val (.int x0), .val (.int x1), .val (.int x2), .val (.int x3), .val (.int x4), .val (.int (4 : Int32)), .val (.int ff), .val (.ref b1), .unset, .unset, .unset, .unset] [(.int x0), (.int (2 : Int32)), (.ref b1)])
          refine Dn.st (fun t q => XS.iloadN X5.here hx rfl (hb hby at_75) rfl  q) ?_
          show Dn p e below s _ _ _ T5 (mkF m 76 #[.val (.int x0), .val (.int x1), .val (.int x2), .val (.int x3), .val (.int x4), .val (.int (4 : Int32)), .val (.int ff), .val (.ref b1), .unset, .unset, .unset, .unset] [(.int x1), (.int x0), (.int (2 : Int32)), (.ref b1)])
          refine Dn.st (fun t q => XS.iconst X5.here hx rfl (hb hby at_76) q) ?_
          show Dn p e below s _ _ _ T5 (mkF m 77 #[.val (.int x0), .val (.int x1), .val (.int x2), .val (.int x3), .val (.int x4), .val (.int (4 : Int32)), .val (.int ff), .val (.ref b1), .unset, .unset, .unset, .unset] [(.int (2 : Int32)), (.int x1), (.int x0), (.int (2 : Int32)), (.ref b1)])
          obtain ⟨_, _, ⟨T19, Lq19, kq_19, nq_19⟩, -, X19, ⟨Lc19, hQ19, lq19, yq19, zq19⟩, st19⟩ := Jvm.LawKit.callS X5 hx (y := (⟨"keyfold/FseHasPinLaw", "draw", "(III)I"⟩ : MethodName)) hown (mvT hZ (hw _ (List.mem_of_getElem? (i := 2) rfl))) (mvT hZ (hw _ (List.mem_of_getElem? (i := 3) rfl))) (mvT hZ (hw _ (List.mem_of_getElem? (i := 4) rfl))) (mvT hZ (hw _ (List.mem_of_getElem? (i := 5) rfl))) (by decide) (backOf (W := 2) (rm1 l Z a0 hw [] x0 x1 (2 : Int32)  h5 n0 Z0 ) hZ (hw _ (List.mem_of_getElem? (i := 5) rfl)) (hw _ (List.mem_of_getElem? (i := 4) rfl)) (by decide) (by decide)) (g := (mkF m 77 #[.val (.int x0), .val (.int x1), .val (.int x2), .val (.int x3), .val (.int x4), .val (.int (4 : Int32)), .val (.int ff), .val (.ref b1), .unset, .unset, .unset, .unset] [(.int (2 : Int32)), (.int x1), (.int x0), (.int (2 : Int32)), (.ref b1)])) rfl (by rw [hml]; rfl) (argsL := [(.int x0), (.int x1), (.int (2 : Int32))]) (rest := [(.int (2 : Int32)), (.ref b1)]) (lenOf pd_3 rfl) rfl (by show 2 * 0 + _ ≤ _; exact Nat.le_of_eq rfl) (hb hby at_77) (fun _ _ => ⟨rfl, e5, (by decide : 1 + 0 ≤ _), (by decide : 4 + 0 ≤ _)⟩)
          dsimp only [Pt.U, Pt.locs, Pt.cells, Pt.slots] at X19 lq19 yq19 zq19 st19 hQ19
          subst lq19 yq19 zq19
          obtain ⟨rfl, N19q, hq19⟩ := hQ19
          have N0 := Fr.app N0 N19q
          have e19 : T19.heap = h5 := hq19
          refine Dn.st st19 ?_
          show Dn p e below s _ _ _ T19 (mkF m 80 #[.val (.int x0), .val (.int x1), .val (.int x2), .val (.int x3), .val (.int x4), .val (.int (4 : Int32)), .val (.int ff), .val (.ref b1), .unset, .unset, .unset, .unset] [(.int (own_draw x0 x1 (2 : Int32))), (.int (2 : Int32)), (.ref b1)])
          rw [show (own_draw x0 x1 (2 : Int32)) = (own_pv ff x0 x1 (2 : Int32)) from (own_pv_n hc)]
          show Dn p e below s _ _ _ T19 (mkF m 80 #[.val (.int x0), .val (.int x1), .val (.int x2), .val (.int x3), .val (.int x4), .val (.int (4 : Int32)), .val (.int ff), .val (.ref b1), .unset, .unset, .unset, .unset] [(.int (own_pv ff x0 x1 (2 : Int32))), (.int (2 : Int32)), (.ref b1)])
          exact js2 _ _ X19 e19 N0
      by_cases hc : ff = (1 : Int32)
      · refine Dn.st (fun t q => XS.icmpNo X3.here hx rfl (hb hby at_47) rfl (teq hc).2 q) ?_
        show Dn p e below s _ _ _ T3 (mkF m 50 #[.val (.int x0), .val (.int x1), .val (.int x2), .val (.int x3), .val (.int x4), .val (.int (4 : Int32)), .val (.int ff), .val (.ref b1), .unset, .unset, .unset, .unset] [(.int (1 : Int32)), (.ref b1)])
        refine Dn.st (fun t q => XS.iconst X3.here hx rfl (hb hby at_50) q) ?_
        show Dn p e below s _ _ _ T3 (mkF m 51 #[.val (.int x0), .val (.int x1), .val (.int x2), .val (.int x3), .val (.int x4), .val (.int (4 : Int32)), .val (.int ff), .val (.ref b1), .unset, .unset, .unset, .unset] [(.int (0 : Int32)), (.int (1 : Int32)), (.ref b1)])
        refine Dn.st (fun t q => XS.goto X3.here hx rfl (pc0 := 51) (pc' := 60) rfl (hb hby at_51) (by decide) (by decide) q) ?_
        show Dn p e below s _ _ _ T3 (mkF m 60 #[.val (.int x0), .val (.int x1), .val (.int x2), .val (.int x3), .val (.int x4), .val (.int (4 : Int32)), .val (.int ff), .val (.ref b1), .unset, .unset, .unset, .unset] [(.int (0 : Int32)), (.int (1 : Int32)), (.ref b1)])
        rw [show (0 : Int32) = (own_pv ff x0 x1 (1 : Int32)) from (own_pv_y hc)]
        show Dn p e below s _ _ _ T3 (mkF m 60 #[.val (.int x0), .val (.int x1), .val (.int x2), .val (.int x3), .val (.int x4), .val (.int (4 : Int32)), .val (.int ff), .val (.ref b1), .unset, .unset, .unset, .unset] [(.int (own_pv ff x0 x1 (1 : Int32))), (.int (1 : Int32)), (.ref b1)])
        exact js1 _ _ X3 e3 N0
      · refine Dn.st (fun t q => XS.icmpYes X3.here hx rfl (pc0 := 47) (pc' := 54) rfl (hb hby at_47) rfl (feq hc).2 (by decide) (by decide) q) ?_
        show Dn p e below s _ _ _ T3 (mkF m 54 #[.val (.int x0), .val (.int x1), .val (.int x2), .val (.int x3), .val (.int x4), .val (.int (4 : Int32)), .val (.int ff), .val (.ref b1), .unset, .unset, .unset, .unset] [(.int (1 : Int32)), (.ref b1)])
        refine Dn.st (fun t q => XS.iloadN X3.here hx rfl (hb hby at_54) rfl  q) ?_
        show Dn p e below s _ _ _ T3 (mkF m 55 #[.val (.int x0), .val (.int x1), .val (.int x2), .val (.int x3), .val (.int x4), .val (.int (4 : Int32)), .val (.int ff), .val (.ref b1), .unset, .unset, .unset, .unset] [(.int x0), (.int (1 : Int32)), (.ref b1)])
        refine Dn.st (fun t q => XS.iloadN X3.here hx rfl (hb hby at_55) rfl  q) ?_
        show Dn p e below s _ _ _ T3 (mkF m 56 #[.val (.int x0), .val (.int x1), .val (.int x2), .val (.int x3), .val (.int x4), .val (.int (4 : Int32)), .val (.int ff), .val (.ref b1), .unset, .unset, .unset, .unset] [(.int x1), (.int x0), (.int (1 : Int32)), (.ref b1)])
        refine Dn.st (fun t q => XS.iconst X3.here hx rfl (hb hby at_56) q) ?_
        show Dn p e below s _ _ _ T3 (mkF m 57 #[.val (.int x0), .val (.int x1), .val (.int x2), .val (.int x3), .val (.int x4), .val (.int (4 : Int32)), .val (.int ff), .val (.ref b1), .unset, .unset, .unset, .unset] [(.int (1 : Int32)), (.int x1), (.int x0), (.int (1 : Int32)), (.ref b1)])
        obtain ⟨_, _, ⟨T20, Lq20, kq_20, nq_20⟩, -, X20, ⟨Lc20, hQ20, lq20, yq20, zq20⟩, st20⟩ := Jvm.LawKit.callS X3 hx (y := (⟨"keyfold/FseHasPinLaw", "draw", "(III)I"⟩ : MethodName)) hown (mvT hZ (hw _ (List.mem_of_getElem? (i := 2) rfl))) (mvT hZ (hw _ (List.mem_of_getElem? (i := 3) rfl))) (mvT hZ (hw _ (List.mem_of_getElem? (i := 4) rfl))) (mvT hZ (hw _ (List.mem_of_getElem? (i := 5) rfl))) (by decide) (backOf (W := 2) (rm1 l Z a0 hw [] x0 x1 (1 : Int32)  h3 n0 Z0 ) hZ (hw _ (List.mem_of_getElem? (i := 5) rfl)) (hw _ (List.mem_of_getElem? (i := 4) rfl)) (by decide) (by decide)) (g := (mkF m 57 #[.val (.int x0), .val (.int x1), .val (.int x2), .val (.int x3), .val (.int x4), .val (.int (4 : Int32)), .val (.int ff), .val (.ref b1), .unset, .unset, .unset, .unset] [(.int (1 : Int32)), (.int x1), (.int x0), (.int (1 : Int32)), (.ref b1)])) rfl (by rw [hml]; rfl) (argsL := [(.int x0), (.int x1), (.int (1 : Int32))]) (rest := [(.int (1 : Int32)), (.ref b1)]) (lenOf pd_3 rfl) rfl (by show 2 * 0 + _ ≤ _; exact Nat.le_of_eq rfl) (hb hby at_57) (fun _ _ => ⟨rfl, e3, (by decide : 1 + 0 ≤ _), (by decide : 4 + 0 ≤ _)⟩)
        dsimp only [Pt.U, Pt.locs, Pt.cells, Pt.slots] at X20 lq20 yq20 zq20 st20 hQ20
        subst lq20 yq20 zq20
        obtain ⟨rfl, N20q, hq20⟩ := hQ20
        have N0 := Fr.app N0 N20q
        have e20 : T20.heap = h3 := hq20
        refine Dn.st st20 ?_
        show Dn p e below s _ _ _ T20 (mkF m 60 #[.val (.int x0), .val (.int x1), .val (.int x2), .val (.int x3), .val (.int x4), .val (.int (4 : Int32)), .val (.int ff), .val (.ref b1), .unset, .unset, .unset, .unset] [(.int (own_draw x0 x1 (1 : Int32))), (.int (1 : Int32)), (.ref b1)])
        rw [show (own_draw x0 x1 (1 : Int32)) = (own_pv ff x0 x1 (1 : Int32)) from (own_pv_n hc)]
        show Dn p e below s _ _ _ T20 (mkF m 60 #[.val (.int x0), .val (.int x1), .val (.int x2), .val (.int x3), .val (.int x4), .val (.int (4 : Int32)), .val (.int ff), .val (.ref b1), .unset, .unset, .unset, .unset] [(.int (own_pv ff x0 x1 (1 : Int32))), (.int (1 : Int32)), (.ref b1)])
        exact js1 _ _ X20 e20 N0
    by_cases hc : ff = (0 : Int32)
    · refine Dn.st (fun t q => XS.ifNo X1.here hx rfl (hb hby at_27) rfl ((if0 _ _).trans (teq hc).2) q) ?_
      show Dn p e below s _ _ _ T1 (mkF m 30 #[.val (.int x0), .val (.int x1), .val (.int x2), .val (.int x3), .val (.int x4), .val (.int (4 : Int32)), .val (.int ff), .val (.ref b1), .unset, .unset, .unset, .unset] [(.int (0 : Int32)), (.ref b1)])
      refine Dn.st (fun t q => XS.iconst X1.here hx rfl (hb hby at_30) q) ?_
      show Dn p e below s _ _ _ T1 (mkF m 31 #[.val (.int x0), .val (.int x1), .val (.int x2), .val (.int x3), .val (.int x4), .val (.int (4 : Int32)), .val (.int ff), .val (.ref b1), .unset, .unset, .unset, .unset] [(.int (0 : Int32)), (.int (0 : Int32)), (.ref b1)])
      refine Dn.st (fun t q => XS.goto X1.here hx rfl (pc0 := 31) (pc' := 40) rfl (hb hby at_31) (by decide) (by decide) q) ?_
      show Dn p e below s _ _ _ T1 (mkF m 40 #[.val (.int x0), .val (.int x1), .val (.int x2), .val (.int x3), .val (.int x4), .val (.int (4 : Int32)), .val (.int ff), .val (.ref b1), .unset, .unset, .unset, .unset] [(.int (0 : Int32)), (.int (0 : Int32)), (.ref b1)])
      have jq0 := js0 _ _ X1 e1 N0
      rw [show (own_pv ff x0 x1 (0 : Int32)) = (0 : Int32) from (own_pv_y hc).symm] at jq0
      exact jq0
    · refine Dn.st (fun t q => XS.ifYes X1.here hx rfl (pc0 := 27) (pc' := 34) rfl (hb hby at_27) rfl ((if0 _ _).trans (feq hc).2) (by decide) (by decide) q) ?_
      show Dn p e below s _ _ _ T1 (mkF m 34 #[.val (.int x0), .val (.int x1), .val (.int x2), .val (.int x3), .val (.int x4), .val (.int (4 : Int32)), .val (.int ff), .val (.ref b1), .unset, .unset, .unset, .unset] [(.int (0 : Int32)), (.ref b1)])
      refine Dn.st (fun t q => XS.iloadN X1.here hx rfl (hb hby at_34) rfl  q) ?_
      show Dn p e below s _ _ _ T1 (mkF m 35 #[.val (.int x0), .val (.int x1), .val (.int x2), .val (.int x3), .val (.int x4), .val (.int (4 : Int32)), .val (.int ff), .val (.ref b1), .unset, .unset, .unset, .unset] [(.int x0), (.int (0 : Int32)), (.ref b1)])
      refine Dn.st (fun t q => XS.iloadN X1.here hx rfl (hb hby at_35) rfl  q) ?_
      show Dn p e below s _ _ _ T1 (mkF m 36 #[.val (.int x0), .val (.int x1), .val (.int x2), .val (.int x3), .val (.int x4), .val (.int (4 : Int32)), .val (.int ff), .val (.ref b1), .unset, .unset, .unset, .unset] [(.int x1), (.int x0), (.int (0 : Int32)), (.ref b1)])
      refine Dn.st (fun t q => XS.iconst X1.here hx rfl (hb hby at_36) q) ?_
      show Dn p e below s _ _ _ T1 (mkF m 37 #[.val (.int x0), .val (.int x1), .val (.int x2), .val (.int x3), .val (.int x4), .val (.int (4 : Int32)), .val (.int ff), .val (.ref b1), .unset, .unset, .unset, .unset] [(.int (0 : Int32)), (.int x1), (.int x0), (.int (0 : Int32)), (.ref b1)])
      obtain ⟨_, _, ⟨T21, Lq21, kq_21, nq_21⟩, -, X21, ⟨Lc21, hQ21, lq21, yq21, zq21⟩, st21⟩ := Jvm.LawKit.callS X1 hx (y := (⟨"keyfold/FseHasPinLaw", "draw", "(III)I"⟩ : MethodName)) hown (mvT hZ (hw _ (List.mem_of_getElem? (i := 2) rfl))) (mvT hZ (hw _ (List.mem_of_getElem? (i := 3) rfl))) (mvT hZ (hw _ (List.mem_of_getElem? (i := 4) rfl))) (mvT hZ (hw _ (List.mem_of_getElem? (i := 5) rfl))) (by decide) (backOf (W := 2) (rm1 l Z a0 hw [] x0 x1 (0 : Int32)  h1 n0 Z0 ) hZ (hw _ (List.mem_of_getElem? (i := 5) rfl)) (hw _ (List.mem_of_getElem? (i := 4) rfl)) (by decide) (by decide)) (g := (mkF m 37 #[.val (.int x0), .val (.int x1), .val (.int x2), .val (.int x3), .val (.int x4), .val (.int (4 : Int32)), .val (.int ff), .val (.ref b1), .unset, .unset, .unset, .unset] [(.int (0 : Int32)), (.int x1), (.int x0), (.int (0 : Int32)), (.ref b1)])) rfl (by rw [hml]; rfl) (argsL := [(.int x0), (.int x1), (.int (0 : Int32))]) (rest := [(.int (0 : Int32)), (.ref b1)]) (lenOf pd_3 rfl) rfl (by show 2 * 0 + _ ≤ _; exact Nat.le_of_eq rfl) (hb hby at_37) (fun _ _ => ⟨rfl, e1, (by decide : 1 + 0 ≤ _), (by decide : 4 + 0 ≤ _)⟩)
      dsimp only [Pt.U, Pt.locs, Pt.cells, Pt.slots] at X21 lq21 yq21 zq21 st21 hQ21
      subst lq21 yq21 zq21
      obtain ⟨rfl, N21q, hq21⟩ := hQ21
      have N0 := Fr.app N0 N21q
      have e21 : T21.heap = h1 := hq21
      refine Dn.st st21 ?_
      show Dn p e below s _ _ _ T21 (mkF m 40 #[.val (.int x0), .val (.int x1), .val (.int x2), .val (.int x3), .val (.int x4), .val (.int (4 : Int32)), .val (.int ff), .val (.ref b1), .unset, .unset, .unset, .unset] [(.int (own_draw x0 x1 (0 : Int32))), (.int (0 : Int32)), (.ref b1)])
      rw [show (own_draw x0 x1 (0 : Int32)) = (own_pv ff x0 x1 (0 : Int32)) from (own_pv_n hc)]
      show Dn p e below s _ _ _ T21 (mkF m 40 #[.val (.int x0), .val (.int x1), .val (.int x2), .val (.int x3), .val (.int x4), .val (.int (4 : Int32)), .val (.int ff), .val (.ref b1), .unset, .unset, .unset, .unset] [(.int (own_pv ff x0 x1 (0 : Int32))), (.int (0 : Int32)), (.ref b1)])
      exact js0 _ _ X21 e21 N0
  · rw [show ((4 : Int32) + (x3 &&& (1 : Int32))) = (5 : Int32) from (by rw [hsh]; rfl)]
    show Dn p e below s _ _ _ s₁ (mkF m 5 #[.val (.int x0), .val (.int x1), .val (.int x2), .val (.int x3), .val (.int x4), .unset, .unset, .unset, .unset, .unset, .unset, .unset] [(.int (5 : Int32))])
    refine Dn.st (fun t q => XS.istore X0.here hx rfl (hb hby at_5) rfl (l' := #[.val (.int x0), .val (.int x1), .val (.int x2), .val (.int x3), .val (.int x4), .val (.int (5 : Int32)), .unset, .unset, .unset, .unset, .unset, .unset]) rfl q) ?_
    show Dn p e below s _ _ _ s₁ (mkF m 7 #[.val (.int x0), .val (.int x1), .val (.int x2), .val (.int x3), .val (.int x4), .val (.int (5 : Int32)), .unset, .unset, .unset, .unset, .unset, .unset] [])
    refine Dn.st (fun t q => XS.iloadN X0.here hx rfl (hb hby at_7) rfl  q) ?_
    show Dn p e below s _ _ _ s₁ (mkF m 8 #[.val (.int x0), .val (.int x1), .val (.int x2), .val (.int x3), .val (.int x4), .val (.int (5 : Int32)), .unset, .unset, .unset, .unset, .unset, .unset] [(.int x2)])
    refine Dn.st (X0.ldcInt hx hown (mvT hZ (hw _ (List.mem_of_getElem? (i := 0) rfl))) (g := (mkF m 8 #[.val (.int x0), .val (.int x1), .val (.int x2), .val (.int x3), .val (.int x4), .val (.int (5 : Int32)), .unset, .unset, .unset, .unset, .unset, .unset] [(.int x2)])) rfl (hb hby at_8)) ?_
    show Dn p e below s _ _ _ s₁ (mkF m 10 #[.val (.int x0), .val (.int x1), .val (.int x2), .val (.int x3), .val (.int x4), .val (.int (5 : Int32)), .unset, .unset, .unset, .unset, .unset, .unset] [(.int (2147483647 : Int32)), (.int x2)])
    refine Dn.st (fun t q => XS.iand X0.here hx rfl (hb hby at_10) rfl q) ?_
    show Dn p e below s _ _ _ s₁ (mkF m 11 #[.val (.int x0), .val (.int x1), .val (.int x2), .val (.int x3), .val (.int x4), .val (.int (5 : Int32)), .unset, .unset, .unset, .unset, .unset, .unset] [(.int (x2 &&& (2147483647 : Int32)))])
    refine Dn.st (fun t q => XS.iload X0.here hx rfl (hb hby at_11) rfl  q) ?_
    show Dn p e below s _ _ _ s₁ (mkF m 13 #[.val (.int x0), .val (.int x1), .val (.int x2), .val (.int x3), .val (.int x4), .val (.int (5 : Int32)), .unset, .unset, .unset, .unset, .unset, .unset] [(.int (5 : Int32)), (.int (x2 &&& (2147483647 : Int32)))])
    refine Dn.st (fun t q => iremM X0 hx rfl (hb hby at_13) rfl (by decide) q) ?_
    show Dn p e below s _ _ _ s₁ (mkF m 14 #[.val (.int x0), .val (.int x1), .val (.int x2), .val (.int x3), .val (.int x4), .val (.int (5 : Int32)), .unset, .unset, .unset, .unset, .unset, .unset] [(.int ((x2 &&& (2147483647 : Int32)) % (5 : Int32)))])
    generalize hff : ((x2 &&& (2147483647 : Int32)) % (5 : Int32)) = ff
    show Dn p e below s _ _ _ s₁ (mkF m 14 #[.val (.int x0), .val (.int x1), .val (.int x2), .val (.int x3), .val (.int x4), .val (.int (5 : Int32)), .unset, .unset, .unset, .unset, .unset, .unset] [(.int ff)])
    obtain ⟨f1, hf1, hfn⟩ := own_rem x2 5 5 rfl (by decide)
    rw [hff] at hf1
    refine Dn.st (fun t q => XS.istore X0.here hx rfl (hb hby at_14) rfl (l' := #[.val (.int x0), .val (.int x1), .val (.int x2), .val (.int x3), .val (.int x4), .val (.int (5 : Int32)), .val (.int ff), .unset, .unset, .unset, .unset, .unset]) rfl q) ?_
    show Dn p e below s _ _ _ s₁ (mkF m 16 #[.val (.int x0), .val (.int x1), .val (.int x2), .val (.int x3), .val (.int x4), .val (.int (5 : Int32)), .val (.int ff), .unset, .unset, .unset, .unset, .unset] [])
    refine Dn.st (fun t q => XS.iload X0.here hx rfl (hb hby at_16) rfl  q) ?_
    show Dn p e below s _ _ _ s₁ (mkF m 18 #[.val (.int x0), .val (.int x1), .val (.int x2), .val (.int x3), .val (.int x4), .val (.int (5 : Int32)), .val (.int ff), .unset, .unset, .unset, .unset, .unset] [(.int (5 : Int32))])
    obtain ⟨T22, h22, k22, X22, e22, E22, A22, B22, st22⟩ := newPE X0 hx hZ (hw _ (List.mem_of_getElem? (i := 1) rfl)) e0 (g := (mkF m 18 #[.val (.int x0), .val (.int x1), .val (.int x2), .val (.int x3), .val (.int x4), .val (.int (5 : Int32)), .val (.int ff), .unset, .unset, .unset, .unset, .unset] [(.int (5 : Int32))])) rfl (hb hby at_18) rfl (by decide) (cap := 5) (by decide) (by decide) (by decide) (by decide) (ad := "[I") (by decide)
    obtain ⟨b1, g22⟩ : ∃ z, z = h0.size := ⟨_, rfl⟩
    rw [← g22] at A22 st22
    rw [← g22] at B22
    have g_b1 : n0 ≤ b1 := Nat.le_trans Z0 (Nat.le_of_eq g22.symm)
    have sz_b1 : h0.size ≤ b1 := Nat.le_trans K0.1 (Nat.le_of_eq g22.symm)
    have Z0 := Nat.le_trans Z0 E22.1
    have K0 := K0.ext E22
    have E_b1 := B22
    have A_b1 : Ary Z h22 b1 .int 5 (fun _ => (.int (0 : Int32))) := Ary.new A22 (by decide)
    refine Dn.st st22 ?_
    show Dn p e below s _ _ _ T22 (mkF m 20 #[.val (.int x0), .val (.int x1), .val (.int x2), .val (.int x3), .val (.int x4), .val (.int (5 : Int32)), .val (.int ff), .unset, .unset, .unset, .unset, .unset] [(.ref b1)])
    refine Dn.st (fun t q => XS.astore X22.here hx rfl (hb hby at_20) rfl rfl (l' := #[.val (.int x0), .val (.int x1), .val (.int x2), .val (.int x3), .val (.int x4), .val (.int (5 : Int32)), .val (.int ff), .val (.ref b1), .unset, .unset, .unset, .unset]) rfl q) ?_
    show Dn p e below s _ _ _ T22 (mkF m 22 #[.val (.int x0), .val (.int x1), .val (.int x2), .val (.int x3), .val (.int x4), .val (.int (5 : Int32)), .val (.int ff), .val (.ref b1), .unset, .unset, .unset, .unset] [])
    refine Dn.st (fun t q => XS.aload X22.here hx rfl (hb hby at_22) rfl rfl  q) ?_
    show Dn p e below s _ _ _ T22 (mkF m 24 #[.val (.int x0), .val (.int x1), .val (.int x2), .val (.int x3), .val (.int x4), .val (.int (5 : Int32)), .val (.int ff), .val (.ref b1), .unset, .unset, .unset, .unset] [(.ref b1)])
    refine Dn.st (fun t q => XS.iconst X22.here hx rfl (hb hby at_24) q) ?_
    show Dn p e below s _ _ _ T22 (mkF m 25 #[.val (.int x0), .val (.int x1), .val (.int x2), .val (.int x3), .val (.int x4), .val (.int (5 : Int32)), .val (.int ff), .val (.ref b1), .unset, .unset, .unset, .unset] [(.int (0 : Int32)), (.ref b1)])
    refine Dn.st (fun t q => XS.iload X22.here hx rfl (hb hby at_25) rfl  q) ?_
    show Dn p e below s _ _ _ T22 (mkF m 27 #[.val (.int x0), .val (.int x1), .val (.int x2), .val (.int x3), .val (.int x4), .val (.int (5 : Int32)), .val (.int ff), .val (.ref b1), .unset, .unset, .unset, .unset] [(.int ff), (.int (0 : Int32)), (.ref b1)])
    have js0 : ∀ (TJ23 : State) (lcJ23 : List Loc) (XJ23 : Stand p l e room_1 s m #[(.int x0), (.int x1), (.int x2), (.int x3), (.int x4)] below meth c TJ23 lcJ23 1 5) (eJ23 : TJ23.heap = h22) (N0 : Fr n0 lcJ23), Dn p e below s (Q0 Z x0 x1 x2 x3 x4 h0 n0) (9) (128) TJ23 (mkF m 40 #[.val (.int x0), .val (.int x1), .val (.int x2), .val (.int x3), .val (.int x4), .val (.int (5 : Int32)), .val (.int ff), .val (.ref b1), .unset, .unset, .unset, .unset] [(.int (own_pv ff x0 x1 (0 : Int32))), (.int (0 : Int32)), (.ref b1)]) := by
      intro TJ23 lcJ23 XJ23 eJ23 N0
      obtain ⟨T24, h24, X24, e24, W24, B24, st24⟩ := aStoI XJ23 hx hZ eJ23 A_b1 (i := 0) rfl (by decide) (g := (mkF m 40 #[.val (.int x0), .val (.int x1), .val (.int x2), .val (.int x3), .val (.int x4), .val (.int (5 : Int32)), .val (.int ff), .val (.ref b1), .unset, .unset, .unset, .unset] [(.int (own_pv ff x0 x1 (0 : Int32))), (.int (0 : Int32)), (.ref b1)])) rfl rfl (hb hby at_40)
      have N0 := Fr.snoc X24 N0 g_b1
      have Z0 := Nat.le_trans Z0 (Keep.of_wr W24).1
      have K0 := K0.wr W24 (Or.inr sz_b1)
      have E_b1 := E_b1.wr W24
      have A_b1 : Ary Z h24 b1 .int 5 (fun x => .int (if x = 0 then (own_pv ff x0 x1 (0 : Int32)) else (0 : Int32))) := B24.congr (fun j _ => own_ite)
      refine Dn.st st24 ?_
      show Dn p e below s _ _ _ T24 (mkF m 41 #[.val (.int x0), .val (.int x1), .val (.int x2), .val (.int x3), .val (.int x4), .val (.int (5 : Int32)), .val (.int ff), .val (.ref b1), .unset, .unset, .unset, .unset] [])
      refine Dn.st (fun t q => XS.aload X24.here hx rfl (hb hby at_41) rfl rfl  q) ?_
      show Dn p e below s _ _ _ T24 (mkF m 43 #[.val (.int x0), .val (.int x1), .val (.int x2), .val (.int x3), .val (.int x4), .val (.int (5 : Int32)), .val (.int ff), .val (.ref b1), .unset, .unset, .unset, .unset] [(.ref b1)])
      refine Dn.st (fun t q => XS.iconst X24.here hx rfl (hb hby at_43) q) ?_
      show Dn p e below s _ _ _ T24 (mkF m 44 #[.val (.int x0), .val (.int x1), .val (.int x2), .val (.int x3), .val (.int x4), .val (.int (5 : Int32)), .val (.int ff), .val (.ref b1), .unset, .unset, .unset, .unset] [(.int (1 : Int32)), (.ref b1)])
      refine Dn.st (fun t q => XS.iload X24.here hx rfl (hb hby at_44) rfl  q) ?_
      show Dn p e below s _ _ _ T24 (mkF m 46 #[.val (.int x0), .val (.int x1), .val (.int x2), .val (.int x3), .val (.int x4), .val (.int (5 : Int32)), .val (.int ff), .val (.ref b1), .unset, .unset, .unset, .unset] [(.int ff), (.int (1 : Int32)), (.ref b1)])
      refine Dn.st (fun t q => XS.iconst X24.here hx rfl (hb hby at_46) q) ?_
      show Dn p e below s _ _ _ T24 (mkF m 47 #[.val (.int x0), .val (.int x1), .val (.int x2), .val (.int x3), .val (.int x4), .val (.int (5 : Int32)), .val (.int ff), .val (.ref b1), .unset, .unset, .unset, .unset] [(.int (1 : Int32)), (.int ff), (.int (1 : Int32)), (.ref b1)])
      have js1 : ∀ (TJ25 : State) (lcJ25 : List Loc) (XJ25 : Stand p l e room_1 s m #[(.int x0), (.int x1), (.int x2), (.int x3), (.int x4)] below meth c TJ25 lcJ25 1 5) (eJ25 : TJ25.heap = h24) (N0 : Fr n0 lcJ25), Dn p e below s (Q0 Z x0 x1 x2 x3 x4 h0 n0) (9) (128) TJ25 (mkF m 60 #[.val (.int x0), .val (.int x1), .val (.int x2), .val (.int x3), .val (.int x4), .val (.int (5 : Int32)), .val (.int ff), .val (.ref b1), .unset, .unset, .unset, .unset] [(.int (own_pv ff x0 x1 (1 : Int32))), (.int (1 : Int32)), (.ref b1)]) := by
        intro TJ25 lcJ25 XJ25 eJ25 N0
        obtain ⟨T26, h26, X26, e26, W26, B26, st26⟩ := aStoI XJ25 hx hZ eJ25 A_b1 (i := 1) rfl (by decide) (g := (mkF m 60 #[.val (.int x0), .val (.int x1), .val (.int x2), .val (.int x3), .val (.int x4), .val (.int (5 : Int32)), .val (.int ff), .val (.ref b1), .unset, .unset, .unset, .unset] [(.int (own_pv ff x0 x1 (1 : Int32))), (.int (1 : Int32)), (.ref b1)])) rfl rfl (hb hby at_60)
        have N0 := Fr.snoc X26 N0 g_b1
        have Z0 := Nat.le_trans Z0 (Keep.of_wr W26).1
        have K0 := K0.wr W26 (Or.inr sz_b1)
        have E_b1 := E_b1.wr W26
        have A_b1 : Ary Z h26 b1 .int 5 (fun x => .int (if x = 1 then (own_pv ff x0 x1 (1 : Int32)) else (if x = 0 then (own_pv ff x0 x1 (0 : Int32)) else (0 : Int32)))) := B26.congr (fun j _ => own_ite)
        refine Dn.st st26 ?_
        show Dn p e below s _ _ _ T26 (mkF m 61 #[.val (.int x0), .val (.int x1), .val (.int x2), .val (.int x3), .val (.int x4), .val (.int (5 : Int32)), .val (.int ff), .val (.ref b1), .unset, .unset, .unset, .unset] [])
        refine Dn.st (fun t q => XS.aload X26.here hx rfl (hb hby at_61) rfl rfl  q) ?_
        show Dn p e below s _ _ _ T26 (mkF m 63 #[.val (.int x0), .val (.int x1), .val (.int x2), .val (.int x3), .val (.int x4), .val (.int (5 : Int32)), .val (.int ff), .val (.ref b1), .unset, .unset, .unset, .unset] [(.ref b1)])
        refine Dn.st (fun t q => XS.iconst X26.here hx rfl (hb hby at_63) q) ?_
        show Dn p e below s _ _ _ T26 (mkF m 64 #[.val (.int x0), .val (.int x1), .val (.int x2), .val (.int x3), .val (.int x4), .val (.int (5 : Int32)), .val (.int ff), .val (.ref b1), .unset, .unset, .unset, .unset] [(.int (2 : Int32)), (.ref b1)])
        refine Dn.st (fun t q => XS.iload X26.here hx rfl (hb hby at_64) rfl  q) ?_
        show Dn p e below s _ _ _ T26 (mkF m 66 #[.val (.int x0), .val (.int x1), .val (.int x2), .val (.int x3), .val (.int x4), .val (.int (5 : Int32)), .val (.int ff), .val (.ref b1), .unset, .unset, .unset, .unset] [(.int ff), (.int (2 : Int32)), (.ref b1)])
        refine Dn.st (fun t q => XS.iconst X26.here hx rfl (hb hby at_66) q) ?_
        show Dn p e below s _ _ _ T26 (mkF m 67 #[.val (.int x0), .val (.int x1), .val (.int x2), .val (.int x3), .val (.int x4), .val (.int (5 : Int32)), .val (.int ff), .val (.ref b1), .unset, .unset, .unset, .unset] [(.int (2 : Int32)), (.int ff), (.int (2 : Int32)), (.ref b1)])
        have js2 : ∀ (TJ27 : State) (lcJ27 : List Loc) (XJ27 : Stand p l e room_1 s m #[(.int x0), (.int x1), (.int x2), (.int x3), (.int x4)] below meth c TJ27 lcJ27 1 5) (eJ27 : TJ27.heap = h26) (N0 : Fr n0 lcJ27), Dn p e below s (Q0 Z x0 x1 x2 x3 x4 h0 n0) (9) (128) TJ27 (mkF m 80 #[.val (.int x0), .val (.int x1), .val (.int x2), .val (.int x3), .val (.int x4), .val (.int (5 : Int32)), .val (.int ff), .val (.ref b1), .unset, .unset, .unset, .unset] [(.int (own_pv ff x0 x1 (2 : Int32))), (.int (2 : Int32)), (.ref b1)]) := by
          intro TJ27 lcJ27 XJ27 eJ27 N0
          obtain ⟨T28, h28, X28, e28, W28, B28, st28⟩ := aStoI XJ27 hx hZ eJ27 A_b1 (i := 2) rfl (by decide) (g := (mkF m 80 #[.val (.int x0), .val (.int x1), .val (.int x2), .val (.int x3), .val (.int x4), .val (.int (5 : Int32)), .val (.int ff), .val (.ref b1), .unset, .unset, .unset, .unset] [(.int (own_pv ff x0 x1 (2 : Int32))), (.int (2 : Int32)), (.ref b1)])) rfl rfl (hb hby at_80)
          have N0 := Fr.snoc X28 N0 g_b1
          have Z0 := Nat.le_trans Z0 (Keep.of_wr W28).1
          have K0 := K0.wr W28 (Or.inr sz_b1)
          have E_b1 := E_b1.wr W28
          have A_b1 : Ary Z h28 b1 .int 5 (fun x => .int (if x = 2 then (own_pv ff x0 x1 (2 : Int32)) else (if x = 1 then (own_pv ff x0 x1 (1 : Int32)) else (if x = 0 then (own_pv ff x0 x1 (0 : Int32)) else (0 : Int32))))) := B28.congr (fun j _ => own_ite)
          refine Dn.st st28 ?_
          show Dn p e below s _ _ _ T28 (mkF m 81 #[.val (.int x0), .val (.int x1), .val (.int x2), .val (.int x3), .val (.int x4), .val (.int (5 : Int32)), .val (.int ff), .val (.ref b1), .unset, .unset, .unset, .unset] [])
          refine Dn.st (fun t q => XS.aload X28.here hx rfl (hb hby at_81) rfl rfl  q) ?_
          show Dn p e below s _ _ _ T28 (mkF m 83 #[.val (.int x0), .val (.int x1), .val (.int x2), .val (.int x3), .val (.int x4), .val (.int (5 : Int32)), .val (.int ff), .val (.ref b1), .unset, .unset, .unset, .unset] [(.ref b1)])
          refine Dn.st (fun t q => XS.iconst X28.here hx rfl (hb hby at_83) q) ?_
          show Dn p e below s _ _ _ T28 (mkF m 84 #[.val (.int x0), .val (.int x1), .val (.int x2), .val (.int x3), .val (.int x4), .val (.int (5 : Int32)), .val (.int ff), .val (.ref b1), .unset, .unset, .unset, .unset] [(.int (3 : Int32)), (.ref b1)])
          refine Dn.st (fun t q => XS.iload X28.here hx rfl (hb hby at_84) rfl  q) ?_
          show Dn p e below s _ _ _ T28 (mkF m 86 #[.val (.int x0), .val (.int x1), .val (.int x2), .val (.int x3), .val (.int x4), .val (.int (5 : Int32)), .val (.int ff), .val (.ref b1), .unset, .unset, .unset, .unset] [(.int ff), (.int (3 : Int32)), (.ref b1)])
          refine Dn.st (fun t q => XS.iconst X28.here hx rfl (hb hby at_86) q) ?_
          show Dn p e below s _ _ _ T28 (mkF m 87 #[.val (.int x0), .val (.int x1), .val (.int x2), .val (.int x3), .val (.int x4), .val (.int (5 : Int32)), .val (.int ff), .val (.ref b1), .unset, .unset, .unset, .unset] [(.int (3 : Int32)), (.int ff), (.int (3 : Int32)), (.ref b1)])
          have js3 : ∀ (TJ29 : State) (lcJ29 : List Loc) (XJ29 : Stand p l e room_1 s m #[(.int x0), (.int x1), (.int x2), (.int x3), (.int x4)] below meth c TJ29 lcJ29 1 5) (eJ29 : TJ29.heap = h28) (N0 : Fr n0 lcJ29), Dn p e below s (Q0 Z x0 x1 x2 x3 x4 h0 n0) (9) (128) TJ29 (mkF m 100 #[.val (.int x0), .val (.int x1), .val (.int x2), .val (.int x3), .val (.int x4), .val (.int (5 : Int32)), .val (.int ff), .val (.ref b1), .unset, .unset, .unset, .unset] [(.int (own_pv ff x0 x1 (3 : Int32))), (.int (3 : Int32)), (.ref b1)]) := by
            intro TJ29 lcJ29 XJ29 eJ29 N0
            obtain ⟨T30, h30, X30, e30, W30, B30, st30⟩ := aStoI XJ29 hx hZ eJ29 A_b1 (i := 3) rfl (by decide) (g := (mkF m 100 #[.val (.int x0), .val (.int x1), .val (.int x2), .val (.int x3), .val (.int x4), .val (.int (5 : Int32)), .val (.int ff), .val (.ref b1), .unset, .unset, .unset, .unset] [(.int (own_pv ff x0 x1 (3 : Int32))), (.int (3 : Int32)), (.ref b1)])) rfl rfl (hb hby at_100)
            have N0 := Fr.snoc X30 N0 g_b1
            have Z0 := Nat.le_trans Z0 (Keep.of_wr W30).1
            have K0 := K0.wr W30 (Or.inr sz_b1)
            have E_b1 := E_b1.wr W30
            have A_b1 : Ary Z h30 b1 .int 5 (fun x => .int (if x = 3 then (own_pv ff x0 x1 (3 : Int32)) else (if x = 2 then (own_pv ff x0 x1 (2 : Int32)) else (if x = 1 then (own_pv ff x0 x1 (1 : Int32)) else (if x = 0 then (own_pv ff x0 x1 (0 : Int32)) else (0 : Int32)))))) := B30.congr (fun j _ => own_ite)
            refine Dn.st st30 ?_
            show Dn p e below s _ _ _ T30 (mkF m 101 #[.val (.int x0), .val (.int x1), .val (.int x2), .val (.int x3), .val (.int x4), .val (.int (5 : Int32)), .val (.int ff), .val (.ref b1), .unset, .unset, .unset, .unset] [])
            refine Dn.st (fun t q => XS.iload X30.here hx rfl (hb hby at_101) rfl  q) ?_
            show Dn p e below s _ _ _ T30 (mkF m 103 #[.val (.int x0), .val (.int x1), .val (.int x2), .val (.int x3), .val (.int x4), .val (.int (5 : Int32)), .val (.int ff), .val (.ref b1), .unset, .unset, .unset, .unset] [(.int (5 : Int32))])
            refine Dn.st (fun t q => XS.iconst X30.here hx rfl (hb hby at_103) q) ?_
            show Dn p e below s _ _ _ T30 (mkF m 104 #[.val (.int x0), .val (.int x1), .val (.int x2), .val (.int x3), .val (.int x4), .val (.int (5 : Int32)), .val (.int ff), .val (.ref b1), .unset, .unset, .unset, .unset] [(.int (5 : Int32)), (.int (5 : Int32))])
            refine Dn.st (fun t q => XS.icmpNo X30.here hx rfl (hb hby at_104) rfl (teq rfl).2 q) ?_
            show Dn p e below s _ _ _ T30 (mkF m 107 #[.val (.int x0), .val (.int x1), .val (.int x2), .val (.int x3), .val (.int x4), .val (.int (5 : Int32)), .val (.int ff), .val (.ref b1), .unset, .unset, .unset, .unset] [])
            refine Dn.st (fun t q => XS.aload X30.here hx rfl (hb hby at_107) rfl rfl  q) ?_
            show Dn p e below s _ _ _ T30 (mkF m 109 #[.val (.int x0), .val (.int x1), .val (.int x2), .val (.int x3), .val (.int x4), .val (.int (5 : Int32)), .val (.int ff), .val (.ref b1), .unset, .unset, .unset, .unset] [(.ref b1)])
            refine Dn.st (fun t q => XS.iconst X30.here hx rfl (hb hby at_109) q) ?_
            show Dn p e below s _ _ _ T30 (mkF m 110 #[.val (.int x0), .val (.int x1), .val (.int x2), .val (.int x3), .val (.int x4), .val (.int (5 : Int32)), .val (.int ff), .val (.ref b1), .unset, .unset, .unset, .unset] [(.int (4 : Int32)), (.ref b1)])
            refine Dn.st (fun t q => XS.iload X30.here hx rfl (hb hby at_110) rfl  q) ?_
            show Dn p e below s _ _ _ T30 (mkF m 112 #[.val (.int x0), .val (.int x1), .val (.int x2), .val (.int x3), .val (.int x4), .val (.int (5 : Int32)), .val (.int ff), .val (.ref b1), .unset, .unset, .unset, .unset] [(.int ff), (.int (4 : Int32)), (.ref b1)])
            refine Dn.st (fun t q => XS.iconst X30.here hx rfl (hb hby at_112) q) ?_
            show Dn p e below s _ _ _ T30 (mkF m 113 #[.val (.int x0), .val (.int x1), .val (.int x2), .val (.int x3), .val (.int x4), .val (.int (5 : Int32)), .val (.int ff), .val (.ref b1), .unset, .unset, .unset, .unset] [(.int (4 : Int32)), (.int ff), (.int (4 : Int32)), (.ref b1)])
            have js4 : ∀ (TJ31 : State) (lcJ31 : List Loc) (XJ31 : Stand p l e room_1 s m #[(.int x0), (.int x1), (.int x2), (.int x3), (.int x4)] below meth c TJ31 lcJ31 1 5) (eJ31 : TJ31.heap = h30) (N0 : Fr n0 lcJ31), Dn p e below s (Q0 Z x0 x1 x2 x3 x4 h0 n0) (9) (128) TJ31 (mkF m 126 #[.val (.int x0), .val (.int x1), .val (.int x2), .val (.int x3), .val (.int x4), .val (.int (5 : Int32)), .val (.int ff), .val (.ref b1), .unset, .unset, .unset, .unset] [(.int (own_pv ff x0 x1 (4 : Int32))), (.int (4 : Int32)), (.ref b1)]) := by
              intro TJ31 lcJ31 XJ31 eJ31 N0
              obtain ⟨T32, h32, X32, e32, W32, B32, st32⟩ := aStoI XJ31 hx hZ eJ31 A_b1 (i := 4) rfl (by decide) (g := (mkF m 126 #[.val (.int x0), .val (.int x1), .val (.int x2), .val (.int x3), .val (.int x4), .val (.int (5 : Int32)), .val (.int ff), .val (.ref b1), .unset, .unset, .unset, .unset] [(.int (own_pv ff x0 x1 (4 : Int32))), (.int (4 : Int32)), (.ref b1)])) rfl rfl (hb hby at_126)
              have N0 := Fr.snoc X32 N0 g_b1
              have Z0 := Nat.le_trans Z0 (Keep.of_wr W32).1
              have K0 := K0.wr W32 (Or.inr sz_b1)
              have E_b1 := E_b1.wr W32
              have A_b1 : Ary Z h32 b1 .int 5 (fun x => .int (if x = 4 then (own_pv ff x0 x1 (4 : Int32)) else (if x = 3 then (own_pv ff x0 x1 (3 : Int32)) else (if x = 2 then (own_pv ff x0 x1 (2 : Int32)) else (if x = 1 then (own_pv ff x0 x1 (1 : Int32)) else (if x = 0 then (own_pv ff x0 x1 (0 : Int32)) else (0 : Int32))))))) := B32.congr (fun j _ => own_ite)
              refine Dn.st st32 ?_
              show Dn p e below s _ _ _ T32 (mkF m 127 #[.val (.int x0), .val (.int x1), .val (.int x2), .val (.int x3), .val (.int x4), .val (.int (5 : Int32)), .val (.int ff), .val (.ref b1), .unset, .unset, .unset, .unset] [])
              have A_b1 : Ary Z h32 b1 .int 5 (fun x => .int ((own_P5 ff x0 x1) x)) := A_b1
              refine Dn.st (fun t q => XS.aload X32.here hx rfl (hb hby at_127) rfl rfl  q) ?_
              show Dn p e below s _ _ _ T32 (mkF m 129 #[.val (.int x0), .val (.int x1), .val (.int x2), .val (.int x3), .val (.int x4), .val (.int (5 : Int32)), .val (.int ff), .val (.ref b1), .unset, .unset, .unset, .unset] [(.ref b1)])
              refine Dn.st (fun t q => XS.iconst X32.here hx rfl (hb hby at_129) q) ?_
              show Dn p e below s _ _ _ T32 (mkF m 130 #[.val (.int x0), .val (.int x1), .val (.int x2), .val (.int x3), .val (.int x4), .val (.int (5 : Int32)), .val (.int ff), .val (.ref b1), .unset, .unset, .unset, .unset] [(.int (0 : Int32)), (.ref b1)])
              refine Dn.st (aLoadI (w := (fun x => ((own_P5 ff x0 x1) x))) X32 hx hZ e32 A_b1 (i := 0) rfl (by decide) (g := (mkF m 130 #[.val (.int x0), .val (.int x1), .val (.int x2), .val (.int x3), .val (.int x4), .val (.int (5 : Int32)), .val (.int ff), .val (.ref b1), .unset, .unset, .unset, .unset] [(.int (0 : Int32)), (.ref b1)])) rfl rfl (hb hby at_130)) ?_
              show Dn p e below s _ _ _ T32 (mkF m 131 #[.val (.int x0), .val (.int x1), .val (.int x2), .val (.int x3), .val (.int x4), .val (.int (5 : Int32)), .val (.int ff), .val (.ref b1), .unset, .unset, .unset, .unset] [(.int (own_pv ff x0 x1 (0 : Int32)))])
              obtain ⟨_, _, ⟨T33, Lq33, kq_33, nq_33⟩, -, X33, ⟨Lc33, hQ33, lq33, yq33, zq33⟩, st33⟩ := Jvm.LawKit.callS X32 hx (y := (⟨"keyfold/FseHasPinLaw", "weight", "(I)I"⟩ : MethodName)) hown (mvT hZ (hw _ (List.mem_of_getElem? (i := 6) rfl))) (mvT hZ (hw _ (List.mem_of_getElem? (i := 7) rfl))) (mvT hZ (hw _ (List.mem_of_getElem? (i := 4) rfl))) (mvT hZ (hw _ (List.mem_of_getElem? (i := 8) rfl))) (by decide) (backOf (W := 0) (rm2 l Z a0 hw [] (own_pv ff x0 x1 (0 : Int32))  h32 n0 Z0 ) hZ (hw _ (List.mem_of_getElem? (i := 8) rfl)) (hw _ (List.mem_of_getElem? (i := 4) rfl)) (by decide) (by decide)) (g := (mkF m 131 #[.val (.int x0), .val (.int x1), .val (.int x2), .val (.int x3), .val (.int x4), .val (.int (5 : Int32)), .val (.int ff), .val (.ref b1), .unset, .unset, .unset, .unset] [(.int (own_pv ff x0 x1 (0 : Int32)))])) rfl (by rw [hml]; rfl) (argsL := [(.int (own_pv ff x0 x1 (0 : Int32)))]) (rest := []) (lenOf pd_0 rfl) rfl (by show 2 * 0 + _ ≤ _; exact Nat.le_of_eq rfl) (hb hby at_131) (fun _ _ => ⟨rfl, e32, (by decide : 1 + 0 ≤ _), (by decide : 5 + 0 ≤ _)⟩)
              dsimp only [Pt.U, Pt.locs, Pt.cells, Pt.slots] at X33 lq33 yq33 zq33 st33 hQ33
              subst lq33 yq33 zq33
              obtain ⟨rfl, N33q, hq33⟩ := hQ33
              have N0 := Fr.app N0 N33q
              have e33 : T33.heap = h32 := hq33
              refine Dn.st st33 ?_
              show Dn p e below s _ _ _ T33 (mkF m 134 #[.val (.int x0), .val (.int x1), .val (.int x2), .val (.int x3), .val (.int x4), .val (.int (5 : Int32)), .val (.int ff), .val (.ref b1), .unset, .unset, .unset, .unset] [(.int (own_wt (own_pv ff x0 x1 (0 : Int32))))])
              refine Dn.st (fun t q => XS.aload X33.here hx rfl (hb hby at_134) rfl rfl  q) ?_
              show Dn p e below s _ _ _ T33 (mkF m 136 #[.val (.int x0), .val (.int x1), .val (.int x2), .val (.int x3), .val (.int x4), .val (.int (5 : Int32)), .val (.int ff), .val (.ref b1), .unset, .unset, .unset, .unset] [(.ref b1), (.int (own_wt (own_pv ff x0 x1 (0 : Int32))))])
              refine Dn.st (fun t q => XS.iconst X33.here hx rfl (hb hby at_136) q) ?_
              show Dn p e below s _ _ _ T33 (mkF m 137 #[.val (.int x0), .val (.int x1), .val (.int x2), .val (.int x3), .val (.int x4), .val (.int (5 : Int32)), .val (.int ff), .val (.ref b1), .unset, .unset, .unset, .unset] [(.int (1 : Int32)), (.ref b1), (.int (own_wt (own_pv ff x0 x1 (0 : Int32))))])
              refine Dn.st (aLoadI (w := (fun x => ((own_P5 ff x0 x1) x))) X33 hx hZ e33 A_b1 (i := 1) rfl (by decide) (g := (mkF m 137 #[.val (.int x0), .val (.int x1), .val (.int x2), .val (.int x3), .val (.int x4), .val (.int (5 : Int32)), .val (.int ff), .val (.ref b1), .unset, .unset, .unset, .unset] [(.int (1 : Int32)), (.ref b1), (.int (own_wt (own_pv ff x0 x1 (0 : Int32))))])) rfl rfl (hb hby at_137)) ?_
              show Dn p e below s _ _ _ T33 (mkF m 138 #[.val (.int x0), .val (.int x1), .val (.int x2), .val (.int x3), .val (.int x4), .val (.int (5 : Int32)), .val (.int ff), .val (.ref b1), .unset, .unset, .unset, .unset] [(.int (own_pv ff x0 x1 (1 : Int32))), (.int (own_wt (own_pv ff x0 x1 (0 : Int32))))])
              obtain ⟨_, _, ⟨T34, Lq34, kq_34, nq_34⟩, -, X34, ⟨Lc34, hQ34, lq34, yq34, zq34⟩, st34⟩ := Jvm.LawKit.callS X33 hx (y := (⟨"keyfold/FseHasPinLaw", "weight", "(I)I"⟩ : MethodName)) hown (mvT hZ (hw _ (List.mem_of_getElem? (i := 6) rfl))) (mvT hZ (hw _ (List.mem_of_getElem? (i := 7) rfl))) (mvT hZ (hw _ (List.mem_of_getElem? (i := 4) rfl))) (mvT hZ (hw _ (List.mem_of_getElem? (i := 8) rfl))) (by decide) (backOf (W := 1) (rm2 l Z a0 hw [] (own_pv ff x0 x1 (1 : Int32))  h32 n0 Z0 ) hZ (hw _ (List.mem_of_getElem? (i := 8) rfl)) (hw _ (List.mem_of_getElem? (i := 4) rfl)) (by decide) (by decide)) (g := (mkF m 138 #[.val (.int x0), .val (.int x1), .val (.int x2), .val (.int x3), .val (.int x4), .val (.int (5 : Int32)), .val (.int ff), .val (.ref b1), .unset, .unset, .unset, .unset] [(.int (own_pv ff x0 x1 (1 : Int32))), (.int (own_wt (own_pv ff x0 x1 (0 : Int32))))])) rfl (by rw [hml]; rfl) (argsL := [(.int (own_pv ff x0 x1 (1 : Int32)))]) (rest := [(.int (own_wt (own_pv ff x0 x1 (0 : Int32))))]) (lenOf pd_0 rfl) rfl (by show 2 * 0 + _ ≤ _; exact Nat.le_of_eq rfl) (hb hby at_138) (fun _ _ => ⟨rfl, e33, (by decide : 1 + 0 ≤ _), (by decide : 5 + 0 ≤ _)⟩)
              dsimp only [Pt.U, Pt.locs, Pt.cells, Pt.slots] at X34 lq34 yq34 zq34 st34 hQ34
              subst lq34 yq34 zq34
              obtain ⟨rfl, N34q, hq34⟩ := hQ34
              have N0 := Fr.app N0 N34q
              have e34 : T34.heap = h32 := hq34
              refine Dn.st st34 ?_
              show Dn p e below s _ _ _ T34 (mkF m 141 #[.val (.int x0), .val (.int x1), .val (.int x2), .val (.int x3), .val (.int x4), .val (.int (5 : Int32)), .val (.int ff), .val (.ref b1), .unset, .unset, .unset, .unset] [(.int (own_wt (own_pv ff x0 x1 (1 : Int32)))), (.int (own_wt (own_pv ff x0 x1 (0 : Int32))))])
              refine Dn.st (fun t q => XS.iadd X34.here hx rfl (hb hby at_141) rfl q) ?_
              show Dn p e below s _ _ _ T34 (mkF m 142 #[.val (.int x0), .val (.int x1), .val (.int x2), .val (.int x3), .val (.int x4), .val (.int (5 : Int32)), .val (.int ff), .val (.ref b1), .unset, .unset, .unset, .unset] [(.int ((own_wt (own_pv ff x0 x1 (0 : Int32))) + (own_wt (own_pv ff x0 x1 (1 : Int32)))))])
              refine Dn.st (fun t q => XS.aload X34.here hx rfl (hb hby at_142) rfl rfl  q) ?_
              show Dn p e below s _ _ _ T34 (mkF m 144 #[.val (.int x0), .val (.int x1), .val (.int x2), .val (.int x3), .val (.int x4), .val (.int (5 : Int32)), .val (.int ff), .val (.ref b1), .unset, .unset, .unset, .unset] [(.ref b1), (.int ((own_wt (own_pv ff x0 x1 (0 : Int32))) + (own_wt (own_pv ff x0 x1 (1 : Int32)))))])
              refine Dn.st (fun t q => XS.iconst X34.here hx rfl (hb hby at_144) q) ?_
              show Dn p e below s _ _ _ T34 (mkF m 145 #[.val (.int x0), .val (.int x1), .val (.int x2), .val (.int x3), .val (.int x4), .val (.int (5 : Int32)), .val (.int ff), .val (.ref b1), .unset, .unset, .unset, .unset] [(.int (2 : Int32)), (.ref b1), (.int ((own_wt (own_pv ff x0 x1 (0 : Int32))) + (own_wt (own_pv ff x0 x1 (1 : Int32)))))])
              refine Dn.st (aLoadI (w := (fun x => ((own_P5 ff x0 x1) x))) X34 hx hZ e34 A_b1 (i := 2) rfl (by decide) (g := (mkF m 145 #[.val (.int x0), .val (.int x1), .val (.int x2), .val (.int x3), .val (.int x4), .val (.int (5 : Int32)), .val (.int ff), .val (.ref b1), .unset, .unset, .unset, .unset] [(.int (2 : Int32)), (.ref b1), (.int ((own_wt (own_pv ff x0 x1 (0 : Int32))) + (own_wt (own_pv ff x0 x1 (1 : Int32)))))])) rfl rfl (hb hby at_145)) ?_
              show Dn p e below s _ _ _ T34 (mkF m 146 #[.val (.int x0), .val (.int x1), .val (.int x2), .val (.int x3), .val (.int x4), .val (.int (5 : Int32)), .val (.int ff), .val (.ref b1), .unset, .unset, .unset, .unset] [(.int (own_pv ff x0 x1 (2 : Int32))), (.int ((own_wt (own_pv ff x0 x1 (0 : Int32))) + (own_wt (own_pv ff x0 x1 (1 : Int32)))))])
              obtain ⟨_, _, ⟨T35, Lq35, kq_35, nq_35⟩, -, X35, ⟨Lc35, hQ35, lq35, yq35, zq35⟩, st35⟩ := Jvm.LawKit.callS X34 hx (y := (⟨"keyfold/FseHasPinLaw", "weight", "(I)I"⟩ : MethodName)) hown (mvT hZ (hw _ (List.mem_of_getElem? (i := 6) rfl))) (mvT hZ (hw _ (List.mem_of_getElem? (i := 7) rfl))) (mvT hZ (hw _ (List.mem_of_getElem? (i := 4) rfl))) (mvT hZ (hw _ (List.mem_of_getElem? (i := 8) rfl))) (by decide) (backOf (W := 1) (rm2 l Z a0 hw [] (own_pv ff x0 x1 (2 : Int32))  h32 n0 Z0 ) hZ (hw _ (List.mem_of_getElem? (i := 8) rfl)) (hw _ (List.mem_of_getElem? (i := 4) rfl)) (by decide) (by decide)) (g := (mkF m 146 #[.val (.int x0), .val (.int x1), .val (.int x2), .val (.int x3), .val (.int x4), .val (.int (5 : Int32)), .val (.int ff), .val (.ref b1), .unset, .unset, .unset, .unset] [(.int (own_pv ff x0 x1 (2 : Int32))), (.int ((own_wt (own_pv ff x0 x1 (0 : Int32))) + (own_wt (own_pv ff x0 x1 (1 : Int32)))))])) rfl (by rw [hml]; rfl) (argsL := [(.int (own_pv ff x0 x1 (2 : Int32)))]) (rest := [(.int ((own_wt (own_pv ff x0 x1 (0 : Int32))) + (own_wt (own_pv ff x0 x1 (1 : Int32)))))]) (lenOf pd_0 rfl) rfl (by show 2 * 0 + _ ≤ _; exact Nat.le_of_eq rfl) (hb hby at_146) (fun _ _ => ⟨rfl, e34, (by decide : 1 + 0 ≤ _), (by decide : 5 + 0 ≤ _)⟩)
              dsimp only [Pt.U, Pt.locs, Pt.cells, Pt.slots] at X35 lq35 yq35 zq35 st35 hQ35
              subst lq35 yq35 zq35
              obtain ⟨rfl, N35q, hq35⟩ := hQ35
              have N0 := Fr.app N0 N35q
              have e35 : T35.heap = h32 := hq35
              refine Dn.st st35 ?_
              show Dn p e below s _ _ _ T35 (mkF m 149 #[.val (.int x0), .val (.int x1), .val (.int x2), .val (.int x3), .val (.int x4), .val (.int (5 : Int32)), .val (.int ff), .val (.ref b1), .unset, .unset, .unset, .unset] [(.int (own_wt (own_pv ff x0 x1 (2 : Int32)))), (.int ((own_wt (own_pv ff x0 x1 (0 : Int32))) + (own_wt (own_pv ff x0 x1 (1 : Int32)))))])
              refine Dn.st (fun t q => XS.iadd X35.here hx rfl (hb hby at_149) rfl q) ?_
              show Dn p e below s _ _ _ T35 (mkF m 150 #[.val (.int x0), .val (.int x1), .val (.int x2), .val (.int x3), .val (.int x4), .val (.int (5 : Int32)), .val (.int ff), .val (.ref b1), .unset, .unset, .unset, .unset] [(.int (((own_wt (own_pv ff x0 x1 (0 : Int32))) + (own_wt (own_pv ff x0 x1 (1 : Int32)))) + (own_wt (own_pv ff x0 x1 (2 : Int32)))))])
              refine Dn.st (fun t q => XS.aload X35.here hx rfl (hb hby at_150) rfl rfl  q) ?_
              show Dn p e below s _ _ _ T35 (mkF m 152 #[.val (.int x0), .val (.int x1), .val (.int x2), .val (.int x3), .val (.int x4), .val (.int (5 : Int32)), .val (.int ff), .val (.ref b1), .unset, .unset, .unset, .unset] [(.ref b1), (.int (((own_wt (own_pv ff x0 x1 (0 : Int32))) + (own_wt (own_pv ff x0 x1 (1 : Int32)))) + (own_wt (own_pv ff x0 x1 (2 : Int32)))))])
              refine Dn.st (fun t q => XS.iconst X35.here hx rfl (hb hby at_152) q) ?_
              show Dn p e below s _ _ _ T35 (mkF m 153 #[.val (.int x0), .val (.int x1), .val (.int x2), .val (.int x3), .val (.int x4), .val (.int (5 : Int32)), .val (.int ff), .val (.ref b1), .unset, .unset, .unset, .unset] [(.int (3 : Int32)), (.ref b1), (.int (((own_wt (own_pv ff x0 x1 (0 : Int32))) + (own_wt (own_pv ff x0 x1 (1 : Int32)))) + (own_wt (own_pv ff x0 x1 (2 : Int32)))))])
              refine Dn.st (aLoadI (w := (fun x => ((own_P5 ff x0 x1) x))) X35 hx hZ e35 A_b1 (i := 3) rfl (by decide) (g := (mkF m 153 #[.val (.int x0), .val (.int x1), .val (.int x2), .val (.int x3), .val (.int x4), .val (.int (5 : Int32)), .val (.int ff), .val (.ref b1), .unset, .unset, .unset, .unset] [(.int (3 : Int32)), (.ref b1), (.int (((own_wt (own_pv ff x0 x1 (0 : Int32))) + (own_wt (own_pv ff x0 x1 (1 : Int32)))) + (own_wt (own_pv ff x0 x1 (2 : Int32)))))])) rfl rfl (hb hby at_153)) ?_
              show Dn p e below s _ _ _ T35 (mkF m 154 #[.val (.int x0), .val (.int x1), .val (.int x2), .val (.int x3), .val (.int x4), .val (.int (5 : Int32)), .val (.int ff), .val (.ref b1), .unset, .unset, .unset, .unset] [(.int (own_pv ff x0 x1 (3 : Int32))), (.int (((own_wt (own_pv ff x0 x1 (0 : Int32))) + (own_wt (own_pv ff x0 x1 (1 : Int32)))) + (own_wt (own_pv ff x0 x1 (2 : Int32)))))])
              obtain ⟨_, _, ⟨T36, Lq36, kq_36, nq_36⟩, -, X36, ⟨Lc36, hQ36, lq36, yq36, zq36⟩, st36⟩ := Jvm.LawKit.callS X35 hx (y := (⟨"keyfold/FseHasPinLaw", "weight", "(I)I"⟩ : MethodName)) hown (mvT hZ (hw _ (List.mem_of_getElem? (i := 6) rfl))) (mvT hZ (hw _ (List.mem_of_getElem? (i := 7) rfl))) (mvT hZ (hw _ (List.mem_of_getElem? (i := 4) rfl))) (mvT hZ (hw _ (List.mem_of_getElem? (i := 8) rfl))) (by decide) (backOf (W := 1) (rm2 l Z a0 hw [] (own_pv ff x0 x1 (3 : Int32))  h32 n0 Z0 ) hZ (hw _ (List.mem_of_getElem? (i := 8) rfl)) (hw _ (List.mem_of_getElem? (i := 4) rfl)) (by decide) (by decide)) (g := (mkF m 154 #[.val (.int x0), .val (.int x1), .val (.int x2), .val (.int x3), .val (.int x4), .val (.int (5 : Int32)), .val (.int ff), .val (.ref b1), .unset, .unset, .unset, .unset] [(.int (own_pv ff x0 x1 (3 : Int32))), (.int (((own_wt (own_pv ff x0 x1 (0 : Int32))) + (own_wt (own_pv ff x0 x1 (1 : Int32)))) + (own_wt (own_pv ff x0 x1 (2 : Int32)))))])) rfl (by rw [hml]; rfl) (argsL := [(.int (own_pv ff x0 x1 (3 : Int32)))]) (rest := [(.int (((own_wt (own_pv ff x0 x1 (0 : Int32))) + (own_wt (own_pv ff x0 x1 (1 : Int32)))) + (own_wt (own_pv ff x0 x1 (2 : Int32)))))]) (lenOf pd_0 rfl) rfl (by show 2 * 0 + _ ≤ _; exact Nat.le_of_eq rfl) (hb hby at_154) (fun _ _ => ⟨rfl, e35, (by decide : 1 + 0 ≤ _), (by decide : 5 + 0 ≤ _)⟩)
              dsimp only [Pt.U, Pt.locs, Pt.cells, Pt.slots] at X36 lq36 yq36 zq36 st36 hQ36
              subst lq36 yq36 zq36
              obtain ⟨rfl, N36q, hq36⟩ := hQ36
              have N0 := Fr.app N0 N36q
              have e36 : T36.heap = h32 := hq36
              refine Dn.st st36 ?_
              show Dn p e below s _ _ _ T36 (mkF m 157 #[.val (.int x0), .val (.int x1), .val (.int x2), .val (.int x3), .val (.int x4), .val (.int (5 : Int32)), .val (.int ff), .val (.ref b1), .unset, .unset, .unset, .unset] [(.int (own_wt (own_pv ff x0 x1 (3 : Int32)))), (.int (((own_wt (own_pv ff x0 x1 (0 : Int32))) + (own_wt (own_pv ff x0 x1 (1 : Int32)))) + (own_wt (own_pv ff x0 x1 (2 : Int32)))))])
              refine Dn.st (fun t q => XS.iadd X36.here hx rfl (hb hby at_157) rfl q) ?_
              show Dn p e below s _ _ _ T36 (mkF m 158 #[.val (.int x0), .val (.int x1), .val (.int x2), .val (.int x3), .val (.int x4), .val (.int (5 : Int32)), .val (.int ff), .val (.ref b1), .unset, .unset, .unset, .unset] [(.int ((((own_wt (own_pv ff x0 x1 (0 : Int32))) + (own_wt (own_pv ff x0 x1 (1 : Int32)))) + (own_wt (own_pv ff x0 x1 (2 : Int32)))) + (own_wt (own_pv ff x0 x1 (3 : Int32)))))])
              refine Dn.st (fun t q => XS.iload X36.here hx rfl (hb hby at_158) rfl  q) ?_
              show Dn p e below s _ _ _ T36 (mkF m 160 #[.val (.int x0), .val (.int x1), .val (.int x2), .val (.int x3), .val (.int x4), .val (.int (5 : Int32)), .val (.int ff), .val (.ref b1), .unset, .unset, .unset, .unset] [(.int (5 : Int32)), (.int ((((own_wt (own_pv ff x0 x1 (0 : Int32))) + (own_wt (own_pv ff x0 x1 (1 : Int32)))) + (own_wt (own_pv ff x0 x1 (2 : Int32)))) + (own_wt (own_pv ff x0 x1 (3 : Int32)))))])
              refine Dn.st (fun t q => XS.iconst X36.here hx rfl (hb hby at_160) q) ?_
              show Dn p e below s _ _ _ T36 (mkF m 161 #[.val (.int x0), .val (.int x1), .val (.int x2), .val (.int x3), .val (.int x4), .val (.int (5 : Int32)), .val (.int ff), .val (.ref b1), .unset, .unset, .unset, .unset] [(.int (5 : Int32)), (.int (5 : Int32)), (.int ((((own_wt (own_pv ff x0 x1 (0 : Int32))) + (own_wt (own_pv ff x0 x1 (1 : Int32)))) + (own_wt (own_pv ff x0 x1 (2 : Int32)))) + (own_wt (own_pv ff x0 x1 (3 : Int32)))))])
              refine Dn.st (fun t q => XS.icmpNo X36.here hx rfl (hb hby at_161) rfl (teq rfl).2 q) ?_
              show Dn p e below s _ _ _ T36 (mkF m 164 #[.val (.int x0), .val (.int x1), .val (.int x2), .val (.int x3), .val (.int x4), .val (.int (5 : Int32)), .val (.int ff), .val (.ref b1), .unset, .unset, .unset, .unset] [(.int ((((own_wt (own_pv ff x0 x1 (0 : Int32))) + (own_wt (own_pv ff x0 x1 (1 : Int32)))) + (own_wt (own_pv ff x0 x1 (2 : Int32)))) + (own_wt (own_pv ff x0 x1 (3 : Int32)))))])
              refine Dn.st (fun t q => XS.aload X36.here hx rfl (hb hby at_164) rfl rfl  q) ?_
              show Dn p e below s _ _ _ T36 (mkF m 166 #[.val (.int x0), .val (.int x1), .val (.int x2), .val (.int x3), .val (.int x4), .val (.int (5 : Int32)), .val (.int ff), .val (.ref b1), .unset, .unset, .unset, .unset] [(.ref b1), (.int ((((own_wt (own_pv ff x0 x1 (0 : Int32))) + (own_wt (own_pv ff x0 x1 (1 : Int32)))) + (own_wt (own_pv ff x0 x1 (2 : Int32)))) + (own_wt (own_pv ff x0 x1 (3 : Int32)))))])
              refine Dn.st (fun t q => XS.iconst X36.here hx rfl (hb hby at_166) q) ?_
              show Dn p e below s _ _ _ T36 (mkF m 167 #[.val (.int x0), .val (.int x1), .val (.int x2), .val (.int x3), .val (.int x4), .val (.int (5 : Int32)), .val (.int ff), .val (.ref b1), .unset, .unset, .unset, .unset] [(.int (4 : Int32)), (.ref b1), (.int ((((own_wt (own_pv ff x0 x1 (0 : Int32))) + (own_wt (own_pv ff x0 x1 (1 : Int32)))) + (own_wt (own_pv ff x0 x1 (2 : Int32)))) + (own_wt (own_pv ff x0 x1 (3 : Int32)))))])
              refine Dn.st (aLoadI (w := (fun x => ((own_P5 ff x0 x1) x))) X36 hx hZ e36 A_b1 (i := 4) rfl (by decide) (g := (mkF m 167 #[.val (.int x0), .val (.int x1), .val (.int x2), .val (.int x3), .val (.int x4), .val (.int (5 : Int32)), .val (.int ff), .val (.ref b1), .unset, .unset, .unset, .unset] [(.int (4 : Int32)), (.ref b1), (.int ((((own_wt (own_pv ff x0 x1 (0 : Int32))) + (own_wt (own_pv ff x0 x1 (1 : Int32)))) + (own_wt (own_pv ff x0 x1 (2 : Int32)))) + (own_wt (own_pv ff x0 x1 (3 : Int32)))))])) rfl rfl (hb hby at_167)) ?_
              show Dn p e below s _ _ _ T36 (mkF m 168 #[.val (.int x0), .val (.int x1), .val (.int x2), .val (.int x3), .val (.int x4), .val (.int (5 : Int32)), .val (.int ff), .val (.ref b1), .unset, .unset, .unset, .unset] [(.int (own_pv ff x0 x1 (4 : Int32))), (.int ((((own_wt (own_pv ff x0 x1 (0 : Int32))) + (own_wt (own_pv ff x0 x1 (1 : Int32)))) + (own_wt (own_pv ff x0 x1 (2 : Int32)))) + (own_wt (own_pv ff x0 x1 (3 : Int32)))))])
              obtain ⟨_, _, ⟨T37, Lq37, kq_37, nq_37⟩, -, X37, ⟨Lc37, hQ37, lq37, yq37, zq37⟩, st37⟩ := Jvm.LawKit.callS X36 hx (y := (⟨"keyfold/FseHasPinLaw", "weight", "(I)I"⟩ : MethodName)) hown (mvT hZ (hw _ (List.mem_of_getElem? (i := 6) rfl))) (mvT hZ (hw _ (List.mem_of_getElem? (i := 7) rfl))) (mvT hZ (hw _ (List.mem_of_getElem? (i := 4) rfl))) (mvT hZ (hw _ (List.mem_of_getElem? (i := 8) rfl))) (by decide) (backOf (W := 1) (rm2 l Z a0 hw [] (own_pv ff x0 x1 (4 : Int32))  h32 n0 Z0 ) hZ (hw _ (List.mem_of_getElem? (i := 8) rfl)) (hw _ (List.mem_of_getElem? (i := 4) rfl)) (by decide) (by decide)) (g := (mkF m 168 #[.val (.int x0), .val (.int x1), .val (.int x2), .val (.int x3), .val (.int x4), .val (.int (5 : Int32)), .val (.int ff), .val (.ref b1), .unset, .unset, .unset, .unset] [(.int (own_pv ff x0 x1 (4 : Int32))), (.int ((((own_wt (own_pv ff x0 x1 (0 : Int32))) + (own_wt (own_pv ff x0 x1 (1 : Int32)))) + (own_wt (own_pv ff x0 x1 (2 : Int32)))) + (own_wt (own_pv ff x0 x1 (3 : Int32)))))])) rfl (by rw [hml]; rfl) (argsL := [(.int (own_pv ff x0 x1 (4 : Int32)))]) (rest := [(.int ((((own_wt (own_pv ff x0 x1 (0 : Int32))) + (own_wt (own_pv ff x0 x1 (1 : Int32)))) + (own_wt (own_pv ff x0 x1 (2 : Int32)))) + (own_wt (own_pv ff x0 x1 (3 : Int32)))))]) (lenOf pd_0 rfl) rfl (by show 2 * 0 + _ ≤ _; exact Nat.le_of_eq rfl) (hb hby at_168) (fun _ _ => ⟨rfl, e36, (by decide : 1 + 0 ≤ _), (by decide : 5 + 0 ≤ _)⟩)
              dsimp only [Pt.U, Pt.locs, Pt.cells, Pt.slots] at X37 lq37 yq37 zq37 st37 hQ37
              subst lq37 yq37 zq37
              obtain ⟨rfl, N37q, hq37⟩ := hQ37
              have N0 := Fr.app N0 N37q
              have e37 : T37.heap = h32 := hq37
              refine Dn.st st37 ?_
              show Dn p e below s _ _ _ T37 (mkF m 171 #[.val (.int x0), .val (.int x1), .val (.int x2), .val (.int x3), .val (.int x4), .val (.int (5 : Int32)), .val (.int ff), .val (.ref b1), .unset, .unset, .unset, .unset] [(.int (own_wt (own_pv ff x0 x1 (4 : Int32)))), (.int ((((own_wt (own_pv ff x0 x1 (0 : Int32))) + (own_wt (own_pv ff x0 x1 (1 : Int32)))) + (own_wt (own_pv ff x0 x1 (2 : Int32)))) + (own_wt (own_pv ff x0 x1 (3 : Int32)))))])
              refine Dn.st (fun t q => XS.goto X37.here hx rfl (pc0 := 171) (pc' := 175) rfl (hb hby at_171) (by decide) (by decide) q) ?_
              show Dn p e below s _ _ _ T37 (mkF m 175 #[.val (.int x0), .val (.int x1), .val (.int x2), .val (.int x3), .val (.int x4), .val (.int (5 : Int32)), .val (.int ff), .val (.ref b1), .unset, .unset, .unset, .unset] [(.int (own_wt (own_pv ff x0 x1 (4 : Int32)))), (.int ((((own_wt (own_pv ff x0 x1 (0 : Int32))) + (own_wt (own_pv ff x0 x1 (1 : Int32)))) + (own_wt (own_pv ff x0 x1 (2 : Int32)))) + (own_wt (own_pv ff x0 x1 (3 : Int32)))))])
              refine Dn.st (fun t q => XS.iadd X37.here hx rfl (hb hby at_175) rfl q) ?_
              show Dn p e below s _ _ _ T37 (mkF m 176 #[.val (.int x0), .val (.int x1), .val (.int x2), .val (.int x3), .val (.int x4), .val (.int (5 : Int32)), .val (.int ff), .val (.ref b1), .unset, .unset, .unset, .unset] [(.int (((((own_wt (own_pv ff x0 x1 (0 : Int32))) + (own_wt (own_pv ff x0 x1 (1 : Int32)))) + (own_wt (own_pv ff x0 x1 (2 : Int32)))) + (own_wt (own_pv ff x0 x1 (3 : Int32)))) + (own_wt (own_pv ff x0 x1 (4 : Int32)))))])
              generalize hus : (((((own_wt (own_pv ff x0 x1 (0 : Int32))) + (own_wt (own_pv ff x0 x1 (1 : Int32)))) + (own_wt (own_pv ff x0 x1 (2 : Int32)))) + (own_wt (own_pv ff x0 x1 (3 : Int32)))) + (own_wt (own_pv ff x0 x1 (4 : Int32)))) = us
              show Dn p e below s _ _ _ T37 (mkF m 176 #[.val (.int x0), .val (.int x1), .val (.int x2), .val (.int x3), .val (.int x4), .val (.int (5 : Int32)), .val (.int ff), .val (.ref b1), .unset, .unset, .unset, .unset] [(.int us)])
              refine Dn.st (fun t q => XS.istore X37.here hx rfl (hb hby at_176) rfl (l' := #[.val (.int x0), .val (.int x1), .val (.int x2), .val (.int x3), .val (.int x4), .val (.int (5 : Int32)), .val (.int ff), .val (.ref b1), .val (.int us), .unset, .unset, .unset]) rfl q) ?_
              show Dn p e below s _ _ _ T37 (mkF m 178 #[.val (.int x0), .val (.int x1), .val (.int x2), .val (.int x3), .val (.int x4), .val (.int (5 : Int32)), .val (.int ff), .val (.ref b1), .val (.int us), .unset, .unset, .unset] [])
              refine Dn.st (fun t q => XS.aload X37.here hx rfl (hb hby at_178) rfl rfl  q) ?_
              show Dn p e below s _ _ _ T37 (mkF m 180 #[.val (.int x0), .val (.int x1), .val (.int x2), .val (.int x3), .val (.int x4), .val (.int (5 : Int32)), .val (.int ff), .val (.ref b1), .val (.int us), .unset, .unset, .unset] [(.ref b1)])
              refine Dn.st (fun t q => XS.iload X37.here hx rfl (hb hby at_180) rfl  q) ?_
              show Dn p e below s _ _ _ T37 (mkF m 182 #[.val (.int x0), .val (.int x1), .val (.int x2), .val (.int x3), .val (.int x4), .val (.int (5 : Int32)), .val (.int ff), .val (.ref b1), .val (.int us), .unset, .unset, .unset] [(.int ff), (.ref b1)])
              refine Dn.st (fun t q => XS.bipush X37.here hx rfl (hb hby at_182) q) ?_
              show Dn p e below s _ _ _ T37 (mkF m 184 #[.val (.int x0), .val (.int x1), .val (.int x2), .val (.int x3), .val (.int x4), .val (.int (5 : Int32)), .val (.int ff), .val (.ref b1), .val (.int us), .unset, .unset, .unset] [(.int (32 : Int32)), (.int ff), (.ref b1)])
              refine Dn.st (fun t q => XS.iload X37.here hx rfl (hb hby at_184) rfl  q) ?_
              show Dn p e below s _ _ _ T37 (mkF m 186 #[.val (.int x0), .val (.int x1), .val (.int x2), .val (.int x3), .val (.int x4), .val (.int (5 : Int32)), .val (.int ff), .val (.ref b1), .val (.int us), .unset, .unset, .unset] [(.int us), (.int (32 : Int32)), (.int ff), (.ref b1)])
              refine Dn.st (fun t q => XS.isub X37.here hx rfl (hb hby at_186) rfl q) ?_
              show Dn p e below s _ _ _ T37 (mkF m 187 #[.val (.int x0), .val (.int x1), .val (.int x2), .val (.int x3), .val (.int x4), .val (.int (5 : Int32)), .val (.int ff), .val (.ref b1), .val (.int us), .unset, .unset, .unset] [(.int ((32 : Int32) - us)), (.int ff), (.ref b1)])
              have hok := own_law5 hf1 hfn hus
              obtain ⟨T38, h38, X38, e38, W38, B38, st38⟩ := aStoI X37 hx hZ e37 A_b1 (i := f1) hf1 hfn (g := (mkF m 187 #[.val (.int x0), .val (.int x1), .val (.int x2), .val (.int x3), .val (.int x4), .val (.int (5 : Int32)), .val (.int ff), .val (.ref b1), .val (.int us), .unset, .unset, .unset] [(.int ((32 : Int32) - us)), (.int ff), (.ref b1)])) rfl rfl (hb hby at_187)
              have N0 := Fr.snoc X38 N0 g_b1
              have Z0 := Nat.le_trans Z0 (Keep.of_wr W38).1
              have K0 := K0.wr W38 (Or.inr sz_b1)
              have E_b1 := E_b1.wr W38
              have A_b1 : Ary Z h38 b1 .int 5 (fun x => .int ((own_Q5 ff x0 x1 f1 us) x)) := B38.congr (own_Q5_eq)
              refine Dn.st st38 ?_
              show Dn p e below s _ _ _ T38 (mkF m 188 #[.val (.int x0), .val (.int x1), .val (.int x2), .val (.int x3), .val (.int x4), .val (.int (5 : Int32)), .val (.int ff), .val (.ref b1), .val (.int us), .unset, .unset, .unset] [])
              refine Dn.st (fun t q => XS.iloadN X38.here hx rfl (hb hby at_188) rfl  q) ?_
              show Dn p e below s _ _ _ T38 (mkF m 189 #[.val (.int x0), .val (.int x1), .val (.int x2), .val (.int x3), .val (.int x4), .val (.int (5 : Int32)), .val (.int ff), .val (.ref b1), .val (.int us), .unset, .unset, .unset] [(.int x3)])
              refine Dn.st (fun t q => XS.iconst X38.here hx rfl (hb hby at_189) q) ?_
              show Dn p e below s _ _ _ T38 (mkF m 190 #[.val (.int x0), .val (.int x1), .val (.int x2), .val (.int x3), .val (.int x4), .val (.int (5 : Int32)), .val (.int ff), .val (.ref b1), .val (.int us), .unset, .unset, .unset] [(.int (2 : Int32)), (.int x3)])
              refine Dn.st (fun t q => XS.iand X38.here hx rfl (hb hby at_190) rfl q) ?_
              show Dn p e below s _ _ _ T38 (mkF m 191 #[.val (.int x0), .val (.int x1), .val (.int x2), .val (.int x3), .val (.int x4), .val (.int (5 : Int32)), .val (.int ff), .val (.ref b1), .val (.int us), .unset, .unset, .unset] [(.int (x3 &&& (2 : Int32)))])
              have jq : Dn p e below s (Q0 Z x0 x1 x2 x3 x4 h0 n0) (9) (128) T38 (mkF m 207 #[.val (.int x0), .val (.int x1), .val (.int x2), .val (.int x3), .val (.int x4), .val (.int (5 : Int32)), .val (.int ff), .val (.ref b1), .val (.int us), .unset, .unset, .unset] [(.int (own_s x3 x4))]) := by
                obtain ⟨s1, hs1⟩ := own_snn x3 x4
                generalize hss : (own_s x3 x4) = ss
                show Dn p e below s _ _ _ T38 (mkF m 207 #[.val (.int x0), .val (.int x1), .val (.int x2), .val (.int x3), .val (.int x4), .val (.int (5 : Int32)), .val (.int ff), .val (.ref b1), .val (.int us), .unset, .unset, .unset] [(.int ss)])
                rw [hss] at hs1
                refine Dn.st (fun t q => XS.istore X38.here hx rfl (hb hby at_207) rfl (l' := #[.val (.int x0), .val (.int x1), .val (.int x2), .val (.int x3), .val (.int x4), .val (.int (5 : Int32)), .val (.int ff), .val (.ref b1), .val (.int us), .val (.int ss), .unset, .unset]) rfl q) ?_
                show Dn p e below s _ _ _ T38 (mkF m 209 #[.val (.int x0), .val (.int x1), .val (.int x2), .val (.int x3), .val (.int x4), .val (.int (5 : Int32)), .val (.int ff), .val (.ref b1), .val (.int us), .val (.int ss), .unset, .unset] [])
                refine Dn.st (fun t q => XS.iload X38.here hx rfl (hb hby at_209) rfl  q) ?_
                show Dn p e below s _ _ _ T38 (mkF m 211 #[.val (.int x0), .val (.int x1), .val (.int x2), .val (.int x3), .val (.int x4), .val (.int (5 : Int32)), .val (.int ff), .val (.ref b1), .val (.int us), .val (.int ss), .unset, .unset] [(.int ss)])
                refine Dn.st (fun t q => XS.iload X38.here hx rfl (hb hby at_211) rfl  q) ?_
                show Dn p e below s _ _ _ T38 (mkF m 213 #[.val (.int x0), .val (.int x1), .val (.int x2), .val (.int x3), .val (.int x4), .val (.int (5 : Int32)), .val (.int ff), .val (.ref b1), .val (.int us), .val (.int ss), .unset, .unset] [(.int (5 : Int32)), (.int ss)])
                have je : Dn p e below s (Q0 Z x0 x1 x2 x3 x4 h0 n0) (9) (128) T38 (mkF m 229 #[.val (.int x0), .val (.int x1), .val (.int x2), .val (.int x3), .val (.int x4), .val (.int (5 : Int32)), .val (.int ff), .val (.ref b1), .val (.int us), .val (.int ss), .unset, .unset] [(.int (own_exp (own_Q5 ff x0 x1 f1 us) 5 ss))]) := by
                  refine Dn.st (fun t q => XS.istore X38.here hx rfl (hb hby at_229) rfl (l' := #[.val (.int x0), .val (.int x1), .val (.int x2), .val (.int x3), .val (.int x4), .val (.int (5 : Int32)), .val (.int ff), .val (.ref b1), .val (.int us), .val (.int ss), .val (.int (own_exp (own_Q5 ff x0 x1 f1 us) 5 ss)), .unset]) rfl q) ?_
                  show Dn p e below s _ _ _ T38 (mkF m 231 #[.val (.int x0), .val (.int x1), .val (.int x2), .val (.int x3), .val (.int x4), .val (.int (5 : Int32)), .val (.int ff), .val (.ref b1), .val (.int us), .val (.int ss), .val (.int (own_exp (own_Q5 ff x0 x1 f1 us) 5 ss)), .unset] [])
                  obtain ⟨T39, h39, X39, e39, E39, A39, D39, -, st39⟩ := newO X38 hx hZ hown (hw _ (List.mem_of_getElem? (i := 9) rfl)) (hw _ (List.mem_of_getElem? (i := 10) rfl)) (hw _ (List.mem_of_getElem? (i := 11) rfl)) e38 (g := (mkF m 231 #[.val (.int x0), .val (.int x1), .val (.int x2), .val (.int x3), .val (.int x4), .val (.int (5 : Int32)), .val (.int ff), .val (.ref b1), .val (.int us), .val (.int ss), .val (.int (own_exp (own_Q5 ff x0 x1 f1 us) 5 ss)), .unset] [])) rfl (hb hby at_231) (by decide) (by decide)
                  obtain ⟨b2, g39⟩ : ∃ z, z = h38.size := ⟨_, rfl⟩
                  rw [← g39] at A39 D39 st39
                  have ne_b1_b2 : b1 ≠ b2 := own_ne E_b1.lt g39
                  have g_b2 : n0 ≤ b2 := Nat.le_trans Z0 (Nat.le_of_eq g39.symm)
                  have sz_b2 : h0.size ≤ b2 := Nat.le_trans K0.1 (Nat.le_of_eq g39.symm)
                  have Z0 := Nat.le_trans Z0 E39.1
                  have K0 := K0.ext E39
                  have E_b1 := E_b1.ext E39
                  have A_b1 := A_b1.ext E39
                  have E_b2 := A39
                  have F_log_b2 : Fld Z h39 b2 "keyfold/Fse" "log" "I" (.int (0 : Int32)) := D39 (Or.inr (hw _ (List.mem_of_getElem? (i := 19) rfl))) (ty := .int) (by decide)
                  have F_probabilities_b2 : Fld Z h39 b2 "keyfold/Fse" "probabilities" "[I" .null := D39 (Or.inr (hw _ (List.mem_of_getElem? (i := 30) rfl))) (ty := (.array .int)) (by decide)
                  have F_counts_b2 : Fld Z h39 b2 "keyfold/Fse" "counts" "[I" .null := D39 (Or.inr (hw _ (List.mem_of_getElem? (i := 32) rfl))) (ty := (.array .int)) (by decide)
                  have F_first_b2 : Fld Z h39 b2 "keyfold/Fse" "first" "[I" .null := D39 (Or.inr (hw _ (List.mem_of_getElem? (i := 34) rfl))) (ty := (.array .int)) (by decide)
                  have F_byState_b2 : Fld Z h39 b2 "keyfold/Fse" "byState" "[I" .null := D39 (Or.inr (hw _ (List.mem_of_getElem? (i := 36) rfl))) (ty := (.array .int)) (by decide)
                  have F_states_b2 : Fld Z h39 b2 "keyfold/Fse" "states" "[I" .null := D39 (Or.inr (hw _ (List.mem_of_getElem? (i := 38) rfl))) (ty := (.array .int)) (by decide)
                  refine Dn.st st39 ?_
                  show Dn p e below s _ _ _ T39 (mkF m 234 #[.val (.int x0), .val (.int x1), .val (.int x2), .val (.int x3), .val (.int x4), .val (.int (5 : Int32)), .val (.int ff), .val (.ref b1), .val (.int us), .val (.int ss), .val (.int (own_exp (own_Q5 ff x0 x1 f1 us) 5 ss)), .unset] [(.ref b2)])
                  refine Dn.st (fun t q => XS.dup X39.here hx rfl (hb hby at_234) rfl rfl q) ?_
                  show Dn p e below s _ _ _ T39 (mkF m 235 #[.val (.int x0), .val (.int x1), .val (.int x2), .val (.int x3), .val (.int x4), .val (.int (5 : Int32)), .val (.int ff), .val (.ref b1), .val (.int us), .val (.int ss), .val (.int (own_exp (own_Q5 ff x0 x1 f1 us) 5 ss)), .unset] [(.ref b2), (.ref b2)])
                  refine Dn.st (fun t q => XS.aload X39.here hx rfl (hb hby at_235) rfl rfl  q) ?_
                  show Dn p e below s _ _ _ T39 (mkF m 237 #[.val (.int x0), .val (.int x1), .val (.int x2), .val (.int x3), .val (.int x4), .val (.int (5 : Int32)), .val (.int ff), .val (.ref b1), .val (.int us), .val (.int ss), .val (.int (own_exp (own_Q5 ff x0 x1 f1 us) 5 ss)), .unset] [(.ref b1), (.ref b2), (.ref b2)])
                  refine Dn.st (fun t q => XS.iconst X39.here hx rfl (hb hby at_237) q) ?_
                  show Dn p e below s _ _ _ T39 (mkF m 238 #[.val (.int x0), .val (.int x1), .val (.int x2), .val (.int x3), .val (.int x4), .val (.int (5 : Int32)), .val (.int ff), .val (.ref b1), .val (.int us), .val (.int ss), .val (.int (own_exp (own_Q5 ff x0 x1 f1 us) 5 ss)), .unset] [(.int (5 : Int32)), (.ref b1), (.ref b2), (.ref b2)])
                  obtain ⟨_, _, ⟨T40, Lq40, kq_40, nq_40⟩, -, X40, ⟨Lc40, hQ40, lq40, yq40, zq40⟩, st40⟩ := X39.specialBack hx (y := (⟨"keyfold/Fse", "<init>", "([II)V"⟩ : MethodName)) rfl hown (mvT hZ (hw _ (List.mem_of_getElem? (i := 12) rfl))) (mvT hZ (hw _ (List.mem_of_getElem? (i := 13) rfl))) (mvT hZ (hw _ (List.mem_of_getElem? (i := 14) rfl))) (by decide) (backOf (W := 1) (rm3 l Z a0 hw [] b2 b1 (5 : Int32) (.int (0 : Int32)) .null .null .null .null .null (own_Q5 ff x0 x1 f1 us) 5 h39 n0 Z0 E_b2 F_log_b2 F_probabilities_b2 F_counts_b2 F_first_b2 F_byState_b2 F_states_b2 A_b1 E_b1 (Ne.symm ne_b1_b2) g_b2 rfl hok) hZ (hw _ (List.mem_of_getElem? (i := 14) rfl)) (hw _ (List.mem_of_getElem? (i := 11) rfl)) (by decide) (by decide)) (g := (mkF m 238 #[.val (.int x0), .val (.int x1), .val (.int x2), .val (.int x3), .val (.int x4), .val (.int (5 : Int32)), .val (.int ff), .val (.ref b1), .val (.int us), .val (.int ss), .val (.int (own_exp (own_Q5 ff x0 x1 f1 us) 5 ss)), .unset] [(.int (5 : Int32)), (.ref b1), (.ref b2), (.ref b2)])) rfl (by rw [hml]; rfl) (Steps.refl _) (a := b2) (argsL := [(.ref b1), (.int (5 : Int32))]) (rest := [(.ref b2)]) (lenOf pd_1 rfl) rfl (by show 2 * 0 + _ ≤ _; exact Nat.le_of_eq rfl) (hb hby at_238) (fun _ _ => ⟨rfl, e39, (by decide : 2 + 7 ≤ _), (by decide : 12 + 116 ≤ _)⟩)
                  dsimp only [Pt.U, Pt.locs, Pt.cells, Pt.slots] at X40 lq40 yq40 zq40 st40 hQ40
                  subst lq40 yq40 zq40
                  obtain ⟨rfl, N40q, K40, bc, le40, F_counts_b2, A_bc⟩ := hQ40
                  have N0 := Fr.app N0 N40q
                  have Z0 := Nat.le_trans Z0 K40.1
                  have K0 := K0.trans K40 (allS (Or.inr sz_b2) all0)
                  have E_b1 := E_b1.keep K40
                  have A_b1 := A_b1.keep K40 (ninS ne_b1_b2 nin0)
                  have E_b2 := E_b2.keep K40
                  refine Dn.tr st40 ?_
                  show Dn p e below s _ _ _ T40 (mkF m 241 #[.val (.int x0), .val (.int x1), .val (.int x2), .val (.int x3), .val (.int x4), .val (.int (5 : Int32)), .val (.int ff), .val (.ref b1), .val (.int us), .val (.int ss), .val (.int (own_exp (own_Q5 ff x0 x1 f1 us) 5 ss)), .unset] [(.ref b2)])
                  refine Dn.st (fun t q => XS.astore X40.here hx rfl (hb hby at_241) rfl rfl (l' := #[.val (.int x0), .val (.int x1), .val (.int x2), .val (.int x3), .val (.int x4), .val (.int (5 : Int32)), .val (.int ff), .val (.ref b1), .val (.int us), .val (.int ss), .val (.int (own_exp (own_Q5 ff x0 x1 f1 us) 5 ss)), .val (.ref b2)]) rfl q) ?_
                  show Dn p e below s _ _ _ T40 (mkF m 243 #[.val (.int x0), .val (.int x1), .val (.int x2), .val (.int x3), .val (.int x4), .val (.int (5 : Int32)), .val (.int ff), .val (.ref b1), .val (.int us), .val (.int ss), .val (.int (own_exp (own_Q5 ff x0 x1 f1 us) 5 ss)), .val (.ref b2)] [])
                  refine Dn.st (fun t q => XS.aload X40.here hx rfl (hb hby at_243) rfl rfl  q) ?_
                  show Dn p e below s _ _ _ T40 (mkF m 245 #[.val (.int x0), .val (.int x1), .val (.int x2), .val (.int x3), .val (.int x4), .val (.int (5 : Int32)), .val (.int ff), .val (.ref b1), .val (.int us), .val (.int ss), .val (.int (own_exp (own_Q5 ff x0 x1 f1 us) 5 ss)), .val (.ref b2)] [(.ref b2)])
                  refine Dn.st (fun t q => XS.iload X40.here hx rfl (hb hby at_245) rfl  q) ?_
                  show Dn p e below s _ _ _ T40 (mkF m 247 #[.val (.int x0), .val (.int x1), .val (.int x2), .val (.int x3), .val (.int x4), .val (.int (5 : Int32)), .val (.int ff), .val (.ref b1), .val (.int us), .val (.int ss), .val (.int (own_exp (own_Q5 ff x0 x1 f1 us) 5 ss)), .val (.ref b2)] [(.int ss), (.ref b2)])
                  obtain ⟨cq41, kq41, q41a, q41b, q41c⟩ := isOf hZ rfl E_b2
                  obtain ⟨_, _, ⟨T41, Lq41, kq_41, nq_41⟩, -, X41, ⟨Lc41, hQ41, lq41, yq41, zq41⟩, st41⟩ := X40.virtualBack hx (y := (⟨"keyfold/Fse", "has", "(I)Z"⟩ : MethodName)) (z := (⟨"keyfold/Fse", "has", "(I)Z"⟩ : MethodName)) hown (mvT hZ (hw _ (List.mem_of_getElem? (i := 48) rfl))) (mvT hZ (hw _ (List.mem_of_getElem? (i := 49) rfl))) (notFace_of_selects (args := #[]) (mvT hZ (hw _ (List.mem_of_getElem? (i := 51) rfl)))) (mvT hZ (hw _ (List.mem_of_getElem? (i := 51) rfl))) (mvT hZ (hw _ (List.mem_of_getElem? (i := 50) rfl))) (by decide) (backOf (W := 0) (rm7 l Z a0 hw [] b2 ss bc (own_Q5 ff x0 x1 f1 us) 5 s1 T40.heap n0 Z0 F_counts_b2 A_bc hs1 (by decide)) hZ (hw _ (List.mem_of_getElem? (i := 52) rfl)) (hw _ (List.mem_of_getElem? (i := 11) rfl)) (by decide) (by decide)) q41a q41c (g := (mkF m 247 #[.val (.int x0), .val (.int x1), .val (.int x2), .val (.int x3), .val (.int x4), .val (.int (5 : Int32)), .val (.int ff), .val (.ref b1), .val (.int us), .val (.int ss), .val (.int (own_exp (own_Q5 ff x0 x1 f1 us) 5 ss)), .val (.ref b2)] [(.int ss), (.ref b2)])) rfl (by rw [hml]; rfl) (Steps.refl _) (argsL := [(.int ss)]) (rest := []) (lenOf pd_2 rfl) rfl (by show 2 * 0 + _ ≤ _; exact Nat.le_of_eq rfl) (hb hby at_247) (fun _ _ => ⟨rfl, rfl, (by decide : 9 + 0 ≤ _), (by decide : 128 + 0 ≤ _)⟩)
                  dsimp only [Pt.U, Pt.locs, Pt.cells, Pt.slots] at X41 lq41 yq41 zq41 st41 hQ41
                  subst lq41 yq41 zq41
                  obtain ⟨rfl, N41q, hq41⟩ := hQ41
                  have N0 := Fr.app N0 N41q
                  have e41 : T41.heap = T40.heap := hq41
                  refine Dn.tr st41 ?_
                  show Dn p e below s _ _ _ T41 (mkF m 250 #[.val (.int x0), .val (.int x1), .val (.int x2), .val (.int x3), .val (.int x4), .val (.int (5 : Int32)), .val (.int ff), .val (.ref b1), .val (.int us), .val (.int ss), .val (.int (own_exp (own_Q5 ff x0 x1 f1 us) 5 ss)), .val (.ref b2)] [(.int (own_has (own_Q5 ff x0 x1 f1 us) 5 ss))])
                  refine Dn.st (fun t q => XS.iload X41.here hx rfl (hb hby at_250) rfl  q) ?_
                  show Dn p e below s _ _ _ T41 (mkF m 252 #[.val (.int x0), .val (.int x1), .val (.int x2), .val (.int x3), .val (.int x4), .val (.int (5 : Int32)), .val (.int ff), .val (.ref b1), .val (.int us), .val (.int ss), .val (.int (own_exp (own_Q5 ff x0 x1 f1 us) 5 ss)), .val (.ref b2)] [(.int (own_exp (own_Q5 ff x0 x1 f1 us) 5 ss)), (.int (own_has (own_Q5 ff x0 x1 f1 us) 5 ss))])
                  refine Dn.st (fun t q => XS.icmpNo X41.here hx rfl (hb hby at_252) rfl (teq (own_hasexp hok hs1)).2 q) ?_
                  show Dn p e below s _ _ _ T41 (mkF m 255 #[.val (.int x0), .val (.int x1), .val (.int x2), .val (.int x3), .val (.int x4), .val (.int (5 : Int32)), .val (.int ff), .val (.ref b1), .val (.int us), .val (.int ss), .val (.int (own_exp (own_Q5 ff x0 x1 f1 us) 5 ss)), .val (.ref b2)] [])
                  refine Dn.st (fun t q => XS.iconst X41.here hx rfl (hb hby at_255) q) ?_
                  show Dn p e below s _ _ _ T41 (mkF m 256 #[.val (.int x0), .val (.int x1), .val (.int x2), .val (.int x3), .val (.int x4), .val (.int (5 : Int32)), .val (.int ff), .val (.ref b1), .val (.int us), .val (.int ss), .val (.int (own_exp (own_Q5 ff x0 x1 f1 us) 5 ss)), .val (.ref b2)] [(.int (1 : Int32))])
                  refine Dn.st (fun t q => XS.goto X41.here hx rfl (pc0 := 256) (pc' := 260) rfl (hb hby at_256) (by decide) (by decide) q) ?_
                  show Dn p e below s _ _ _ T41 (mkF m 260 #[.val (.int x0), .val (.int x1), .val (.int x2), .val (.int x3), .val (.int x4), .val (.int (5 : Int32)), .val (.int ff), .val (.ref b1), .val (.int us), .val (.int ss), .val (.int (own_exp (own_Q5 ff x0 x1 f1 us) 5 ss)), .val (.ref b2)] [(.int (1 : Int32))])
                  exact Dn.retZ X41 hx Bd.notSynchronized (t := .boolean) Bd.returns (by simp) (hb hby at_260) (by rw [e41]; exact ⟨rfl, N0⟩) (by decide) (by decide)
                by_cases e1 : ss < (5 : Int32)
                · refine Dn.st (fun t q => XS.icmpNo X38.here hx rfl (hb hby at_213) rfl (tlt e1).2.1 q) ?_
                  show Dn p e below s _ _ _ T38 (mkF m 216 #[.val (.int x0), .val (.int x1), .val (.int x2), .val (.int x3), .val (.int x4), .val (.int (5 : Int32)), .val (.int ff), .val (.ref b1), .val (.int us), .val (.int ss), .unset, .unset] [])
                  refine Dn.st (fun t q => XS.aload X38.here hx rfl (hb hby at_216) rfl rfl  q) ?_
                  show Dn p e below s _ _ _ T38 (mkF m 218 #[.val (.int x0), .val (.int x1), .val (.int x2), .val (.int x3), .val (.int x4), .val (.int (5 : Int32)), .val (.int ff), .val (.ref b1), .val (.int us), .val (.int ss), .unset, .unset] [(.ref b1)])
                  refine Dn.st (fun t q => XS.iload X38.here hx rfl (hb hby at_218) rfl  q) ?_
                  show Dn p e below s _ _ _ T38 (mkF m 220 #[.val (.int x0), .val (.int x1), .val (.int x2), .val (.int x3), .val (.int x4), .val (.int (5 : Int32)), .val (.int ff), .val (.ref b1), .val (.int us), .val (.int ss), .unset, .unset] [(.int ss), (.ref b1)])
                  refine Dn.st (aLoadI (w := (fun x => ((own_Q5 ff x0 x1 f1 us) x))) X38 hx hZ e38 A_b1 (i := s1) hs1 (own_lt1 hs1 (by decide) e1) (g := (mkF m 220 #[.val (.int x0), .val (.int x1), .val (.int x2), .val (.int x3), .val (.int x4), .val (.int (5 : Int32)), .val (.int ff), .val (.ref b1), .val (.int us), .val (.int ss), .unset, .unset] [(.int ss), (.ref b1)])) rfl rfl (hb hby at_220)) ?_
                  show Dn p e below s _ _ _ T38 (mkF m 221 #[.val (.int x0), .val (.int x1), .val (.int x2), .val (.int x3), .val (.int x4), .val (.int (5 : Int32)), .val (.int ff), .val (.ref b1), .val (.int us), .val (.int ss), .unset, .unset] [(.int ((own_Q5 ff x0 x1 f1 us) (s1)))])
                  by_cases e2 : ((own_Q5 ff x0 x1 f1 us) (s1)) = (0 : Int32)
                  · refine Dn.st (fun t q => XS.ifYes X38.here hx rfl (pc0 := 221) (pc' := 228) rfl (hb hby at_221) rfl ((if0 _ _).trans (teq e2).1) (by decide) (by decide) q) ?_
                    show Dn p e below s _ _ _ T38 (mkF m 228 #[.val (.int x0), .val (.int x1), .val (.int x2), .val (.int x3), .val (.int x4), .val (.int (5 : Int32)), .val (.int ff), .val (.ref b1), .val (.int us), .val (.int ss), .unset, .unset] [])
                    refine Dn.st (fun t q => XS.iconst X38.here hx rfl (hb hby at_228) q) ?_
                    show Dn p e below s _ _ _ T38 (mkF m 229 #[.val (.int x0), .val (.int x1), .val (.int x2), .val (.int x3), .val (.int x4), .val (.int (5 : Int32)), .val (.int ff), .val (.ref b1), .val (.int us), .val (.int ss), .unset, .unset] [(.int (0 : Int32))])
                    rw [show (0 : Int32) = (own_exp (own_Q5 ff x0 x1 f1 us) 5 ss) from (own_exp_0 hs1 e1 e2)]
                    show Dn p e below s _ _ _ T38 (mkF m 229 #[.val (.int x0), .val (.int x1), .val (.int x2), .val (.int x3), .val (.int x4), .val (.int (5 : Int32)), .val (.int ff), .val (.ref b1), .val (.int us), .val (.int ss), .unset, .unset] [(.int (own_exp (own_Q5 ff x0 x1 f1 us) 5 ss))])
                    exact je
                  · refine Dn.st (fun t q => XS.ifNo X38.here hx rfl (hb hby at_221) rfl ((if0 _ _).trans (feq e2).1) q) ?_
                    show Dn p e below s _ _ _ T38 (mkF m 224 #[.val (.int x0), .val (.int x1), .val (.int x2), .val (.int x3), .val (.int x4), .val (.int (5 : Int32)), .val (.int ff), .val (.ref b1), .val (.int us), .val (.int ss), .unset, .unset] [])
                    refine Dn.st (fun t q => XS.iconst X38.here hx rfl (hb hby at_224) q) ?_
                    show Dn p e below s _ _ _ T38 (mkF m 225 #[.val (.int x0), .val (.int x1), .val (.int x2), .val (.int x3), .val (.int x4), .val (.int (5 : Int32)), .val (.int ff), .val (.ref b1), .val (.int us), .val (.int ss), .unset, .unset] [(.int (1 : Int32))])
                    refine Dn.st (fun t q => XS.goto X38.here hx rfl (pc0 := 225) (pc' := 229) rfl (hb hby at_225) (by decide) (by decide) q) ?_
                    show Dn p e below s _ _ _ T38 (mkF m 229 #[.val (.int x0), .val (.int x1), .val (.int x2), .val (.int x3), .val (.int x4), .val (.int (5 : Int32)), .val (.int ff), .val (.ref b1), .val (.int us), .val (.int ss), .unset, .unset] [(.int (1 : Int32))])
                    rw [show (1 : Int32) = (own_exp (own_Q5 ff x0 x1 f1 us) 5 ss) from (own_exp_1 hs1 e1 e2)]
                    show Dn p e below s _ _ _ T38 (mkF m 229 #[.val (.int x0), .val (.int x1), .val (.int x2), .val (.int x3), .val (.int x4), .val (.int (5 : Int32)), .val (.int ff), .val (.ref b1), .val (.int us), .val (.int ss), .unset, .unset] [(.int (own_exp (own_Q5 ff x0 x1 f1 us) 5 ss))])
                    exact je
                · refine Dn.st (fun t q => XS.icmpYes X38.here hx rfl (pc0 := 213) (pc' := 228) rfl (hb hby at_213) rfl (flt e1).2.1 (by decide) (by decide) q) ?_
                  show Dn p e below s _ _ _ T38 (mkF m 228 #[.val (.int x0), .val (.int x1), .val (.int x2), .val (.int x3), .val (.int x4), .val (.int (5 : Int32)), .val (.int ff), .val (.ref b1), .val (.int us), .val (.int ss), .unset, .unset] [])
                  refine Dn.st (fun t q => XS.iconst X38.here hx rfl (hb hby at_228) q) ?_
                  show Dn p e below s _ _ _ T38 (mkF m 229 #[.val (.int x0), .val (.int x1), .val (.int x2), .val (.int x3), .val (.int x4), .val (.int (5 : Int32)), .val (.int ff), .val (.ref b1), .val (.int us), .val (.int ss), .unset, .unset] [(.int (0 : Int32))])
                  rw [show (0 : Int32) = (own_exp (own_Q5 ff x0 x1 f1 us) 5 ss) from (own_exp_n e1)]
                  show Dn p e below s _ _ _ T38 (mkF m 229 #[.val (.int x0), .val (.int x1), .val (.int x2), .val (.int x3), .val (.int x4), .val (.int (5 : Int32)), .val (.int ff), .val (.ref b1), .val (.int us), .val (.int ss), .unset, .unset] [(.int (own_exp (own_Q5 ff x0 x1 f1 us) 5 ss))])
                  exact je
              by_cases hc : (x3 &&& (2 : Int32)) = (0 : Int32)
              · refine Dn.st (fun t q => XS.ifYes X38.here hx rfl (pc0 := 191) (pc' := 202) rfl (hb hby at_191) rfl ((if0 _ _).trans (teq hc).1) (by decide) (by decide) q) ?_
                show Dn p e below s _ _ _ T38 (mkF m 202 #[.val (.int x0), .val (.int x1), .val (.int x2), .val (.int x3), .val (.int x4), .val (.int (5 : Int32)), .val (.int ff), .val (.ref b1), .val (.int us), .unset, .unset, .unset] [])
                refine Dn.st (fun t q => XS.iload X38.here hx rfl (hb hby at_202) rfl  q) ?_
                show Dn p e below s _ _ _ T38 (mkF m 204 #[.val (.int x0), .val (.int x1), .val (.int x2), .val (.int x3), .val (.int x4), .val (.int (5 : Int32)), .val (.int ff), .val (.ref b1), .val (.int us), .unset, .unset, .unset] [(.int x4)])
                refine Dn.st (fun t q => XS.bipush X38.here hx rfl (hb hby at_204) q) ?_
                show Dn p e below s _ _ _ T38 (mkF m 206 #[.val (.int x0), .val (.int x1), .val (.int x2), .val (.int x3), .val (.int x4), .val (.int (5 : Int32)), .val (.int ff), .val (.ref b1), .val (.int us), .unset, .unset, .unset] [(.int (7 : Int32)), (.int x4)])
                refine Dn.st (fun t q => XS.iand X38.here hx rfl (hb hby at_206) rfl q) ?_
                show Dn p e below s _ _ _ T38 (mkF m 207 #[.val (.int x0), .val (.int x1), .val (.int x2), .val (.int x3), .val (.int x4), .val (.int (5 : Int32)), .val (.int ff), .val (.ref b1), .val (.int us), .unset, .unset, .unset] [(.int (x4 &&& (7 : Int32)))])
                rw [show (x4 &&& (7 : Int32)) = (own_s x3 x4) from (own_s_y hc)]
                show Dn p e below s _ _ _ T38 (mkF m 207 #[.val (.int x0), .val (.int x1), .val (.int x2), .val (.int x3), .val (.int x4), .val (.int (5 : Int32)), .val (.int ff), .val (.ref b1), .val (.int us), .unset, .unset, .unset] [(.int (own_s x3 x4))])
                exact jq
              · refine Dn.st (fun t q => XS.ifNo X38.here hx rfl (hb hby at_191) rfl ((if0 _ _).trans (feq hc).1) q) ?_
                show Dn p e below s _ _ _ T38 (mkF m 194 #[.val (.int x0), .val (.int x1), .val (.int x2), .val (.int x3), .val (.int x4), .val (.int (5 : Int32)), .val (.int ff), .val (.ref b1), .val (.int us), .unset, .unset, .unset] [])
                refine Dn.st (fun t q => XS.iload X38.here hx rfl (hb hby at_194) rfl  q) ?_
                show Dn p e below s _ _ _ T38 (mkF m 196 #[.val (.int x0), .val (.int x1), .val (.int x2), .val (.int x3), .val (.int x4), .val (.int (5 : Int32)), .val (.int ff), .val (.ref b1), .val (.int us), .unset, .unset, .unset] [(.int x4)])
                refine Dn.st (X38.ldcInt hx hown (mvT hZ (hw _ (List.mem_of_getElem? (i := 0) rfl))) (g := (mkF m 196 #[.val (.int x0), .val (.int x1), .val (.int x2), .val (.int x3), .val (.int x4), .val (.int (5 : Int32)), .val (.int ff), .val (.ref b1), .val (.int us), .unset, .unset, .unset] [(.int x4)])) rfl (hb hby at_196)) ?_
                show Dn p e below s _ _ _ T38 (mkF m 198 #[.val (.int x0), .val (.int x1), .val (.int x2), .val (.int x3), .val (.int x4), .val (.int (5 : Int32)), .val (.int ff), .val (.ref b1), .val (.int us), .unset, .unset, .unset] [(.int (2147483647 : Int32)), (.int x4)])
                refine Dn.st (fun t q => XS.iand X38.here hx rfl (hb hby at_198) rfl q) ?_
                show Dn p e below s _ _ _ T38 (mkF m 199 #[.val (.int x0), .val (.int x1), .val (.int x2), .val (.int x3), .val (.int x4), .val (.int (5 : Int32)), .val (.int ff), .val (.ref b1), .val (.int us), .unset, .unset, .unset] [(.int (x4 &&& (2147483647 : Int32)))])
                refine Dn.st (fun t q => XS.goto X38.here hx rfl (pc0 := 199) (pc' := 207) rfl (hb hby at_199) (by decide) (by decide) q) ?_
                show Dn p e below s _ _ _ T38 (mkF m 207 #[.val (.int x0), .val (.int x1), .val (.int x2), .val (.int x3), .val (.int x4), .val (.int (5 : Int32)), .val (.int ff), .val (.ref b1), .val (.int us), .unset, .unset, .unset] [(.int (x4 &&& (2147483647 : Int32)))])
                rw [show (x4 &&& (2147483647 : Int32)) = (own_s x3 x4) from (own_s_n hc)]
                show Dn p e below s _ _ _ T38 (mkF m 207 #[.val (.int x0), .val (.int x1), .val (.int x2), .val (.int x3), .val (.int x4), .val (.int (5 : Int32)), .val (.int ff), .val (.ref b1), .val (.int us), .unset, .unset, .unset] [(.int (own_s x3 x4))])
                exact jq
            by_cases hc : ff = (4 : Int32)
            · refine Dn.st (fun t q => XS.icmpNo X30.here hx rfl (hb hby at_113) rfl (teq hc).2 q) ?_
              show Dn p e below s _ _ _ T30 (mkF m 116 #[.val (.int x0), .val (.int x1), .val (.int x2), .val (.int x3), .val (.int x4), .val (.int (5 : Int32)), .val (.int ff), .val (.ref b1), .unset, .unset, .unset, .unset] [(.int (4 : Int32)), (.ref b1)])
              refine Dn.st (fun t q => XS.iconst X30.here hx rfl (hb hby at_116) q) ?_
              show Dn p e below s _ _ _ T30 (mkF m 117 #[.val (.int x0), .val (.int x1), .val (.int x2), .val (.int x3), .val (.int x4), .val (.int (5 : Int32)), .val (.int ff), .val (.ref b1), .unset, .unset, .unset, .unset] [(.int (0 : Int32)), (.int (4 : Int32)), (.ref b1)])
              refine Dn.st (fun t q => XS.goto X30.here hx rfl (pc0 := 117) (pc' := 126) rfl (hb hby at_117) (by decide) (by decide) q) ?_
              show Dn p e below s _ _ _ T30 (mkF m 126 #[.val (.int x0), .val (.int x1), .val (.int x2), .val (.int x3), .val (.int x4), .val (.int (5 : Int32)), .val (.int ff), .val (.ref b1), .unset, .unset, .unset, .unset] [(.int (0 : Int32)), (.int (4 : Int32)), (.ref b1)])
              rw [show (0 : Int32) = (own_pv ff x0 x1 (4 : Int32)) from (own_pv_y hc)]
              show Dn p e below s _ _ _ T30 (mkF m 126 #[.val (.int x0), .val (.int x1), .val (.int x2), .val (.int x3), .val (.int x4), .val (.int (5 : Int32)), .val (.int ff), .val (.ref b1), .unset, .unset, .unset, .unset] [(.int (own_pv ff x0 x1 (4 : Int32))), (.int (4 : Int32)), (.ref b1)])
              exact js4 _ _ X30 e30 N0
            · refine Dn.st (fun t q => XS.icmpYes X30.here hx rfl (pc0 := 113) (pc' := 120) rfl (hb hby at_113) rfl (feq hc).2 (by decide) (by decide) q) ?_
              show Dn p e below s _ _ _ T30 (mkF m 120 #[.val (.int x0), .val (.int x1), .val (.int x2), .val (.int x3), .val (.int x4), .val (.int (5 : Int32)), .val (.int ff), .val (.ref b1), .unset, .unset, .unset, .unset] [(.int (4 : Int32)), (.ref b1)])
              refine Dn.st (fun t q => XS.iloadN X30.here hx rfl (hb hby at_120) rfl  q) ?_
              show Dn p e below s _ _ _ T30 (mkF m 121 #[.val (.int x0), .val (.int x1), .val (.int x2), .val (.int x3), .val (.int x4), .val (.int (5 : Int32)), .val (.int ff), .val (.ref b1), .unset, .unset, .unset, .unset] [(.int x0), (.int (4 : Int32)), (.ref b1)])
              refine Dn.st (fun t q => XS.iloadN X30.here hx rfl (hb hby at_121) rfl  q) ?_
              show Dn p e below s _ _ _ T30 (mkF m 122 #[.val (.int x0), .val (.int x1), .val (.int x2), .val (.int x3), .val (.int x4), .val (.int (5 : Int32)), .val (.int ff), .val (.ref b1), .unset, .unset, .unset, .unset] [(.int x1), (.int x0), (.int (4 : Int32)), (.ref b1)])
              refine Dn.st (fun t q => XS.iconst X30.here hx rfl (hb hby at_122) q) ?_
              show Dn p e below s _ _ _ T30 (mkF m 123 #[.val (.int x0), .val (.int x1), .val (.int x2), .val (.int x3), .val (.int x4), .val (.int (5 : Int32)), .val (.int ff), .val (.ref b1), .unset, .unset, .unset, .unset] [(.int (4 : Int32)), (.int x1), (.int x0), (.int (4 : Int32)), (.ref b1)])
              obtain ⟨_, _, ⟨T42, Lq42, kq_42, nq_42⟩, -, X42, ⟨Lc42, hQ42, lq42, yq42, zq42⟩, st42⟩ := Jvm.LawKit.callS X30 hx (y := (⟨"keyfold/FseHasPinLaw", "draw", "(III)I"⟩ : MethodName)) hown (mvT hZ (hw _ (List.mem_of_getElem? (i := 2) rfl))) (mvT hZ (hw _ (List.mem_of_getElem? (i := 3) rfl))) (mvT hZ (hw _ (List.mem_of_getElem? (i := 4) rfl))) (mvT hZ (hw _ (List.mem_of_getElem? (i := 5) rfl))) (by decide) (backOf (W := 2) (rm1 l Z a0 hw [] x0 x1 (4 : Int32)  h30 n0 Z0 ) hZ (hw _ (List.mem_of_getElem? (i := 5) rfl)) (hw _ (List.mem_of_getElem? (i := 4) rfl)) (by decide) (by decide)) (g := (mkF m 123 #[.val (.int x0), .val (.int x1), .val (.int x2), .val (.int x3), .val (.int x4), .val (.int (5 : Int32)), .val (.int ff), .val (.ref b1), .unset, .unset, .unset, .unset] [(.int (4 : Int32)), (.int x1), (.int x0), (.int (4 : Int32)), (.ref b1)])) rfl (by rw [hml]; rfl) (argsL := [(.int x0), (.int x1), (.int (4 : Int32))]) (rest := [(.int (4 : Int32)), (.ref b1)]) (lenOf pd_3 rfl) rfl (by show 2 * 0 + _ ≤ _; exact Nat.le_of_eq rfl) (hb hby at_123) (fun _ _ => ⟨rfl, e30, (by decide : 1 + 0 ≤ _), (by decide : 5 + 0 ≤ _)⟩)
              dsimp only [Pt.U, Pt.locs, Pt.cells, Pt.slots] at X42 lq42 yq42 zq42 st42 hQ42
              subst lq42 yq42 zq42
              obtain ⟨rfl, N42q, hq42⟩ := hQ42
              have N0 := Fr.app N0 N42q
              have e42 : T42.heap = h30 := hq42
              refine Dn.st st42 ?_
              show Dn p e below s _ _ _ T42 (mkF m 126 #[.val (.int x0), .val (.int x1), .val (.int x2), .val (.int x3), .val (.int x4), .val (.int (5 : Int32)), .val (.int ff), .val (.ref b1), .unset, .unset, .unset, .unset] [(.int (own_draw x0 x1 (4 : Int32))), (.int (4 : Int32)), (.ref b1)])
              rw [show (own_draw x0 x1 (4 : Int32)) = (own_pv ff x0 x1 (4 : Int32)) from (own_pv_n hc)]
              show Dn p e below s _ _ _ T42 (mkF m 126 #[.val (.int x0), .val (.int x1), .val (.int x2), .val (.int x3), .val (.int x4), .val (.int (5 : Int32)), .val (.int ff), .val (.ref b1), .unset, .unset, .unset, .unset] [(.int (own_pv ff x0 x1 (4 : Int32))), (.int (4 : Int32)), (.ref b1)])
              exact js4 _ _ X42 e42 N0
          by_cases hc : ff = (3 : Int32)
          · refine Dn.st (fun t q => XS.icmpNo X28.here hx rfl (hb hby at_87) rfl (teq hc).2 q) ?_
            show Dn p e below s _ _ _ T28 (mkF m 90 #[.val (.int x0), .val (.int x1), .val (.int x2), .val (.int x3), .val (.int x4), .val (.int (5 : Int32)), .val (.int ff), .val (.ref b1), .unset, .unset, .unset, .unset] [(.int (3 : Int32)), (.ref b1)])
            refine Dn.st (fun t q => XS.iconst X28.here hx rfl (hb hby at_90) q) ?_
            show Dn p e below s _ _ _ T28 (mkF m 91 #[.val (.int x0), .val (.int x1), .val (.int x2), .val (.int x3), .val (.int x4), .val (.int (5 : Int32)), .val (.int ff), .val (.ref b1), .unset, .unset, .unset, .unset] [(.int (0 : Int32)), (.int (3 : Int32)), (.ref b1)])
            refine Dn.st (fun t q => XS.goto X28.here hx rfl (pc0 := 91) (pc' := 100) rfl (hb hby at_91) (by decide) (by decide) q) ?_
            show Dn p e below s _ _ _ T28 (mkF m 100 #[.val (.int x0), .val (.int x1), .val (.int x2), .val (.int x3), .val (.int x4), .val (.int (5 : Int32)), .val (.int ff), .val (.ref b1), .unset, .unset, .unset, .unset] [(.int (0 : Int32)), (.int (3 : Int32)), (.ref b1)])
            rw [show (0 : Int32) = (own_pv ff x0 x1 (3 : Int32)) from (own_pv_y hc)]
            show Dn p e below s _ _ _ T28 (mkF m 100 #[.val (.int x0), .val (.int x1), .val (.int x2), .val (.int x3), .val (.int x4), .val (.int (5 : Int32)), .val (.int ff), .val (.ref b1), .unset, .unset, .unset, .unset] [(.int (own_pv ff x0 x1 (3 : Int32))), (.int (3 : Int32)), (.ref b1)])
            exact js3 _ _ X28 e28 N0
          · refine Dn.st (fun t q => XS.icmpYes X28.here hx rfl (pc0 := 87) (pc' := 94) rfl (hb hby at_87) rfl (feq hc).2 (by decide) (by decide) q) ?_
            show Dn p e below s _ _ _ T28 (mkF m 94 #[.val (.int x0), .val (.int x1), .val (.int x2), .val (.int x3), .val (.int x4), .val (.int (5 : Int32)), .val (.int ff), .val (.ref b1), .unset, .unset, .unset, .unset] [(.int (3 : Int32)), (.ref b1)])
            refine Dn.st (fun t q => XS.iloadN X28.here hx rfl (hb hby at_94) rfl  q) ?_
            show Dn p e below s _ _ _ T28 (mkF m 95 #[.val (.int x0), .val (.int x1), .val (.int x2), .val (.int x3), .val (.int x4), .val (.int (5 : Int32)), .val (.int ff), .val (.ref b1), .unset, .unset, .unset, .unset] [(.int x0), (.int (3 : Int32)), (.ref b1)])
            refine Dn.st (fun t q => XS.iloadN X28.here hx rfl (hb hby at_95) rfl  q) ?_
            show Dn p e below s _ _ _ T28 (mkF m 96 #[.val (.int x0), .val (.int x1), .val (.int x2), .val (.int x3), .val (.int x4), .val (.int (5 : Int32)), .val (.int ff), .val (.ref b1), .unset, .unset, .unset, .unset] [(.int x1), (.int x0), (.int (3 : Int32)), (.ref b1)])
            refine Dn.st (fun t q => XS.iconst X28.here hx rfl (hb hby at_96) q) ?_
            show Dn p e below s _ _ _ T28 (mkF m 97 #[.val (.int x0), .val (.int x1), .val (.int x2), .val (.int x3), .val (.int x4), .val (.int (5 : Int32)), .val (.int ff), .val (.ref b1), .unset, .unset, .unset, .unset] [(.int (3 : Int32)), (.int x1), (.int x0), (.int (3 : Int32)), (.ref b1)])
            obtain ⟨_, _, ⟨T43, Lq43, kq_43, nq_43⟩, -, X43, ⟨Lc43, hQ43, lq43, yq43, zq43⟩, st43⟩ := Jvm.LawKit.callS X28 hx (y := (⟨"keyfold/FseHasPinLaw", "draw", "(III)I"⟩ : MethodName)) hown (mvT hZ (hw _ (List.mem_of_getElem? (i := 2) rfl))) (mvT hZ (hw _ (List.mem_of_getElem? (i := 3) rfl))) (mvT hZ (hw _ (List.mem_of_getElem? (i := 4) rfl))) (mvT hZ (hw _ (List.mem_of_getElem? (i := 5) rfl))) (by decide) (backOf (W := 2) (rm1 l Z a0 hw [] x0 x1 (3 : Int32)  h28 n0 Z0 ) hZ (hw _ (List.mem_of_getElem? (i := 5) rfl)) (hw _ (List.mem_of_getElem? (i := 4) rfl)) (by decide) (by decide)) (g := (mkF m 97 #[.val (.int x0), .val (.int x1), .val (.int x2), .val (.int x3), .val (.int x4), .val (.int (5 : Int32)), .val (.int ff), .val (.ref b1), .unset, .unset, .unset, .unset] [(.int (3 : Int32)), (.int x1), (.int x0), (.int (3 : Int32)), (.ref b1)])) rfl (by rw [hml]; rfl) (argsL := [(.int x0), (.int x1), (.int (3 : Int32))]) (rest := [(.int (3 : Int32)), (.ref b1)]) (lenOf pd_3 rfl) rfl (by show 2 * 0 + _ ≤ _; exact Nat.le_of_eq rfl) (hb hby at_97) (fun _ _ => ⟨rfl, e28, (by decide : 1 + 0 ≤ _), (by decide : 5 + 0 ≤ _)⟩)
            dsimp only [Pt.U, Pt.locs, Pt.cells, Pt.slots] at X43 lq43 yq43 zq43 st43 hQ43
            subst lq43 yq43 zq43
            obtain ⟨rfl, N43q, hq43⟩ := hQ43
            have N0 := Fr.app N0 N43q
            have e43 : T43.heap = h28 := hq43
            refine Dn.st st43 ?_
            show Dn p e below s _ _ _ T43 (mkF m 100 #[.val (.int x0), .val (.int x1), .val (.int x2), .val (.int x3), .val (.int x4), .val (.int (5 : Int32)), .val (.int ff), .val (.ref b1), .unset, .unset, .unset, .unset] [(.int (own_draw x0 x1 (3 : Int32))), (.int (3 : Int32)), (.ref b1)])
            rw [show (own_draw x0 x1 (3 : Int32)) = (own_pv ff x0 x1 (3 : Int32)) from (own_pv_n hc)]
            show Dn p e below s _ _ _ T43 (mkF m 100 #[.val (.int x0), .val (.int x1), .val (.int x2), .val (.int x3), .val (.int x4), .val (.int (5 : Int32)), .val (.int ff), .val (.ref b1), .unset, .unset, .unset, .unset] [(.int (own_pv ff x0 x1 (3 : Int32))), (.int (3 : Int32)), (.ref b1)])
            exact js3 _ _ X43 e43 N0
        by_cases hc : ff = (2 : Int32)
        · refine Dn.st (fun t q => XS.icmpNo X26.here hx rfl (hb hby at_67) rfl (teq hc).2 q) ?_
          show Dn p e below s _ _ _ T26 (mkF m 70 #[.val (.int x0), .val (.int x1), .val (.int x2), .val (.int x3), .val (.int x4), .val (.int (5 : Int32)), .val (.int ff), .val (.ref b1), .unset, .unset, .unset, .unset] [(.int (2 : Int32)), (.ref b1)])
          refine Dn.st (fun t q => XS.iconst X26.here hx rfl (hb hby at_70) q) ?_
          show Dn p e below s _ _ _ T26 (mkF m 71 #[.val (.int x0), .val (.int x1), .val (.int x2), .val (.int x3), .val (.int x4), .val (.int (5 : Int32)), .val (.int ff), .val (.ref b1), .unset, .unset, .unset, .unset] [(.int (0 : Int32)), (.int (2 : Int32)), (.ref b1)])
          refine Dn.st (fun t q => XS.goto X26.here hx rfl (pc0 := 71) (pc' := 80) rfl (hb hby at_71) (by decide) (by decide) q) ?_
          show Dn p e below s _ _ _ T26 (mkF m 80 #[.val (.int x0), .val (.int x1), .val (.int x2), .val (.int x3), .val (.int x4), .val (.int (5 : Int32)), .val (.int ff), .val (.ref b1), .unset, .unset, .unset, .unset] [(.int (0 : Int32)), (.int (2 : Int32)), (.ref b1)])
          rw [show (0 : Int32) = (own_pv ff x0 x1 (2 : Int32)) from (own_pv_y hc)]
          show Dn p e below s _ _ _ T26 (mkF m 80 #[.val (.int x0), .val (.int x1), .val (.int x2), .val (.int x3), .val (.int x4), .val (.int (5 : Int32)), .val (.int ff), .val (.ref b1), .unset, .unset, .unset, .unset] [(.int (own_pv ff x0 x1 (2 : Int32))), (.int (2 : Int32)), (.ref b1)])
          exact js2 _ _ X26 e26 N0
        · refine Dn.st (fun t q => XS.icmpYes X26.here hx rfl (pc0 := 67) (pc' := 74) rfl (hb hby at_67) rfl (feq hc).2 (by decide) (by decide) q) ?_
          show Dn p e below s _ _ _ T26 (mkF m 74 #[.val (.int x0), .val (.int x1), .val (.int x2), .val (.int x3), .val (.int x4), .val (.int (5 : Int32)), .val (.int ff), .val (.ref b1), .unset, .unset, .unset, .unset] [(.int (2 : Int32)), (.ref b1)])
          refine Dn.st (fun t q => XS.iloadN X26.here hx rfl (hb hby at_74) rfl  q) ?_
          show Dn p e below s _ _ _ T26 (mkF m 75 #[.val (.int x0), .val (.int x1), .val (.int x2), .val (.int x3), .val (.int x4), .val (.int (5 : Int32)), .val (.int ff), .val (.ref b1), .unset, .unset, .unset, .unset] [(.int x0), (.int (2 : Int32)), (.ref b1)])
          refine Dn.st (fun t q => XS.iloadN X26.here hx rfl (hb hby at_75) rfl  q) ?_
          show Dn p e below s _ _ _ T26 (mkF m 76 #[.val (.int x0), .val (.int x1), .val (.int x2), .val (.int x3), .val (.int x4), .val (.int (5 : Int32)), .val (.int ff), .val (.ref b1), .unset, .unset, .unset, .unset] [(.int x1), (.int x0), (.int (2 : Int32)), (.ref b1)])
          refine Dn.st (fun t q => XS.iconst X26.here hx rfl (hb hby at_76) q) ?_
          show Dn p e below s _ _ _ T26 (mkF m 77 #[.val (.int x0), .val (.int x1), .val (.int x2), .val (.int x3), .val (.int x4), .val (.int (5 : Int32)), .val (.int ff), .val (.ref b1), .unset, .unset, .unset, .unset] [(.int (2 : Int32)), (.int x1), (.int x0), (.int (2 : Int32)), (.ref b1)])
          obtain ⟨_, _, ⟨T44, Lq44, kq_44, nq_44⟩, -, X44, ⟨Lc44, hQ44, lq44, yq44, zq44⟩, st44⟩ := Jvm.LawKit.callS X26 hx (y := (⟨"keyfold/FseHasPinLaw", "draw", "(III)I"⟩ : MethodName)) hown (mvT hZ (hw _ (List.mem_of_getElem? (i := 2) rfl))) (mvT hZ (hw _ (List.mem_of_getElem? (i := 3) rfl))) (mvT hZ (hw _ (List.mem_of_getElem? (i := 4) rfl))) (mvT hZ (hw _ (List.mem_of_getElem? (i := 5) rfl))) (by decide) (backOf (W := 2) (rm1 l Z a0 hw [] x0 x1 (2 : Int32)  h26 n0 Z0 ) hZ (hw _ (List.mem_of_getElem? (i := 5) rfl)) (hw _ (List.mem_of_getElem? (i := 4) rfl)) (by decide) (by decide)) (g := (mkF m 77 #[.val (.int x0), .val (.int x1), .val (.int x2), .val (.int x3), .val (.int x4), .val (.int (5 : Int32)), .val (.int ff), .val (.ref b1), .unset, .unset, .unset, .unset] [(.int (2 : Int32)), (.int x1), (.int x0), (.int (2 : Int32)), (.ref b1)])) rfl (by rw [hml]; rfl) (argsL := [(.int x0), (.int x1), (.int (2 : Int32))]) (rest := [(.int (2 : Int32)), (.ref b1)]) (lenOf pd_3 rfl) rfl (by show 2 * 0 + _ ≤ _; exact Nat.le_of_eq rfl) (hb hby at_77) (fun _ _ => ⟨rfl, e26, (by decide : 1 + 0 ≤ _), (by decide : 5 + 0 ≤ _)⟩)
          dsimp only [Pt.U, Pt.locs, Pt.cells, Pt.slots] at X44 lq44 yq44 zq44 st44 hQ44
          subst lq44 yq44 zq44
          obtain ⟨rfl, N44q, hq44⟩ := hQ44
          have N0 := Fr.app N0 N44q
          have e44 : T44.heap = h26 := hq44
          refine Dn.st st44 ?_
          show Dn p e below s _ _ _ T44 (mkF m 80 #[.val (.int x0), .val (.int x1), .val (.int x2), .val (.int x3), .val (.int x4), .val (.int (5 : Int32)), .val (.int ff), .val (.ref b1), .unset, .unset, .unset, .unset] [(.int (own_draw x0 x1 (2 : Int32))), (.int (2 : Int32)), (.ref b1)])
          rw [show (own_draw x0 x1 (2 : Int32)) = (own_pv ff x0 x1 (2 : Int32)) from (own_pv_n hc)]
          show Dn p e below s _ _ _ T44 (mkF m 80 #[.val (.int x0), .val (.int x1), .val (.int x2), .val (.int x3), .val (.int x4), .val (.int (5 : Int32)), .val (.int ff), .val (.ref b1), .unset, .unset, .unset, .unset] [(.int (own_pv ff x0 x1 (2 : Int32))), (.int (2 : Int32)), (.ref b1)])
          exact js2 _ _ X44 e44 N0
      by_cases hc : ff = (1 : Int32)
      · refine Dn.st (fun t q => XS.icmpNo X24.here hx rfl (hb hby at_47) rfl (teq hc).2 q) ?_
        show Dn p e below s _ _ _ T24 (mkF m 50 #[.val (.int x0), .val (.int x1), .val (.int x2), .val (.int x3), .val (.int x4), .val (.int (5 : Int32)), .val (.int ff), .val (.ref b1), .unset, .unset, .unset, .unset] [(.int (1 : Int32)), (.ref b1)])
        refine Dn.st (fun t q => XS.iconst X24.here hx rfl (hb hby at_50) q) ?_
        show Dn p e below s _ _ _ T24 (mkF m 51 #[.val (.int x0), .val (.int x1), .val (.int x2), .val (.int x3), .val (.int x4), .val (.int (5 : Int32)), .val (.int ff), .val (.ref b1), .unset, .unset, .unset, .unset] [(.int (0 : Int32)), (.int (1 : Int32)), (.ref b1)])
        refine Dn.st (fun t q => XS.goto X24.here hx rfl (pc0 := 51) (pc' := 60) rfl (hb hby at_51) (by decide) (by decide) q) ?_
        show Dn p e below s _ _ _ T24 (mkF m 60 #[.val (.int x0), .val (.int x1), .val (.int x2), .val (.int x3), .val (.int x4), .val (.int (5 : Int32)), .val (.int ff), .val (.ref b1), .unset, .unset, .unset, .unset] [(.int (0 : Int32)), (.int (1 : Int32)), (.ref b1)])
        rw [show (0 : Int32) = (own_pv ff x0 x1 (1 : Int32)) from (own_pv_y hc)]
        show Dn p e below s _ _ _ T24 (mkF m 60 #[.val (.int x0), .val (.int x1), .val (.int x2), .val (.int x3), .val (.int x4), .val (.int (5 : Int32)), .val (.int ff), .val (.ref b1), .unset, .unset, .unset, .unset] [(.int (own_pv ff x0 x1 (1 : Int32))), (.int (1 : Int32)), (.ref b1)])
        exact js1 _ _ X24 e24 N0
      · refine Dn.st (fun t q => XS.icmpYes X24.here hx rfl (pc0 := 47) (pc' := 54) rfl (hb hby at_47) rfl (feq hc).2 (by decide) (by decide) q) ?_
        show Dn p e below s _ _ _ T24 (mkF m 54 #[.val (.int x0), .val (.int x1), .val (.int x2), .val (.int x3), .val (.int x4), .val (.int (5 : Int32)), .val (.int ff), .val (.ref b1), .unset, .unset, .unset, .unset] [(.int (1 : Int32)), (.ref b1)])
        refine Dn.st (fun t q => XS.iloadN X24.here hx rfl (hb hby at_54) rfl  q) ?_
        show Dn p e below s _ _ _ T24 (mkF m 55 #[.val (.int x0), .val (.int x1), .val (.int x2), .val (.int x3), .val (.int x4), .val (.int (5 : Int32)), .val (.int ff), .val (.ref b1), .unset, .unset, .unset, .unset] [(.int x0), (.int (1 : Int32)), (.ref b1)])
        refine Dn.st (fun t q => XS.iloadN X24.here hx rfl (hb hby at_55) rfl  q) ?_
        show Dn p e below s _ _ _ T24 (mkF m 56 #[.val (.int x0), .val (.int x1), .val (.int x2), .val (.int x3), .val (.int x4), .val (.int (5 : Int32)), .val (.int ff), .val (.ref b1), .unset, .unset, .unset, .unset] [(.int x1), (.int x0), (.int (1 : Int32)), (.ref b1)])
        refine Dn.st (fun t q => XS.iconst X24.here hx rfl (hb hby at_56) q) ?_
        show Dn p e below s _ _ _ T24 (mkF m 57 #[.val (.int x0), .val (.int x1), .val (.int x2), .val (.int x3), .val (.int x4), .val (.int (5 : Int32)), .val (.int ff), .val (.ref b1), .unset, .unset, .unset, .unset] [(.int (1 : Int32)), (.int x1), (.int x0), (.int (1 : Int32)), (.ref b1)])
        obtain ⟨_, _, ⟨T45, Lq45, kq_45, nq_45⟩, -, X45, ⟨Lc45, hQ45, lq45, yq45, zq45⟩, st45⟩ := Jvm.LawKit.callS X24 hx (y := (⟨"keyfold/FseHasPinLaw", "draw", "(III)I"⟩ : MethodName)) hown (mvT hZ (hw _ (List.mem_of_getElem? (i := 2) rfl))) (mvT hZ (hw _ (List.mem_of_getElem? (i := 3) rfl))) (mvT hZ (hw _ (List.mem_of_getElem? (i := 4) rfl))) (mvT hZ (hw _ (List.mem_of_getElem? (i := 5) rfl))) (by decide) (backOf (W := 2) (rm1 l Z a0 hw [] x0 x1 (1 : Int32)  h24 n0 Z0 ) hZ (hw _ (List.mem_of_getElem? (i := 5) rfl)) (hw _ (List.mem_of_getElem? (i := 4) rfl)) (by decide) (by decide)) (g := (mkF m 57 #[.val (.int x0), .val (.int x1), .val (.int x2), .val (.int x3), .val (.int x4), .val (.int (5 : Int32)), .val (.int ff), .val (.ref b1), .unset, .unset, .unset, .unset] [(.int (1 : Int32)), (.int x1), (.int x0), (.int (1 : Int32)), (.ref b1)])) rfl (by rw [hml]; rfl) (argsL := [(.int x0), (.int x1), (.int (1 : Int32))]) (rest := [(.int (1 : Int32)), (.ref b1)]) (lenOf pd_3 rfl) rfl (by show 2 * 0 + _ ≤ _; exact Nat.le_of_eq rfl) (hb hby at_57) (fun _ _ => ⟨rfl, e24, (by decide : 1 + 0 ≤ _), (by decide : 5 + 0 ≤ _)⟩)
        dsimp only [Pt.U, Pt.locs, Pt.cells, Pt.slots] at X45 lq45 yq45 zq45 st45 hQ45
        subst lq45 yq45 zq45
        obtain ⟨rfl, N45q, hq45⟩ := hQ45
        have N0 := Fr.app N0 N45q
        have e45 : T45.heap = h24 := hq45
        refine Dn.st st45 ?_
        show Dn p e below s _ _ _ T45 (mkF m 60 #[.val (.int x0), .val (.int x1), .val (.int x2), .val (.int x3), .val (.int x4), .val (.int (5 : Int32)), .val (.int ff), .val (.ref b1), .unset, .unset, .unset, .unset] [(.int (own_draw x0 x1 (1 : Int32))), (.int (1 : Int32)), (.ref b1)])
        rw [show (own_draw x0 x1 (1 : Int32)) = (own_pv ff x0 x1 (1 : Int32)) from (own_pv_n hc)]
        show Dn p e below s _ _ _ T45 (mkF m 60 #[.val (.int x0), .val (.int x1), .val (.int x2), .val (.int x3), .val (.int x4), .val (.int (5 : Int32)), .val (.int ff), .val (.ref b1), .unset, .unset, .unset, .unset] [(.int (own_pv ff x0 x1 (1 : Int32))), (.int (1 : Int32)), (.ref b1)])
        exact js1 _ _ X45 e45 N0
    by_cases hc : ff = (0 : Int32)
    · refine Dn.st (fun t q => XS.ifNo X22.here hx rfl (hb hby at_27) rfl ((if0 _ _).trans (teq hc).2) q) ?_
      show Dn p e below s _ _ _ T22 (mkF m 30 #[.val (.int x0), .val (.int x1), .val (.int x2), .val (.int x3), .val (.int x4), .val (.int (5 : Int32)), .val (.int ff), .val (.ref b1), .unset, .unset, .unset, .unset] [(.int (0 : Int32)), (.ref b1)])
      refine Dn.st (fun t q => XS.iconst X22.here hx rfl (hb hby at_30) q) ?_
      show Dn p e below s _ _ _ T22 (mkF m 31 #[.val (.int x0), .val (.int x1), .val (.int x2), .val (.int x3), .val (.int x4), .val (.int (5 : Int32)), .val (.int ff), .val (.ref b1), .unset, .unset, .unset, .unset] [(.int (0 : Int32)), (.int (0 : Int32)), (.ref b1)])
      refine Dn.st (fun t q => XS.goto X22.here hx rfl (pc0 := 31) (pc' := 40) rfl (hb hby at_31) (by decide) (by decide) q) ?_
      show Dn p e below s _ _ _ T22 (mkF m 40 #[.val (.int x0), .val (.int x1), .val (.int x2), .val (.int x3), .val (.int x4), .val (.int (5 : Int32)), .val (.int ff), .val (.ref b1), .unset, .unset, .unset, .unset] [(.int (0 : Int32)), (.int (0 : Int32)), (.ref b1)])
      have jq0 := js0 _ _ X22 e22 N0
      rw [show (own_pv ff x0 x1 (0 : Int32)) = (0 : Int32) from (own_pv_y hc).symm] at jq0
      exact jq0
    · refine Dn.st (fun t q => XS.ifYes X22.here hx rfl (pc0 := 27) (pc' := 34) rfl (hb hby at_27) rfl ((if0 _ _).trans (feq hc).2) (by decide) (by decide) q) ?_
      show Dn p e below s _ _ _ T22 (mkF m 34 #[.val (.int x0), .val (.int x1), .val (.int x2), .val (.int x3), .val (.int x4), .val (.int (5 : Int32)), .val (.int ff), .val (.ref b1), .unset, .unset, .unset, .unset] [(.int (0 : Int32)), (.ref b1)])
      refine Dn.st (fun t q => XS.iloadN X22.here hx rfl (hb hby at_34) rfl  q) ?_
      show Dn p e below s _ _ _ T22 (mkF m 35 #[.val (.int x0), .val (.int x1), .val (.int x2), .val (.int x3), .val (.int x4), .val (.int (5 : Int32)), .val (.int ff), .val (.ref b1), .unset, .unset, .unset, .unset] [(.int x0), (.int (0 : Int32)), (.ref b1)])
      refine Dn.st (fun t q => XS.iloadN X22.here hx rfl (hb hby at_35) rfl  q) ?_
      show Dn p e below s _ _ _ T22 (mkF m 36 #[.val (.int x0), .val (.int x1), .val (.int x2), .val (.int x3), .val (.int x4), .val (.int (5 : Int32)), .val (.int ff), .val (.ref b1), .unset, .unset, .unset, .unset] [(.int x1), (.int x0), (.int (0 : Int32)), (.ref b1)])
      refine Dn.st (fun t q => XS.iconst X22.here hx rfl (hb hby at_36) q) ?_
      show Dn p e below s _ _ _ T22 (mkF m 37 #[.val (.int x0), .val (.int x1), .val (.int x2), .val (.int x3), .val (.int x4), .val (.int (5 : Int32)), .val (.int ff), .val (.ref b1), .unset, .unset, .unset, .unset] [(.int (0 : Int32)), (.int x1), (.int x0), (.int (0 : Int32)), (.ref b1)])
      obtain ⟨_, _, ⟨T46, Lq46, kq_46, nq_46⟩, -, X46, ⟨Lc46, hQ46, lq46, yq46, zq46⟩, st46⟩ := Jvm.LawKit.callS X22 hx (y := (⟨"keyfold/FseHasPinLaw", "draw", "(III)I"⟩ : MethodName)) hown (mvT hZ (hw _ (List.mem_of_getElem? (i := 2) rfl))) (mvT hZ (hw _ (List.mem_of_getElem? (i := 3) rfl))) (mvT hZ (hw _ (List.mem_of_getElem? (i := 4) rfl))) (mvT hZ (hw _ (List.mem_of_getElem? (i := 5) rfl))) (by decide) (backOf (W := 2) (rm1 l Z a0 hw [] x0 x1 (0 : Int32)  h22 n0 Z0 ) hZ (hw _ (List.mem_of_getElem? (i := 5) rfl)) (hw _ (List.mem_of_getElem? (i := 4) rfl)) (by decide) (by decide)) (g := (mkF m 37 #[.val (.int x0), .val (.int x1), .val (.int x2), .val (.int x3), .val (.int x4), .val (.int (5 : Int32)), .val (.int ff), .val (.ref b1), .unset, .unset, .unset, .unset] [(.int (0 : Int32)), (.int x1), (.int x0), (.int (0 : Int32)), (.ref b1)])) rfl (by rw [hml]; rfl) (argsL := [(.int x0), (.int x1), (.int (0 : Int32))]) (rest := [(.int (0 : Int32)), (.ref b1)]) (lenOf pd_3 rfl) rfl (by show 2 * 0 + _ ≤ _; exact Nat.le_of_eq rfl) (hb hby at_37) (fun _ _ => ⟨rfl, e22, (by decide : 1 + 0 ≤ _), (by decide : 5 + 0 ≤ _)⟩)
      dsimp only [Pt.U, Pt.locs, Pt.cells, Pt.slots] at X46 lq46 yq46 zq46 st46 hQ46
      subst lq46 yq46 zq46
      obtain ⟨rfl, N46q, hq46⟩ := hQ46
      have N0 := Fr.app N0 N46q
      have e46 : T46.heap = h22 := hq46
      refine Dn.st st46 ?_
      show Dn p e below s _ _ _ T46 (mkF m 40 #[.val (.int x0), .val (.int x1), .val (.int x2), .val (.int x3), .val (.int x4), .val (.int (5 : Int32)), .val (.int ff), .val (.ref b1), .unset, .unset, .unset, .unset] [(.int (own_draw x0 x1 (0 : Int32))), (.int (0 : Int32)), (.ref b1)])
      rw [show (own_draw x0 x1 (0 : Int32)) = (own_pv ff x0 x1 (0 : Int32)) from (own_pv_n hc)]
      show Dn p e below s _ _ _ T46 (mkF m 40 #[.val (.int x0), .val (.int x1), .val (.int x2), .val (.int x3), .val (.int x4), .val (.int (5 : Int32)), .val (.int ff), .val (.ref b1), .unset, .unset, .unset, .unset] [(.int (own_pv ff x0 x1 (0 : Int32))), (.int (0 : Int32)), (.ref b1)])
      exact js0 _ _ X46 e46 N0
set_option maxRecDepth 65536 in
set_option maxHeartbeats 40000000 in
theorem comes_1 {Post : Tables → Env → Array Value → State → Outcome → State → Prop} (hpost : ∀ tb e args s v u, (limb_1_1.after args s (.returned v) u = true ∧ limb_1_2.after args s (.returned v) u = true ∧ True) → FrameEnd s (.returned v) u (Jvm.fieldLocs frame_1_writes args s ++ Jvm.arrayLocs frame_1_arrays args s ++ Jvm.staticLocs frame_1_statics s) 32 320 → Post tb e args s (.returned v) u) :
    ArmFor flags0 classFile x code maxLocals ret World_1 tables_1 room_1 Calls_1 rest_1 Pre_1 Post := by
  intro l hfl _ _ p e ha hc hk s m args below hf hA hF happ hP
  obtain ⟨hcalls, hrest, hpre⟩ := hP
  obtain ⟨-, -, -, hnamed, -, -, -, hat⟩ := (Spec.applies_iff hf).mp happ
  obtain ⟨hg, hn⟩ := and_e (Cond.before_iff.mp (show (Jvm.Cond.and given_1 narrow_1).before args s = true from hpre))
  obtain ⟨g1, g2⟩ := and_e hg
  obtain ⟨g3, g4⟩ := and_e g2
  obtain ⟨g5, g6⟩ := and_e g4
  obtain ⟨g7, g8⟩ := and_e g6
  obtain ⟨g9, g10⟩ := and_e g8
  obtain ⟨w0, w1, w2, w3, w4, rfl⟩ : ∃ w0 w1 w2 w3 w4 : Value, args = #[w0, w1, w2, w3, w4] := by
    have hs : args.size = 5 := by simpa [Cond.value, given_1] using g1
    obtain ⟨L⟩ := args
    match L, hs with
    | [w0, w1, w2, w3, w4], _ => exact ⟨w0, w1, w2, w3, w4, rfl⟩
  have hw := fun d (hd : d ∈ tables_1) => atoms_spec (ws := Jvm.Cond.code x code maxLocals ret :: tables_1) hat d (List.mem_cons_of_mem _ hd)
  obtain ⟨i0, ei0⟩ := is_v g3
  obtain rfl : w0 = (.int i0) := Option.some.inj ei0
  obtain ⟨i1, ei1⟩ := is_v g5
  obtain rfl : w1 = (.int i1) := Option.some.inj ei1
  obtain ⟨i2, ei2⟩ := is_v g7
  obtain rfl : w2 = (.int i2) := Option.some.inj ei2
  obtain ⟨i3, ei3⟩ := is_v g9
  obtain rfl : w3 = (.int i3) := Option.some.inj ei3
  obtain ⟨i4, ei4⟩ := is_v g10
  obtain rfl : w4 = (.int i4) := Option.some.inj ei4
  obtain ⟨n, o, h1, h2, h3, _, L, rfl, ⟨rfl, N⟩, hq⟩ := rm0 l s _ hw tables_1 i0 i1 i2 i3 i4 s.heap s.heap.size (Nat.le_refl _)  p e ha hc hk s m _ below hf ((Spec.applies_iff_loose hf).mp happ).1 ⟨rfl, State.Warmed39.refl s, rfl⟩ trivial
  refine ⟨n, _, h1, h2, h3, hpost _ _ _ _ _ _ ⟨Cond.after_iff.mpr rfl, Cond.after_iff.mpr (eq_i res_at (Term.int_eval (1)) rfl), trivial⟩ ⟨hq.1, hq.2.1, (hq.2.2.sift fun y hy => Or.inr (N y hy)).mono (by decide) (by decide)⟩⟩
theorem main_1_1 : Claimed_1_1 := comes_1 fun _ _ _ _ _ _ h hF => ⟨h.1, hF⟩
theorem main_1_2 : Claimed_1_2 := comes_1 fun _ _ _ _ _ _ h hF => ⟨h.2.1, hF⟩
end Jvm.Pilot.@@N@@
namespace Jvm.Pilot.@@N@@
open Jvm Jvm.ClassFile Sem Op Lib Jvm.Free Jvm.Stand Jvm.Pilot.@@N@@.Jvm.D
/-! MADE BY PROGRAM (witnessworld.py) out of the Statement's table words and the real class files: 15 classes; the members and pool entries that the words name. The judged class is class 1, her method 3. -/
namespace start1
open Jvm.ClassFile
def u (s : String) : CpInfo := .utf8 (stringToUtf16 s)
/-- a pool by its gaps: so many unusable entries, then the entry; so many at the end -/
def gap : Nat → List CpInfo → List CpInfo
  | 0, r => r
  | n + 1, r => .unusable :: gap n r
def poolList (es : List (Nat × CpInfo)) (last : Nat) : List CpInfo := es.foldr (fun e r => gap e.1 (e.2 :: r)) (gap last [])
def pool (es : List (Nat × CpInfo)) (last : Nat) : Array CpInfo := ⟨poolList es last⟩
def fileOf (pool : Array CpInfo) (this : Nat) (attrs : Array Attribute := #[]) (ms : Array MethodInfo := #[]) (fl : Nat := 33) (sup : Nat := 0) (ifs : Array Nat := #[]) (fds : Array FieldInfo := #[]) : ClassFile where
  minorVersion := 0
  majorVersion := 65
  constantPool := pool
  accessFlags := fl
  thisClass := this
  superClass := sup
  interfaces := ifs
  fields := fds
  methods := ms
  attributes := attrs
def plain (name : String) (sup : Option ClassId) : Class where
  name := name
  kind := .ordinary
  loader := none
  accessFlags := 33
  super := sup
  interfaces := #[]
  cf := none
  fields := #[]
  methods := #[]
  instanceTypes := #[]
  staticTypes := #[]
  resolved := #[]
  callSites := []
  init := .initialized
  statics := none
  mirror := none

def pool0 : Array CpInfo := pool [(5, u "<init>"), (0, u "()V"), (1, .class_ 10), (1, u "java/lang/Object"), (85, u "clone"), (0, u "()Ljava/lang/Object;")] 26

def k0c0 : Code := { maxStack := 0, maxLocals := 1, code := object_method_1_code, exceptionTable := #[], attributes := #[] }
def k0m0 : Method := { name := "<init>", desc := "()V", sig := { parameters := [], returnType := none }, accessFlags := 1, code := some k0c0 }
def k0m1 : Method := { name := "clone", desc := "()Ljava/lang/Object;", sig := { parameters := [], returnType := some (.object "java/lang/Object") }, accessFlags := 260, code := none }
/-- java/lang/Object -/
def k0 : Class := { plain "java/lang/Object" none with
  accessFlags := 33
  interfaces := #[]
  cf := some (fileOf pool0 8 #[] #[{ accessFlags := 1, nameIndex := 5, descriptorIndex := 6, attributes := #[] }, { accessFlags := 260, nameIndex := 96, descriptorIndex := 97, attributes := #[] }] 33 0 #[] #[])
  fields := #[]
  methods := #[k0m0, k0m1]
  instanceTypes := #[]
  staticTypes := #[]
  resolved := Array.replicate 124 none
  statics := none }

def pool1 : Array CpInfo := pool [(2, .class_ 4), (1, u "java/lang/Object"), (0, u "<init>"), (0, u "()V"), (0, .integer 2147483647), (0, .methodref 9 10), (0, .class_ 11), (0, .nameAndType 12 13), (0, u "keyfold/FseHasPinLaw"), (0, u "draw"), (0, u "(III)I"), (0, .methodref 9 15), (0, .nameAndType 16 17), (0, u "weight"), (0, u "(I)I"), (0, .class_ 19), (0, u "keyfold/Fse"), (0, .methodref 18 21), (0, .nameAndType 5 22), (0, u "([II)V"), (0, .methodref 18 24), (0, .nameAndType 25 26), (0, u "has"), (0, u "(I)Z"), (3, u "law"), (0, u "(IIIII)Z")] 4

def k1m0 : Method := { name := "<init>", desc := "()V", sig := { parameters := [], returnType := none }, accessFlags := 1, code := none }
def k1c1 : Code := { maxStack := 4, maxLocals := 4, code := method_2_code, exceptionTable := #[], attributes := #[] }
def k1m1 : Method := { name := "draw", desc := "(III)I", sig := { parameters := [.int, .int, .int], returnType := some .int }, accessFlags := 10, code := some k1c1 }
def k1c2 : Code := { maxStack := 2, maxLocals := 1, code := method_3_code, exceptionTable := #[], attributes := #[] }
def k1m2 : Method := { name := "weight", desc := "(I)I", sig := { parameters := [.int], returnType := some .int }, accessFlags := 10, code := some k1c2 }
def k1c3 : Code := { maxStack := 5, maxLocals := 12, code := code, exceptionTable := #[], attributes := #[] }
def k1m3 : Method := { name := "law", desc := "(IIIII)Z", sig := { parameters := [.int, .int, .int, .int, .int], returnType := some .boolean }, accessFlags := 9, code := some k1c3 }
/-- keyfold/FseHasPinLaw -/
def k1 : Class := { plain "keyfold/FseHasPinLaw" (some 0) with
  accessFlags := 49
  interfaces := #[]
  cf := some (fileOf pool1 9 #[] #[{ accessFlags := 1, nameIndex := 5, descriptorIndex := 6, attributes := #[] }, { accessFlags := 10, nameIndex := 12, descriptorIndex := 13, attributes := #[] }, { accessFlags := 10, nameIndex := 16, descriptorIndex := 17, attributes := #[] }, { accessFlags := 9, nameIndex := 30, descriptorIndex := 31, attributes := #[] }] 49 2 #[] #[])
  fields := #[]
  methods := #[k1m0, k1m1, k1m2, k1m3]
  instanceTypes := #[]
  staticTypes := #[]
  resolved := Array.replicate 36 none
  statics := none }

def pool2 : Array CpInfo := pool [(1, .methodref 2 3), (0, .class_ 4), (0, .nameAndType 5 6), (0, u "java/lang/Object"), (0, u "<init>"), (0, u "()V"), (0, .fieldref 8 9), (0, .class_ 10), (0, .nameAndType 11 12), (0, u "keyfold/Fse"), (0, u "log"), (0, u "I"), (0, .methodref 14 15), (0, .class_ 16), (0, .nameAndType 17 18), (0, u "[I"), (0, u "clone"), (0, u "()Ljava/lang/Object;"), (0, .fieldref 8 20), (0, .nameAndType 21 16), (0, u "probabilities"), (0, .fieldref 8 23), (0, .nameAndType 24 16), (0, u "counts"), (7, .fieldref 8 33), (0, .nameAndType 34 16), (0, u "first"), (0, .fieldref 8 36), (0, .nameAndType 37 16), (0, u "byState"), (0, .fieldref 8 39), (0, .nameAndType 40 16), (0, u "states"), (0, .methodref 42 43), (0, .class_ 44), (0, .nameAndType 45 46), (0, u "keyfold/ZstdBits"), (0, u "highBit"), (0, u "(I)I"), (2, u "([II)V"), (2, u "described"), (6, .class_ 60), (0, u "keyfold/Fse$Forward"), (56, u "has"), (0, u "(I)Z"), (16, u "LITERAL_LENGTHS"), (0, u "Lkeyfold/Fse;"), (2, u "MATCH_LENGTHS"), (2, u "OFFSETS"), (0, u "SMALLEST_LOG"), (2, u "UNFIT"), (0, u "Ljava/lang/String;")] 46

def k2c0 : Code := { maxStack := 6, maxLocals := 15, code := prog_10_method_1_code, exceptionTable := #[], attributes := #[] }
def k2m0 : Method := { name := "<init>", desc := "([II)V", sig := { parameters := [(.array .int), .int], returnType := none }, accessFlags := 0, code := some k2c0 }
def k2c1 : Code := { maxStack := 2, maxLocals := 2, code := prog_10_method_7_code, exceptionTable := #[], attributes := #[] }
def k2m1 : Method := { name := "has", desc := "(I)Z", sig := { parameters := [.int], returnType := some .boolean }, accessFlags := 0, code := some k2c1 }
/-- keyfold/Fse -/
def k2 : Class := { plain "keyfold/Fse" (some 0) with
  accessFlags := 48
  interfaces := #[]
  cf := some (fileOf pool2 8 #[.nestMembers #[59]] #[{ accessFlags := 0, nameIndex := 5, descriptorIndex := 49, attributes := #[] }, { accessFlags := 0, nameIndex := 117, descriptorIndex := 118, attributes := #[] }] 48 2 #[] #[{ accessFlags := 24, nameIndex := 135, descriptorIndex := 136, attributes := #[] }, { accessFlags := 24, nameIndex := 139, descriptorIndex := 136, attributes := #[] }, { accessFlags := 24, nameIndex := 142, descriptorIndex := 136, attributes := #[] }, { accessFlags := 26, nameIndex := 143, descriptorIndex := 12, attributes := #[] }, { accessFlags := 26, nameIndex := 146, descriptorIndex := 147, attributes := #[] }, { accessFlags := 16, nameIndex := 11, descriptorIndex := 12, attributes := #[] }, { accessFlags := 18, nameIndex := 40, descriptorIndex := 16, attributes := #[] }, { accessFlags := 18, nameIndex := 24, descriptorIndex := 16, attributes := #[] }, { accessFlags := 18, nameIndex := 34, descriptorIndex := 16, attributes := #[] }, { accessFlags := 18, nameIndex := 37, descriptorIndex := 16, attributes := #[] }, { accessFlags := 18, nameIndex := 21, descriptorIndex := 16, attributes := #[] }, { accessFlags := 2, nameIndex := 52, descriptorIndex := 12, attributes := #[] }])
  fields := #[{ name := "LITERAL_LENGTHS", type := (.object "keyfold/Fse"), accessFlags := 24, slot := 0, constantValue := 0 }, { name := "MATCH_LENGTHS", type := (.object "keyfold/Fse"), accessFlags := 24, slot := 1, constantValue := 0 }, { name := "OFFSETS", type := (.object "keyfold/Fse"), accessFlags := 24, slot := 2, constantValue := 0 }, { name := "SMALLEST_LOG", type := .int, accessFlags := 26, slot := 3, constantValue := 0 }, { name := "UNFIT", type := (.object "java/lang/String"), accessFlags := 26, slot := 4, constantValue := 0 }, { name := "log", type := .int, accessFlags := 16, slot := 0, constantValue := 0 }, { name := "states", type := (.array .int), accessFlags := 18, slot := 1, constantValue := 0 }, { name := "counts", type := (.array .int), accessFlags := 18, slot := 2, constantValue := 0 }, { name := "first", type := (.array .int), accessFlags := 18, slot := 3, constantValue := 0 }, { name := "byState", type := (.array .int), accessFlags := 18, slot := 4, constantValue := 0 }, { name := "probabilities", type := (.array .int), accessFlags := 18, slot := 5, constantValue := 0 }, { name := "described", type := .int, accessFlags := 2, slot := 6, constantValue := 0 }]
  methods := #[k2m0, k2m1]
  instanceTypes := #[.int, (.array .int), (.array .int), (.array .int), (.array .int), (.array .int), .int]
  staticTypes := #[(.object "keyfold/Fse"), (.object "keyfold/Fse"), (.object "keyfold/Fse"), .int, (.object "java/lang/String")]
  resolved := Array.replicate 194 none
  statics := none }

def pool3 : Array CpInfo := pool [(1, .class_ 2), (0, u "java/lang/Cloneable"), (0, .class_ 4), (0, u "java/lang/Object")] 2

/-- java/lang/Cloneable -/
def k3 : Class := { plain "java/lang/Cloneable" (some 0) with
  accessFlags := 1537
  interfaces := #[]
  cf := some (fileOf pool3 1 #[] #[] 1537 3 #[] #[])
  fields := #[]
  methods := #[]
  instanceTypes := #[]
  staticTypes := #[]
  resolved := Array.replicate 7 none
  statics := none }

def pool4 : Array CpInfo := pool [(2, .class_ 4), (1, u "java/lang/Object"), (0, u "<init>"), (0, u "()V"), (0, .class_ 8), (0, u "java/lang/Integer"), (0, .methodref 7 10), (0, .nameAndType 11 12), (0, u "numberOfLeadingZeros"), (0, u "(I)I"), (15, .class_ 30), (1, u "keyfold/ZstdBits"), (0, u "LONGS"), (0, u "Ljava/lang/invoke/VarHandle;"), (2, u "highBit"), (4, .class_ 41), (0, u "keyfold/ZstdBits$Writer"), (0, .class_ 43), (0, u "keyfold/ZstdBits$Reader")] 3

def k4m0 : Method := { name := "<init>", desc := "()V", sig := { parameters := [], returnType := none }, accessFlags := 2, code := none }
def k4c1 : Code := { maxStack := 2, maxLocals := 1, code := prog_95_method_2_code, exceptionTable := #[], attributes := #[] }
def k4m1 : Method := { name := "highBit", desc := "(I)I", sig := { parameters := [.int], returnType := some .int }, accessFlags := 8, code := some k4c1 }
/-- keyfold/ZstdBits -/
def k4 : Class := { plain "keyfold/ZstdBits" (some 0) with
  accessFlags := 48
  interfaces := #[]
  cf := some (fileOf pool4 28 #[.nestMembers #[40, 42]] #[{ accessFlags := 2, nameIndex := 5, descriptorIndex := 6, attributes := #[] }, { accessFlags := 8, nameIndex := 35, descriptorIndex := 12, attributes := #[] }] 48 2 #[] #[{ accessFlags := 26, nameIndex := 31, descriptorIndex := 32, attributes := #[] }])
  fields := #[{ name := "LONGS", type := (.object "java/lang/invoke/VarHandle"), accessFlags := 26, slot := 0, constantValue := 0 }]
  methods := #[k4m0, k4m1]
  instanceTypes := #[]
  staticTypes := #[(.object "java/lang/invoke/VarHandle")]
  resolved := Array.replicate 47 none
  statics := none }

def pool5 : Array CpInfo := pool [(1, .class_ 2), (0, u "java/io/Serializable"), (0, .class_ 4), (0, u "java/lang/Object")] 2

/-- java/io/Serializable -/
def k5 : Class := { plain "java/io/Serializable" (some 0) with
  accessFlags := 1537
  interfaces := #[]
  cf := some (fileOf pool5 1 #[] #[] 1537 3 #[] #[])
  fields := #[]
  methods := #[]
  instanceTypes := #[]
  staticTypes := #[]
  resolved := Array.replicate 7 none
  statics := none }

def pool6 : Array CpInfo := pool [(2, .class_ 4), (1, u "java/lang/Object"), (0, u "<init>"), (0, u "()V"), (1, .class_ 10), (1, u "java/lang/Number"), (2, .class_ 14), (0, u "java/io/Serializable"), (0, u "serialVersionUID"), (0, u "J")] 20

def k6m0 : Method := { name := "<init>", desc := "()V", sig := { parameters := [], returnType := none }, accessFlags := 1, code := none }
/-- java/lang/Number -/
def k6 : Class := { plain "java/lang/Number" (some 0) with
  accessFlags := 1057
  interfaces := #[5]
  cf := some (fileOf pool6 8 #[] #[{ accessFlags := 1, nameIndex := 5, descriptorIndex := 6, attributes := #[] }] 1057 2 #[13] #[{ accessFlags := 26, nameIndex := 15, descriptorIndex := 16, attributes := #[] }])
  fields := #[{ name := "serialVersionUID", type := .long, accessFlags := 26, slot := 0, constantValue := 0 }]
  methods := #[k6m0]
  instanceTypes := #[]
  staticTypes := #[.long]
  resolved := Array.replicate 37 none
  statics := none }

def pool7 : Array CpInfo := pool [(1, .class_ 2), (0, u "java/lang/Comparable"), (0, .class_ 4), (0, u "java/lang/Object")] 7

/-- java/lang/Comparable -/
def k7 : Class := { plain "java/lang/Comparable" (some 0) with
  accessFlags := 1537
  interfaces := #[]
  cf := some (fileOf pool7 1 #[] #[] 1537 3 #[] #[])
  fields := #[]
  methods := #[]
  instanceTypes := #[]
  staticTypes := #[]
  resolved := Array.replicate 12 none
  statics := none }

def pool8 : Array CpInfo := pool [(1, .class_ 2), (0, u "java/lang/constant/Constable"), (0, .class_ 4), (0, u "java/lang/Object")] 6

/-- java/lang/constant/Constable -/
def k8 : Class := { plain "java/lang/constant/Constable" (some 0) with
  accessFlags := 1537
  interfaces := #[]
  cf := some (fileOf pool8 1 #[] #[] 1537 3 #[] #[])
  fields := #[]
  methods := #[]
  instanceTypes := #[]
  staticTypes := #[]
  resolved := Array.replicate 11 none
  statics := none }

def pool9 : Array CpInfo := pool [(1, .class_ 2), (0, u "java/lang/constant/ConstantDesc"), (0, .class_ 4), (0, u "java/lang/Object")] 32

/-- java/lang/constant/ConstantDesc -/
def k9 : Class := { plain "java/lang/constant/ConstantDesc" (some 0) with
  accessFlags := 1537
  interfaces := #[]
  cf := some (fileOf pool9 1 #[] #[] 1537 3 #[] #[])
  fields := #[]
  methods := #[]
  instanceTypes := #[]
  staticTypes := #[]
  resolved := Array.replicate 37 none
  statics := none }

def pool10 : Array CpInfo := pool [(1, .class_ 2), (0, u "java/lang/Integer"), (16, u "digits"), (0, u "[C"), (32, u "numberOfLeadingZeros"), (0, u "(I)I"), (30, u "DigitOnes"), (0, u "[B"), (2, u "DigitTens"), (99, .class_ 190), (0, u "java/lang/Integer$IntegerCache"), (3, u "I"), (8, .class_ 204), (0, u "java/lang/Number"), (2, u "value"), (56, .integer 65536), (37, u "TYPE"), (0, u "Ljava/lang/Class;"), (0, .class_ 305), (0, u "java/lang/Comparable"), (0, .class_ 307), (0, u "java/lang/constant/Constable"), (0, .class_ 309), (0, u "java/lang/constant/ConstantDesc"), (0, u "MIN_VALUE"), (1, u "MAX_VALUE"), (3, u "SIZE"), (1, u "BYTES"), (1, u "serialVersionUID"), (0, u "J")] 131

def k10c0 : Code := { maxStack := 3, maxLocals := 2, code := jdk_33_method_47_code, exceptionTable := #[], attributes := #[] }
def k10m0 : Method := { name := "numberOfLeadingZeros", desc := "(I)I", sig := { parameters := [.int], returnType := some .int }, accessFlags := 9, code := some k10c0 }
/-- java/lang/Integer -/
def k10 : Class := { plain "java/lang/Integer" (some 6) with
  accessFlags := 49
  interfaces := #[7, 8, 9]
  cf := some (fileOf pool10 1 #[.nestMembers #[189]] #[{ accessFlags := 9, nameIndex := 53, descriptorIndex := 54, attributes := #[] }] 49 203 #[304, 306, 308] #[{ accessFlags := 25, nameIndex := 310, descriptorIndex := 194, attributes := #[] }, { accessFlags := 25, nameIndex := 312, descriptorIndex := 194, attributes := #[] }, { accessFlags := 25, nameIndex := 302, descriptorIndex := 303, attributes := #[] }, { accessFlags := 24, nameIndex := 19, descriptorIndex := 20, attributes := #[] }, { accessFlags := 24, nameIndex := 89, descriptorIndex := 86, attributes := #[] }, { accessFlags := 24, nameIndex := 85, descriptorIndex := 86, attributes := #[] }, { accessFlags := 18, nameIndex := 207, descriptorIndex := 194, attributes := #[] }, { accessFlags := 25, nameIndex := 316, descriptorIndex := 194, attributes := #[] }, { accessFlags := 25, nameIndex := 318, descriptorIndex := 194, attributes := #[] }, { accessFlags := 26, nameIndex := 320, descriptorIndex := 321, attributes := #[] }])
  fields := #[{ name := "MIN_VALUE", type := .int, accessFlags := 25, slot := 0, constantValue := 0 }, { name := "MAX_VALUE", type := .int, accessFlags := 25, slot := 1, constantValue := 0 }, { name := "TYPE", type := (.object "java/lang/Class"), accessFlags := 25, slot := 2, constantValue := 0 }, { name := "digits", type := (.array .char), accessFlags := 24, slot := 3, constantValue := 0 }, { name := "DigitTens", type := (.array .byte), accessFlags := 24, slot := 4, constantValue := 0 }, { name := "DigitOnes", type := (.array .byte), accessFlags := 24, slot := 5, constantValue := 0 }, { name := "value", type := .int, accessFlags := 18, slot := 0, constantValue := 0 }, { name := "SIZE", type := .int, accessFlags := 25, slot := 6, constantValue := 0 }, { name := "BYTES", type := .int, accessFlags := 25, slot := 7, constantValue := 0 }, { name := "serialVersionUID", type := .long, accessFlags := 26, slot := 8, constantValue := 0 }]
  methods := #[k10m0]
  instanceTypes := #[.int]
  staticTypes := #[.int, .int, (.object "java/lang/Class"), (.array .char), (.array .byte), (.array .byte), .int, .int, .long]
  resolved := Array.replicate 453 none
  statics := none }

/-- the primitive byte -/
def k11 : Class := { plain "byte" none with kind := .primitive 'B', accessFlags := 0x411 }
/-- [B -/
def k12 : Class := { plain "[B" (some 0) with kind := .array 11 .byte, interfaces := #[3, 5], accessFlags := 1041 }

/-- the primitive int -/
def k13 : Class := { plain "int" none with kind := .primitive 'I', accessFlags := 0x411 }
/-- [I -/
def k14 : Class := { plain "[I" (some 0) with kind := .array 13 .int, interfaces := #[3, 5], accessFlags := 1041 }

def heap : Heap := #[]
def classes : Array Class := #[k0, k1, k2, k3, k4, k5, k6, k7, k8, k9, k10, k11, k12, k13, k14]
def interned : List (Array UInt16 × Addr) := []
def slotsUsed : Nat := 0
def theMethod : MethodId := ⟨1, 3⟩
def args0 : Array Value := #[.int 5, .int 5, .int 5, .int 5, .int 5]
def aboutOver (below : List Frame) : State where
  vm := { classes := classes, interned := interned.toArray }
  heap := heap
  slotsUsed := slotsUsed
  threads := #[{ frames := .invoking theMethod args0 :: below }]
def below0 : List Frame := [.native { method := ⟨0, 0⟩, args := #[] }]
def about1 : State := aboutOver below0
def p0 : Program := .bare "" "" ""
def e0 : Env := launch0.env 0 0 0
theorem w_frames : about1.frames = Frame.invoking theMethod args0 :: below0 := rfl
set_option maxRecDepth 65536 in
theorem w_args : argsFit about1.vm theMethod args0 = true := by decide +kernel
set_option maxRecDepth 65536 in
theorem w_heap : heapFits about1 = true := by decide +kernel
set_option maxRecDepth 65536 in
theorem w_runnable : about1.curStatus? = some .runnable := by decide +kernel
set_option maxRecDepth 65536 in
theorem w_alone : about1.alone = true := by decide +kernel
set_option maxRecDepth 65536 in
theorem w_named : about1.methodNamed? x = some theMethod := by decide +kernel
set_option maxRecDepth 65536 in
theorem w_hears : about1.hears theMethod below0 = true := by decide +kernel
set_option maxRecDepth 65536 in
theorem w_ripe : about1.ripe theMethod args0 below0 = true := by decide +kernel
theorem w_running : about1.status = .running := rfl
set_option maxRecDepth 65536 in
theorem w_room : about1.hasRoom e0.platform room_1 = true :=
  launch0.hasRoom_least _ room_1 (by decide +kernel) (by decide +kernel) (by decide +kernel) (by decide +kernel) (by decide +kernel) (by decide +kernel)
theorem allAtoms_all (ts : List Jvm.Cond) (a : Array Jvm.Value) (st : Jvm.State) : (allAtoms ts).before a st = ts.all (fun c => c.before a st) := by
  induction ts with
  | nil => rfl
  | cons c t ih =>
    show (Jvm.Cond.and c (allAtoms t)).before a st = _
    rw [Jvm.Cond.before_and, ih, List.all_cons]
def words1 : List Jvm.Cond := Jvm.Cond.code x code maxLocals ret :: tables_1
/-- a 'code' word, met by the world's own term for the bytes: nothing is compared byte by byte -/
theorem code_word {y : MethodName} {bytes : ByteArray} {mx : Nat} {rt : Option FieldType} {a : Array Value} {s : State} {m : MethodId} {meth : Method} {c : Code} (h1 : s.methodNamed? y = some m) (h2 : s.vm.method? m = some meth) (h3 : meth.code = some c) (h4 : c.code = bytes)
    (h5 : (c.maxLocals == mx && c.exceptionTable.isEmpty && decide (c.maxStack ≤ mostOperands) && decide (meth.sig.returnType = rt) && !meth.locks && decide (parseMethodDescriptor y.desc = some meth.sig)) = true) : (Jvm.Cond.code y bytes mx rt).before a s = true := by
  simp only [Bool.and_eq_true, beq_iff_eq, Bool.not_eq_true', decide_eq_true_eq] at h5
  obtain ⟨⟨⟨⟨⟨g1, g2⟩, g3⟩, g4⟩, g5⟩, g6⟩ := h5
  simp [Cond.before, Cond.holds, Cond.value, h1, h2, h3, h4, g1, g2, g3, g4, g5, g6]
def isCode : Jvm.Cond → Bool
  | .code _ _ _ _ => true
  | _ => false
theorem all_split {L : List Jvm.Cond} {P : Jvm.Cond → Bool} (h1 : L.all (fun c => isCode c || P c) = true) (h2 : ∀ c ∈ L.filter isCode, P c = true) : L.all P = true := by
  refine List.all_eq_true.mpr fun c hc => ?_
  have h := List.all_eq_true.mp h1 c hc
  rcases Bool.eq_false_or_eq_true (isCode c) with hi | hi
  · exact h2 c (List.mem_filter.mpr ⟨hc, hi⟩)
  · simpa [hi] using h
set_option maxRecDepth 65536 in
theorem w_c0 : (Jvm.Cond.code x code maxLocals ret).before args0 about1 = true := code_word (m := ⟨1, 3⟩) (meth := k1m3) (c := k1c3) (by decide +kernel) rfl rfl rfl (by decide +kernel)
set_option maxRecDepth 65536 in
theorem w_c1 : (Jvm.Cond.code ({ cls := "keyfold/FseHasPinLaw", name := "draw", desc := "(III)I" } : Jvm.MethodName) method_2_code (4 : Nat) (Option.some Jvm.ClassFile.FieldType.int)).before args0 about1 = true := code_word (m := ⟨1, 1⟩) (meth := k1m1) (c := k1c1) (by decide +kernel) rfl rfl rfl (by decide +kernel)
set_option maxRecDepth 65536 in
theorem w_c2 : (Jvm.Cond.code ({ cls := "keyfold/FseHasPinLaw", name := "weight", desc := "(I)I" } : Jvm.MethodName) method_3_code (1 : Nat) (Option.some Jvm.ClassFile.FieldType.int)).before args0 about1 = true := code_word (m := ⟨1, 2⟩) (meth := k1m2) (c := k1c2) (by decide +kernel) rfl rfl rfl (by decide +kernel)
set_option maxRecDepth 65536 in
theorem w_c3 : (Jvm.Cond.code ({ cls := "keyfold/Fse", name := "<init>", desc := "([II)V" } : Jvm.MethodName) prog_10_method_1_code (15 : Nat) (Option.none : Option Jvm.ClassFile.FieldType)).before args0 about1 = true := code_word (m := ⟨2, 0⟩) (meth := k2m0) (c := k2c0) (by decide +kernel) rfl rfl rfl (by decide +kernel)
set_option maxRecDepth 65536 in
theorem w_c4 : (Jvm.Cond.code ({ cls := "java/lang/Object", name := "<init>", desc := "()V" } : Jvm.MethodName) object_method_1_code (1 : Nat) (Option.none : Option Jvm.ClassFile.FieldType)).before args0 about1 = true := code_word (m := ⟨0, 0⟩) (meth := k0m0) (c := k0c0) (by decide +kernel) rfl rfl rfl (by decide +kernel)
set_option maxRecDepth 65536 in
theorem w_c5 : (Jvm.Cond.code ({ cls := "keyfold/ZstdBits", name := "highBit", desc := "(I)I" } : Jvm.MethodName) prog_95_method_2_code (1 : Nat) (Option.some Jvm.ClassFile.FieldType.int)).before args0 about1 = true := code_word (m := ⟨4, 1⟩) (meth := k4m1) (c := k4c1) (by decide +kernel) rfl rfl rfl (by decide +kernel)
set_option maxRecDepth 65536 in
theorem w_c6 : (Jvm.Cond.code ({ cls := "java/lang/Integer", name := "numberOfLeadingZeros", desc := "(I)I" } : Jvm.MethodName) jdk_33_method_47_code (2 : Nat) (Option.some Jvm.ClassFile.FieldType.int)).before args0 about1 = true := code_word (m := ⟨10, 0⟩) (meth := k10m0) (c := k10c0) (by decide +kernel) rfl rfl rfl (by decide +kernel)
set_option maxRecDepth 65536 in
theorem w_c7 : (Jvm.Cond.code ({ cls := "keyfold/Fse", name := "has", desc := "(I)Z" } : Jvm.MethodName) prog_10_method_7_code (2 : Nat) (Option.some Jvm.ClassFile.FieldType.boolean)).before args0 about1 = true := code_word (m := ⟨2, 1⟩) (meth := k2m1) (c := k2c1) (by decide +kernel) rfl rfl rfl (by decide +kernel)
def codes1 : List Jvm.Cond := [Jvm.Cond.code x code maxLocals ret, Jvm.Cond.code ({ cls := "keyfold/FseHasPinLaw", name := "draw", desc := "(III)I" } : Jvm.MethodName) method_2_code (4 : Nat) (Option.some Jvm.ClassFile.FieldType.int), Jvm.Cond.code ({ cls := "keyfold/FseHasPinLaw", name := "weight", desc := "(I)I" } : Jvm.MethodName) method_3_code (1 : Nat) (Option.some Jvm.ClassFile.FieldType.int), Jvm.Cond.code ({ cls := "keyfold/Fse", name := "<init>", desc := "([II)V" } : Jvm.MethodName) prog_10_method_1_code (15 : Nat) (Option.none : Option Jvm.ClassFile.FieldType), Jvm.Cond.code ({ cls := "java/lang/Object", name := "<init>", desc := "()V" } : Jvm.MethodName) object_method_1_code (1 : Nat) (Option.none : Option Jvm.ClassFile.FieldType), Jvm.Cond.code ({ cls := "keyfold/ZstdBits", name := "highBit", desc := "(I)I" } : Jvm.MethodName) prog_95_method_2_code (1 : Nat) (Option.some Jvm.ClassFile.FieldType.int), Jvm.Cond.code ({ cls := "java/lang/Integer", name := "numberOfLeadingZeros", desc := "(I)I" } : Jvm.MethodName) jdk_33_method_47_code (2 : Nat) (Option.some Jvm.ClassFile.FieldType.int), Jvm.Cond.code ({ cls := "keyfold/Fse", name := "has", desc := "(I)Z" } : Jvm.MethodName) prog_10_method_7_code (2 : Nat) (Option.some Jvm.ClassFile.FieldType.boolean)]
set_option maxRecDepth 65536 in
theorem codes_eq : words1.filter isCode = codes1 := rfl
theorem w_codes : ∀ c ∈ words1.filter isCode, c.before args0 about1 = true := by
  rw [codes_eq]
  intro c hc
  simp only [codes1, List.mem_cons, List.not_mem_nil, or_false] at hc
  rcases hc with rfl | rfl | rfl | rfl | rfl | rfl | rfl | rfl
  · exact w_c0
  · exact w_c1
  · exact w_c2
  · exact w_c3
  · exact w_c4
  · exact w_c5
  · exact w_c6
  · exact w_c7
set_option maxRecDepth 65536 in
theorem w_t1 : (words1.take 24).all (fun c => isCode c || c.before args0 about1) = true := by decide +kernel
set_option maxRecDepth 65536 in
theorem w_t2 : ((words1.drop 24).take 24).all (fun c => isCode c || c.before args0 about1) = true := by decide +kernel
set_option maxRecDepth 65536 in
theorem w_t3 : ((words1.drop 24).drop 24).all (fun c => isCode c || c.before args0 about1) = true := by decide +kernel
theorem w_tables : (allAtoms (Jvm.Cond.code x code maxLocals ret :: tables_1)).before args0 about1 = true := by
  rw [allAtoms_all]
  show words1.all (fun c => c.before args0 about1) = true
  refine all_split ?_ w_codes
  rw [← List.take_append_drop 24 words1, List.all_append, w_t1, ← List.take_append_drop 24 (words1.drop 24), List.all_append, w_t2, w_t3]
  rfl
set_option maxRecDepth 65536 in
theorem w_case : (Jvm.Cond.and given_1 narrow_1).before args0 about1 = true := by decide +kernel
theorem w_applies : (headSpec (Jvm.Cond.code x code maxLocals ret :: tables_1) room_1).applies x e0.platform about1 = true :=
  (Spec.applies_iff w_frames).mpr ⟨w_running, w_runnable, w_alone, w_named, w_hears, w_ripe, w_room, w_tables⟩
theorem atStart : AtStart classFile x code maxLocals ret World_1 tables_1 room_1 Calls_1 rest_1 Pre_1 launch0 p0 e0 about1 theMethod args0 below0 :=
  ⟨lists_1, trivial, launch0.admits_env _ _ _, launch0.least_env, fairChoices_fair.cas, fairChoices_fair.clock, w_frames, w_args, w_heap, w_applies, trivial, trivial, w_case⟩
end start1
theorem witness_1 : WitnessClaimed_1 := ⟨start1.p0, start1.e0, start1.about1, start1.theMethod, start1.args0, start1.below0, start1.atStart⟩
end Jvm.Pilot.@@N@@
