import JvmDerived
import JvmDerived.Pilot.@@N@@Statement
import JvmDerived.Pilot.@@N@@Code
set_option linter.unusedVariables false
set_option linter.unusedSimpArgs false
@@BLOCK:NumsL.lean.txt@@
namespace Jvm.Pilot.@@N@@
open Jvm Jvm.ClassFile Sem Op Lib Jvm.Free Jvm.Stand Jvm.LawKit Jvm.RoadKit Bundle Jvm.Pilot.@@N@@.Jvm.D
/-! THE OWN KIT: a walk in small steps to the body's end -/
/-- from T with the frame g on top the body comes to its end, and what it leaves fulfils Q -/
def Dn (p : Program) (e : Env) (below : List Frame) (s : State) (Q : Option Value → Heap → List Loc → Prop) (k n : Nat) (T : State) (g : JFrame) : Prop :=
  ∃ s₂ o, Steps p.tables e below (T.setTop g) s₂ ∧ s₂.status = .running ∧ Ended s₂ below o ∧ ∃ v L, o = .returned v ∧ Q v s₂.heap L ∧ FrameEnd s o s₂ L k n
section OwnKit
variable {p : Program} {l : Launch} {e : Env} {R : Room} {s : State} {m : MethodId} {args : Array Value} {below : List Frame} {meth : Method} {c : Code} {T T' : State} {locs : List Loc} {cells slots : Nat} {Z : State} {h h' : Heap} {g g' : JFrame} {k n : Nat} {Q : Option Value → Heap → List Loc → Prop}
theorem Dn.st (f : ∀ t, Steps p.tables e below (T'.setTop g') t → Steps p.tables e below (T.setTop g) t) (d : Dn p e below s Q k n T' g') : Dn p e below s Q k n T g := by
  obtain ⟨s₂, o, h1, h2⟩ := d
  exact ⟨s₂, o, f _ h1, h2⟩
theorem Dn.tr (f : Steps p.tables e below (T.setTop g) (T'.setTop g')) (d : Dn p e below s Q k n T' g') : Dn p e below s Q k n T g := by
  obtain ⟨s₂, o, h1, h2⟩ := d
  exact ⟨s₂, o, f.trans h1, h2⟩
theorem Dn.cast (q : g = g') (d : Dn p e below s Q k n T g') : Dn p e below s Q k n T g := q ▸ d
theorem Dn.retI (X : Stand p l e R s m args below meth c T locs cells slots) (hx : p.tables.exec = Jvm.exec) (hk : meth.locks = false) {pc : Nat} {Ls : Array Slot} {z : Int32} {rest : List Value} (hret : meth.sig.returnType = some .int) (hd : decode c.code pc = .ok (.ireturn, 1)) (hQ : Q (some (.int z)) T.heap locs) (hc : cells ≤ k) (hs : slots ≤ n) :
    Dn p e below s Q k n T (mkF m pc Ls (.int z :: rest)) := by
  obtain ⟨fs, hr, hrun, hended, hW, hsame⟩ := X.leave (v := some (.int z)) (fun q => by rw [hret] at q; cases q) hk
  exact ⟨_, _, retOut X hx hret rfl (Or.inl ⟨rfl, Or.inl rfl, z, rfl⟩) hd hr, hrun, hended, _, _, rfl, hQ, ⟨_, rfl⟩, hW, hsame.mono hc hs⟩
theorem Dn.retZ (X : Stand p l e R s m args below meth c T locs cells slots) (hx : p.tables.exec = Jvm.exec) (hk : meth.locks = false) {pc : Nat} {Ls : Array Slot} {z : Int32} {t : FieldType} {rest : List Value} (hret : meth.sig.returnType = some t) (ht : t = .boolean ∨ t = .byte ∨ t = .char ∨ t = .short) (hd : decode c.code pc = .ok (.ireturn, 1)) (hQ : Q (some (.int (nar t z))) T.heap locs) (hc : cells ≤ k) (hs : slots ≤ n) :
    Dn p e below s Q k n T (mkF m pc Ls (.int z :: rest)) := by
  obtain ⟨fs, hr, hrun, hended, hW, hsame⟩ := X.leave (v := some (.int (nar t z))) (fun q => by rw [hret] at q; cases q) hk
  exact ⟨_, _, retN X hx hret ht hd hr, hrun, hended, _, _, rfl, hQ, ⟨_, rfl⟩, hW, hsame.mono hc hs⟩
theorem Dn.retJ (X : Stand p l e R s m args below meth c T locs cells slots) (hx : p.tables.exec = Jvm.exec) (hk : meth.locks = false) {pc : Nat} {Ls : Array Slot} {z : Int64} {rest : List Value} (hret : meth.sig.returnType = some .long) (hd : decode c.code pc = .ok (.lreturn, 1)) (hQ : Q (some (.long z)) T.heap locs) (hc : cells ≤ k) (hs : slots ≤ n) :
    Dn p e below s Q k n T (mkF m pc Ls (.long z :: rest)) := by
  obtain ⟨fs, hr, hrun, hended, hW, hsame⟩ := X.leave (v := some (.long z)) (fun q => by rw [hret] at q; cases q) hk
  exact ⟨_, _, retOut X hx hret rfl (Or.inr (Or.inl ⟨rfl, rfl, z, rfl⟩)) hd hr, hrun, hended, _, _, rfl, hQ, ⟨_, rfl⟩, hW, hsame.mono hc hs⟩
theorem Dn.retA (X : Stand p l e R s m args below meth c T locs cells slots) (hx : p.tables.exec = Jvm.exec) (hk : meth.locks = false) {pc : Nat} {Ls : Array Slot} {a : Addr} {t : FieldType} {rest : List Value} (hret : meth.sig.returnType = some t) (ht : t.isReference = true) (hn : narrow t (.ref a) = .ref a) (hd : decode c.code pc = .ok (.areturn, 1)) (hQ : Q (some (.ref a)) T.heap locs) (hc : cells ≤ k) (hs : slots ≤ n) :
    Dn p e below s Q k n T (mkF m pc Ls (.ref a :: rest)) := by
  obtain ⟨fs, hr, hrun, hended, hW, hsame⟩ := X.leave (v := some (.ref a)) (fun q => by rw [hret] at q; cases q) hk
  exact ⟨_, _, retOut X hx hret hn (Or.inr (Or.inr (Or.inr (Or.inr ⟨rfl, ht, rfl⟩)))) hd hr, hrun, hended, _, _, rfl, hQ, ⟨_, rfl⟩, hW, hsame.mono hc hs⟩
theorem Dn.retV (X : Stand p l e R s m args below meth c T locs cells slots) (hx : p.tables.exec = Jvm.exec) (hk : meth.locks = false) {pc : Nat} {Ls : Array Slot} (hret : meth.sig.returnType = none) (hd : decode c.code pc = .ok (.return_, 1)) (hQ : Q none T.heap locs) (hc : cells ≤ k) (hs : slots ≤ n) :
    Dn p e below s Q k n T (mkF m pc Ls []) := by
  obtain ⟨fs, hr, hrun, hended, hW, hsame⟩ := X.leave (v := none) (fun _ => rfl) hk
  exact ⟨_, _, X.returnOut hx hret hd hr, hrun, hended, _, _, rfl, hQ, ⟨_, rfl⟩, hW, hsame.mono hc hs⟩
theorem own_ne {a b : Addr} {j : Nat} (q : a < j) (r : b = j) : a ≠ b := fun e => absurd (e.trans r) (Nat.ne_of_lt q)
theorem own_ne' {a b : Addr} {j : Nat} (q : a < j) (r : j ≤ b) : a ≠ b := Nat.ne_of_lt (Nat.lt_of_lt_of_le q r)
theorem own_self {s : State} {args : Array Value} {y : MethodName} {n : Nat} (wi : (Jvm.Cond.instantiable y.cls n).before args s = true) (wp : (Jvm.Cond.privateMethod y).before args s = true) (hinst : (Jvm.Cond.instanceMethod y).before args s = true) (hy : y.cls ≠ "java/lang/invoke/MethodHandle" ∧ y.cls ≠ "java/lang/invoke/VarHandle") : (Jvm.Cond.selects y.cls y y).before args s = true := by
  obtain ⟨c, k, h1, h2, -, h4, -⟩ := Jvm.Cond.instantiable_spec wi
  exact selects_self_of_private h1 h2 (Bool.or_eq_false_iff.mp h4).1 (Jvm.Cond.privateMethod_at wp) hinst hy
end OwnKit
/-! ARRAYS BY A FUNCTION: the array at a has n places, place j holds f j -/
def Ary (Z : State) (h : Heap) (a : Addr) (ty : FieldType) (n : Nat) (f : Nat → Value) : Prop := ∃ c : Cell, Arr Z h a c ty ∧ c.slots.size = n ∧ ∀ j, j < n → c.slots[j]? = some (f j)
section OwnAry
variable {p : Program} {l : Launch} {e : Env} {R : Room} {s : State} {m : MethodId} {args : Array Value} {below : List Frame} {meth : Method} {c : Code} {T T' : State} {locs : List Loc} {cells slots : Nat} {Z : State} {h h' : Heap} {a b : Addr} {ty : FieldType} {n i sl : Nat} {f f' : Nat → Value} {v : Value} {ws : List Addr} {j : Int32}
theorem Ary.lt (F : Ary Z h a ty n f) : a < h.size := by obtain ⟨c, A, -⟩ := F; exact A.lt
theorem Ary.ext (F : Ary Z h a ty n f) (E : Ext h h') : Ary Z h' a ty n f := by obtain ⟨c, A, r⟩ := F; exact ⟨c, A.ext E, r⟩
theorem Ary.other (F : Ary Z h b ty n f) (W : Wr h h' a sl v) (q : b ≠ a) : Ary Z h' b ty n f := by obtain ⟨c, A, r⟩ := F; exact ⟨c, A.other W q, r⟩
theorem Ary.keep (F : Ary Z h a ty n f) (K : Keep h h' ws) (q : a ∉ ws) : Ary Z h' a ty n f := by obtain ⟨c, A, r⟩ := F; exact ⟨c, ⟨K.2.1 a c A.1 q, A.2⟩, r⟩
theorem Ary.congr (F : Ary Z h a ty n f) (q : ∀ j, j < n → f' j = f j) : Ary Z h a ty n f' := by obtain ⟨c, A, S, H⟩ := F; exact ⟨c, A, S, fun j hj => by rw [q j hj]; exact H j hj⟩
theorem Ary.new {k : ClassId} {z : Int32} (A : Arr Z h a (newA k ty z) ty) (q : z.toInt = n) : Ary Z h a ty n (fun _ => defaultValue ty) := by
  have e1 : z.toNatClampNeg = n := by simp only [Int32.toNatClampNeg, q]; rfl
  refine ⟨_, A, by rw [sz_new]; exact e1, fun i hi => ?_⟩
  simp [newA, e1, hi]
theorem own_clamp (q : j.toInt = (i : Int)) : j.toNatClampNeg = i := by simp only [Int32.toNatClampNeg, q]; rfl
theorem own_nneg (q : j.toInt = (i : Int)) : ¬ j < 0 := by rw [Int32.lt_iff_toInt_lt, q]; show ¬ (i : Int) < 0; omega
theorem Ary.set (F : Ary Z h a ty n f) (W : Wr h h' a j.toNatClampNeg v) (q : j.toInt = (i : Int)) (hi : i < n) : Ary Z h' a ty n (fun x => if x = i then v else f x) := by
  obtain ⟨c, A, S, H⟩ := F
  rw [own_clamp q] at W
  refine ⟨_, A.same W, by rw [sz_set]; exact S, fun x hx => ?_⟩
  by_cases u : x = i
  · subst u; simp [Cell.setSlot, S, hx]
  · have := H x hx; simp only [Cell.setSlot, u, if_false]
    rw [Array.getElem?_setIfInBounds_ne (Ne.symm u)]; exact this
theorem own_inb {cl : Cell} (S : cl.slots.size = n) (q : j.toInt = (i : Int)) (hi : i < n) : ¬ (j < 0 ∨ cl.slots.size ≤ j.toNatClampNeg) := by
  rw [own_clamp q, S]; exact fun r => r.elim (own_nneg q) (fun z => absurd hi (Nat.not_lt.mpr z))
theorem aLen (X : Stand p l e R s m args below meth c T locs cells slots) (hx : p.tables.exec = Jvm.exec) (hZ : Z.Warmed39 s.vm) (eT : T.heap = h) (F : Ary Z h a ty n f) {g : JFrame} (hg : g.method = m) {rest : List Value} (hs : g.stack = .ref a :: rest) (hd : decode c.code g.pc = .ok (.arraylength, 1)) :
    ∀ t, Steps p.tables e below (T.setTop { g with pc := g.pc + 1, stack := .int (n.toInt32) :: rest }) t → Steps p.tables e below (T.setTop g) t := by
  obtain ⟨cl, A, S, H⟩ := F
  intro t q
  refine X.arraylength hx (by rw [eT]; exact A.1) (State.isArrayOf_alike hZ.alike A.2.1) hg hs hd t ?_
  rw [S]; exact q
theorem aLoadI {w : Nat → Int32} (X : Stand p l e R s m args below meth c T locs cells slots) (hx : p.tables.exec = Jvm.exec) (hZ : Z.Warmed39 s.vm) (eT : T.heap = h) (F : Ary Z h a .int n (fun x => .int (w x))) (q : j.toInt = (i : Int)) (hi : i < n) {g : JFrame} (hg : g.method = m) {rest : List Value} (hs : g.stack = .int j :: .ref a :: rest) (hd : decode c.code g.pc = .ok (.iaload, 1)) :
    ∀ t, Steps p.tables e below (T.setTop { g with pc := g.pc + 1, stack := .int (w i) :: rest }) t → Steps p.tables e below (T.setTop g) t := by
  obtain ⟨cl, A, S, H⟩ := F
  exact X.iaload hx (by rw [eT]; exact A.1) (State.isArrayOf_alike hZ.alike A.2.1) A.2.2 (own_inb S q hi) (by rw [own_clamp q]; exact H i hi) hg hs hd
theorem aLoadJ {w : Nat → Int64} (X : Stand p l e R s m args below meth c T locs cells slots) (hx : p.tables.exec = Jvm.exec) (hZ : Z.Warmed39 s.vm) (eT : T.heap = h) (F : Ary Z h a .long n (fun x => .long (w x))) (q : j.toInt = (i : Int)) (hi : i < n) {g : JFrame} (hg : g.method = m) {rest : List Value} (hs : g.stack = .int j :: .ref a :: rest) (hd : decode c.code g.pc = .ok (.laload, 1)) :
    ∀ t, Steps p.tables e below (T.setTop { g with pc := g.pc + 1, stack := .long (w i) :: rest }) t → Steps p.tables e below (T.setTop g) t := by
  obtain ⟨cl, A, S, H⟩ := F
  exact X.laload hx (by rw [eT]; exact A.1) (State.isArrayOf_alike hZ.alike A.2.1) A.2.2 (own_inb S q hi) (by rw [own_clamp q]; exact H i hi) hg hs hd
theorem aLoadB {w : Nat → Int32} (X : Stand p l e R s m args below meth c T locs cells slots) (hx : p.tables.exec = Jvm.exec) (hZ : Z.Warmed39 s.vm) (eT : T.heap = h) (F : Ary Z h a .byte n (fun x => .int (w x))) (q : j.toInt = (i : Int)) (hi : i < n) {g : JFrame} (hg : g.method = m) {rest : List Value} (hs : g.stack = .int j :: .ref a :: rest) (hd : decode c.code g.pc = .ok (.baload, 1)) :
    ∀ t, Steps p.tables e below (T.setTop { g with pc := g.pc + 1, stack := .int (w i) :: rest }) t → Steps p.tables e below (T.setTop g) t := by
  obtain ⟨cl, A, S, H⟩ := F
  exact X.baloadBytes hx (by rw [eT]; exact A.1) (State.isArrayOf_alike hZ.alike A.2.1) A.2.2 (own_inb S q hi) (by rw [own_clamp q]; exact H i hi) hg hs hd
theorem aStoI (X : Stand p l e R s m args below meth c T locs cells slots) (hx : p.tables.exec = Jvm.exec) (hZ : Z.Warmed39 s.vm) (eT : T.heap = h) (F : Ary Z h a .int n f) {x : Int32} (q : j.toInt = (i : Int)) (hi : i < n) {g : JFrame} (hg : g.method = m) {rest : List Value} (hs : g.stack = .int x :: .int j :: .ref a :: rest) (hd : decode c.code g.pc = .ok (.iastore, 1)) :
    ∃ T' h', Stand p l e R s m args below meth c T' (locs ++ [⟨a, j.toNatClampNeg⟩]) cells slots ∧ T'.heap = h' ∧ Wr h h' a j.toNatClampNeg (.int x) ∧ Ary Z h' a .int n (fun y => if y = i then .int x else f y) ∧ ∀ t, Steps p.tables e below (T'.setTop { g with pc := g.pc + 1, stack := rest }) t → Steps p.tables e below (T.setTop g) t := by
  obtain ⟨cl, A, S, H⟩ := id F
  obtain ⟨T', h', X', e', W, st⟩ := stI X hx hZ eT A (own_inb S q hi) hg hs hd
  exact ⟨T', h', X', e', W, F.set W q hi, st⟩
theorem aStoJ (X : Stand p l e R s m args below meth c T locs cells slots) (hx : p.tables.exec = Jvm.exec) (hZ : Z.Warmed39 s.vm) (eT : T.heap = h) (F : Ary Z h a .long n f) {x : Int64} (q : j.toInt = (i : Int)) (hi : i < n) {g : JFrame} (hg : g.method = m) {rest : List Value} (hs : g.stack = .long x :: .int j :: .ref a :: rest) (hd : decode c.code g.pc = .ok (.lastore, 1)) :
    ∃ T' h', Stand p l e R s m args below meth c T' (locs ++ [⟨a, j.toNatClampNeg⟩]) cells slots ∧ T'.heap = h' ∧ Wr h h' a j.toNatClampNeg (.long x) ∧ Ary Z h' a .long n (fun y => if y = i then .long x else f y) ∧ ∀ t, Steps p.tables e below (T'.setTop { g with pc := g.pc + 1, stack := rest }) t → Steps p.tables e below (T.setTop g) t := by
  obtain ⟨cl, A, S, H⟩ := id F
  obtain ⟨T', h', X', e', W, st⟩ := stJ X hx hZ eT A (own_inb S q hi) hg hs hd
  exact ⟨T', h', X', e', W, F.set W q hi, st⟩
theorem aStoB (X : Stand p l e R s m args below meth c T locs cells slots) (hx : p.tables.exec = Jvm.exec) (hZ : Z.Warmed39 s.vm) (eT : T.heap = h) (F : Ary Z h a .byte n f) {x : Int32} (q : j.toInt = (i : Int)) (hi : i < n) {g : JFrame} (hg : g.method = m) {rest : List Value} (hs : g.stack = .int x :: .int j :: .ref a :: rest) (hd : decode c.code g.pc = .ok (.bastore, 1)) :
    ∃ T' h', Stand p l e R s m args below meth c T' (locs ++ [⟨a, j.toNatClampNeg⟩]) cells slots ∧ T'.heap = h' ∧ Wr h h' a j.toNatClampNeg (.int (nar .byte x)) ∧ Ary Z h' a .byte n (fun y => if y = i then .int (nar .byte x) else f y) ∧ ∀ t, Steps p.tables e below (T'.setTop { g with pc := g.pc + 1, stack := rest }) t → Steps p.tables e below (T.setTop g) t := by
  obtain ⟨cl, A, S, H⟩ := id F
  obtain ⟨T', h', X', e', W, st⟩ := stB X hx hZ eT A (own_inb S q hi) hg hs hd
  exact ⟨T', h', X', e', W, F.set W q hi, st⟩
theorem aCloneI {w : Nat → Int32} {a0 : Array Value} {own : String} {index : Nat} (X : Stand p l e R s m args below meth c T locs cells slots) (hx : p.tables.exec = Jvm.exec) (hZ : Z.Warmed39 s.vm) (hown : s.vm.findClass own = some m.cls)
    (w1 : (Jvm.Cond.methodLink own index ⟨"[I", "clone", "()Ljava/lang/Object;"⟩).before a0 Z = true) (w2 : (Jvm.Cond.sameMethod "[I" "java/lang/Object" "clone" "()Ljava/lang/Object;").before a0 Z = true) (w3 : (Jvm.Cond.native ⟨"java/lang/Object", "clone", "()Ljava/lang/Object;"⟩).before a0 Z = true)
    (w4 : (Jvm.Cond.instanceMethod ⟨"java/lang/Object", "clone", "()Ljava/lang/Object;"⟩).before a0 Z = true) (w5 : (Jvm.Cond.selects "[I" ⟨"[I", "clone", "()Ljava/lang/Object;"⟩ ⟨"java/lang/Object", "clone", "()Ljava/lang/Object;"⟩).before a0 Z = true) (w6 : (Jvm.Cond.castable "[I" "java/lang/Cloneable").before a0 Z = true)
    (eT : T.heap = h) (F : Ary Z h a .int n (fun x => .int (w x))) (E : Exa Z h a "[I") {g : JFrame} (hg : g.method = m) (hsize : g.locals.size = c.maxLocals) {rest : List Value} (hs : g.stack = .ref a :: rest) (hd : decode c.code g.pc = .ok (.invokevirtual index, 3))
    (hf : 1 ≤ R.frames) {W cap : Nat} (hW : 2 * g.monitorRoom + (rest.map fun v => v.category).sum ≤ W) (hl : W + 14 ≤ R.locals) (hcap : n ≤ cap) (hc : cells + 1 ≤ R.cells) (hsl : slots + cap ≤ R.slots) :
    ∃ T' h', Stand p l e R s m args below meth c T' locs (cells + 1) (slots + cap) ∧ T'.heap = h' ∧ Ext h h' ∧ Ary Z h' h.size .int n (fun x => .int (w x)) ∧ Exa Z h' h.size "[I" ∧
      ∀ t, Steps p.tables e below (T'.setTop { g with pc := g.pc + 3, stack := .ref h.size :: rest }) t → Steps p.tables e below (T.setTop g) t := by
  obtain ⟨cl, A, S, H⟩ := F
  have FC : FitC Z cl := fitC_of A fun i hi v hv => by rw [H i (by rw [← S]; exact hi)] at hv; cases hv; rfl
  obtain ⟨T', h', X', e', ex, A', E', st⟩ := cloneA X hx hZ hown w1 w2 w3 w4 w5 w6 eT A E FC hg hsize hs hd hf hW hl (by rw [S]; exact hcap) hc hsl
  exact ⟨T', h', X', e', ex, ⟨cloneOf cl, A', S, H⟩, E', st⟩
end OwnAry
theorem own_ix {x k : Int32} {o i : Nat} (hx : x.toInt = (o : Int)) (hk : k.toInt = (i : Int)) (hb : o + i < 2147483648) : (x + k).toInt = ((o + i : Nat) : Int) := by
  rw [Jvm.Kit.i32_add (by omega) (by omega), hx, hk]; omega
theorem own_rem (x d : Int32) (D : Nat) (hd : d.toInt = (D : Int)) (hD : 0 < D) : ∃ k : Nat, ((x &&& 2147483647) % d).toInt = (k : Int) ∧ k < D := by
  have e : (x &&& 2147483647).toInt = x.toInt % 2 ^ 31 := Jvm.Kit.i32_mask x 2147483647 (k := 31) (by decide) (by decide)
  have h0 : 0 ≤ (x &&& 2147483647).toInt := by rw [e]; omega
  have r : ((x &&& 2147483647) % d).toInt = (x &&& 2147483647).toInt % (D : Int) := by rw [Jvm.Kit.i32_rem_nonneg h0, hd]
  have h1 := Int.emod_nonneg (x &&& 2147483647).toInt (show (D : Int) ≠ 0 by omega)
  have h2 := Int.emod_lt_of_pos (x &&& 2147483647).toInt (show (0 : Int) < D by omega)
  exact ⟨((x &&& 2147483647).toInt % (D : Int)).toNat, by rw [r]; omega, by omega⟩
theorem own_ofNat {x : Int32} {n : Nat} (h : x.toInt = (n : Int)) : x = Int32.ofNat n := by
  have hn : n < 2 ^ 31 := by have := x.toInt_lt; omega
  exact Int32.toInt_inj.mp (h.trans (Int32.toInt_ofNat_of_lt hn).symm)
/-! the numbers -/
def own_mask (x : Int32) : Int64 := (((-1 : Int64).toUInt64 >>> (((64 : Int32) - x) &&& 0x3f).toInt64.toUInt64).toInt64)
def own_len (ct bb : Nat) : Nat := (ct * bb + 63) / 64 + 1
def own_st (f : Nat → Int64) (W : Nat) (z : Int64) (j : Nat) : Int64 := if j = W then z else f j
theorem own_st_eq {f : Nat → Int64} {W n : Nat} {z z' : Int64} (h : z' = z) : ∀ j, j < n → Value.long (own_st f W z' j) = if j = W then Value.long z else Value.long (f j) := fun j _ => by
  unfold own_st; subst h; split <;> rfl
def own_w1 (o m v : Int64) (S : Int32) : Int64 := ((o &&& ((m <<< (S &&& 0x3f).toInt64) ^^^ (-1 : Int64))) ||| (v <<< (S &&& 0x3f).toInt64))
def own_w2 (o m v : Int64) (S : Int32) : Int64 := ((o &&& (((m.toUInt64 >>> (((64 : Int32) - S) &&& 0x3f).toInt64.toUInt64).toInt64) ^^^ (-1 : Int64))) ||| ((v.toUInt64 >>> (((64 : Int32) - S) &&& 0x3f).toInt64.toUInt64).toInt64))
def own_set1 (f : Nat → Int64) (i b : Nat) (m v : Int64) : Nat → Int64 := own_st f (i * b / 64) (own_w1 (f (i * b / 64)) m v (Int32.ofNat (i * b % 64)))
def own_set2 (f : Nat → Int64) (i b : Nat) (m v : Int64) : Nat → Int64 := own_st (own_set1 f i b m v) (i * b / 64 + 1) (own_w2 (own_set1 f i b m v (i * b / 64 + 1)) m v (Int32.ofNat (i * b % 64)))
def own_set (f : Nat → Int64) (i b : Nat) (m v : Int64) : Nat → Int64 := if 64 < i * b % 64 + b then own_set2 f i b m v else own_set1 f i b m v
def own_get (f : Nat → Int64) (i b : Nat) (m : Int64) : Int64 := if 64 < i * b % 64 + b then ((((f (i * b / 64)).toUInt64 >>> ((Int32.ofNat (i * b % 64)) &&& 0x3f).toInt64.toUInt64).toInt64 ||| (f (i * b / 64 + 1) <<< (((64 : Int32) - (Int32.ofNat (i * b % 64))) &&& 0x3f).toInt64)) &&& m) else (((f (i * b / 64)).toUInt64 >>> ((Int32.ofNat (i * b % 64)) &&& 0x3f).toInt64.toUInt64).toInt64 &&& m)
theorem own_nlt1 {x : Int32} {b : Nat} (h : x.toInt = (b : Int)) (hb : 1 ≤ b) : ¬ (x < (1 : Int32)) := by
  rw [Int32.lt_iff_toInt_lt, show (1 : Int32).toInt = 1 from rfl]; omega
theorem own_ngt64 {x : Int32} {b : Nat} (h : x.toInt = (b : Int)) (hb : b ≤ 64) : ¬ ((64 : Int32) < x) := by
  rw [Int32.lt_iff_toInt_lt, show (64 : Int32).toInt = 64 from rfl]; omega
theorem own_mulle {i b c : Nat} (hi : i ≤ c) (hb : b ≤ 64) : i * b ≤ c * 64 := Nat.mul_le_mul hi hb
theorem own_prod {x y : Int32} {i b : Nat} (hx : x.toInt = (i : Int)) (hy : y.toInt = (b : Int)) (hi : i ≤ 1000) (hb : b ≤ 64) : (x.toInt64 * y.toInt64).toInt = ((i * b : Nat) : Int) := by
  have h := own_mulle hi hb
  have e : x.toInt64.toInt * y.toInt64.toInt = ((i * b : Nat) : Int) := by rw [Jvm.Kit.i64_of_i32, Jvm.Kit.i64_of_i32, hx, hy]; simp
  rw [Jvm.Kit.i64_mul (by omega) (by omega), e]
theorem own_newlen {x y n : Int32} {ct b : Nat} (hx : x.toInt = (ct : Int)) (hy : y.toInt = (b : Int)) (hb : b ≤ 64) (hct : ct ≤ 130) (hn : (((((x.toInt64 * y.toInt64) + (64 : Int64)) - (1 : Int64)) / (64 : Int64)).toInt32 + (1 : Int32)) = n) : n.toInt = ((own_len ct b : Nat) : Int) := by
  have h := own_mulle hct hb
  have e0 := own_prod hx hy (by omega) hb
  have e64 : (64 : Int64).toInt = 64 := rfl
  have e1 : (1 : Int64).toInt = 1 := rfl
  have a1 : ((x.toInt64 * y.toInt64) + (64 : Int64)).toInt = ((ct * b : Nat) : Int) + 64 := by rw [Jvm.Kit.i64_add (by omega) (by omega), e0, e64]
  have a2 : (((x.toInt64 * y.toInt64) + (64 : Int64)) - (1 : Int64)).toInt = ((ct * b : Nat) : Int) + 63 := by rw [Jvm.Kit.i64_sub (by omega) (by omega), a1, e1]; omega
  have a3 : ((((x.toInt64 * y.toInt64) + (64 : Int64)) - (1 : Int64)) / (64 : Int64)).toInt = (((ct * b : Nat) : Int) + 63) / 64 := by
    rw [Jvm.Kit.i64_div (by omega), a2, e64, Int.tdiv_eq_ediv_of_nonneg (by omega)]
  have a4 : ((((x.toInt64 * y.toInt64) + (64 : Int64)) - (1 : Int64)) / (64 : Int64)).toInt32.toInt = (((ct * b : Nat) : Int) + 63) / 64 := by
    rw [Jvm.Kit.i32_of_i64 (by omega) (by omega), a3]
  rw [← hn, Jvm.Kit.i32_add (by rw [a4, show (1 : Int32).toInt = 1 from rfl]; omega) (by rw [a4, show (1 : Int32).toInt = 1 from rfl]; omega), a4, show (1 : Int32).toInt = 1 from rfl]
  unfold own_len; omega
theorem own_len_le {ct b c : Nat} (hb : b ≤ 64) (hct : ct ≤ c) : own_len ct b ≤ c + 1 := by
  have := own_mulle hct hb
  unfold own_len; omega
theorem own_pos {x y : Int32} {p : Int64} {i b : Nat} (hx : x.toInt = (i : Int)) (hy : y.toInt = (b : Int)) (hb : b ≤ 64) (hi : i ≤ 1000) (hp : (x.toInt64 * y.toInt64) = p) : p.toInt = ((i * b : Nat) : Int) := by
  rw [← hp]; exact own_prod hx hy hi hb
theorem own_word {p : Int64} {w : Int32} {i b : Nat} (hp : p.toInt = ((i * b : Nat) : Int)) (hb : b ≤ 64) (hi : i ≤ 1000) (hw : (((p.toUInt64 >>> ((6 : Int32) &&& 0x3f).toInt64.toUInt64).toInt64).toInt32) = w) : w.toInt = ((i * b / 64 : Nat) : Int) := by
  have h := own_mulle hi hb
  have e : ((p.toUInt64 >>> ((6 : Int32) &&& 0x3f).toInt64.toUInt64).toInt64).toInt = p.toInt / 2 ^ 6 := Jvm.Kit.i64_lushr (Jvm.Kit.i64_nonneg.mpr (by omega)) (by decide) (by decide)
  rw [← hw, Jvm.Kit.i32_of_i64 (by omega) (by omega), e, hp]; omega
theorem own_word1 {w : Int32} {i b : Nat} (hw : w.toInt = ((i * b / 64 : Nat) : Int)) (hb : b ≤ 64) (hi : i ≤ 1000) : (w + (1 : Int32)).toInt = ((i * b / 64 + 1 : Nat) : Int) := by
  have h := own_mulle hi hb
  exact own_ix hw (i := 1) rfl (by omega)
theorem own_bit {p : Int64} {i b : Nat} (hp : p.toInt = ((i * b : Nat) : Int)) (hb : b ≤ 64) (hi : i ≤ 1000) : ((p &&& (63 : Int64)).toInt32) = Int32.ofNat (i * b % 64) := by
  have h := own_mulle hi hb
  have e : (p &&& (63 : Int64)).toInt = p.toInt % 2 ^ 6 := Jvm.Kit.i64_mask p 63 (k := 6) (by decide) (by decide)
  refine own_ofNat ?_
  rw [Jvm.Kit.i32_of_i64 (by omega) (by omega), e, hp]; omega
theorem own_cmp {xb : Int32} {s b : Nat} (hxb : xb.toInt = (b : Int)) (hb : b ≤ 64) (hs : s < 64) : ((64 : Int32) < ((Int32.ofNat s) + xb)) ↔ 64 < s + b := by
  have e : (Int32.ofNat s).toInt = (s : Int) := Int32.toInt_ofNat_of_lt (by omega)
  rw [Int32.lt_iff_toInt_lt, Jvm.Kit.i32_add (by omega) (by omega), e, hxb, show (64 : Int32).toInt = 64 from rfl]; omega
theorem own_set_two {xb : Int32} {f : Nat → Int64} {i b n : Nat} {m v : Int64} (hxb : xb.toInt = (b : Int)) (hb : b ≤ 64) (h64 : (64 : Int32) < ((Int32.ofNat (i * b % 64)) + xb)) : ∀ j, j < n → Value.long (own_set f i b m v j) = Value.long (own_set2 f i b m v j) := fun j _ => by
  unfold own_set; rw [if_pos ((own_cmp hxb hb (Nat.mod_lt _ (by decide))).mp h64)]
theorem own_set_one {xb : Int32} {f : Nat → Int64} {i b n : Nat} {m v : Int64} (hxb : xb.toInt = (b : Int)) (hb : b ≤ 64) (h64 : ¬ ((64 : Int32) < ((Int32.ofNat (i * b % 64)) + xb))) : ∀ j, j < n → Value.long (own_set f i b m v j) = Value.long (own_set1 f i b m v j) := fun j _ => by
  unfold own_set; rw [if_neg (fun q => h64 ((own_cmp hxb hb (Nat.mod_lt _ (by decide))).mpr q))]
theorem own_get_two {xb : Int32} {f : Nat → Int64} {i b : Nat} {m : Int64} (hxb : xb.toInt = (b : Int)) (hb : b ≤ 64) (h64 : (64 : Int32) < ((Int32.ofNat (i * b % 64)) + xb)) : own_get f i b m = ((((f (i * b / 64)).toUInt64 >>> ((Int32.ofNat (i * b % 64)) &&& 0x3f).toInt64.toUInt64).toInt64 ||| (f (i * b / 64 + 1) <<< (((64 : Int32) - (Int32.ofNat (i * b % 64))) &&& 0x3f).toInt64)) &&& m) := by
  unfold own_get; rw [if_pos ((own_cmp hxb hb (Nat.mod_lt _ (by decide))).mp h64)]
theorem own_get_one {xb : Int32} {f : Nat → Int64} {i b : Nat} {m : Int64} (hxb : xb.toInt = (b : Int)) (hb : b ≤ 64) (h64 : ¬ ((64 : Int32) < ((Int32.ofNat (i * b % 64)) + xb))) : own_get f i b m = (((f (i * b / 64)).toUInt64 >>> ((Int32.ofNat (i * b % 64)) &&& 0x3f).toInt64.toUInt64).toInt64 &&& m) := by
  unfold own_get; rw [if_neg (fun q => h64 ((own_cmp hxb hb (Nat.mod_lt _ (by decide))).mpr q))]
/-! the bits -/
abbrev own_g (x : Int64) (j : Nat) : Bool := x.toBitVec.getLsbD j
theorem own_ext {x y : Int64} (h : ∀ j, j < 64 → own_g x j = own_g y j) : x = y := Int64.toBitVec_inj.mp (BitVec.eq_of_getLsbD_eq fun j hj => h j hj)
theorem own_amtL : ∀ s, s < 64 → ((((Int32.ofNat s) &&& 0x3f).toInt64).toBitVec.smod 64).toNat = s := by decide +kernel
theorem own_amtR : ∀ s, s < 64 → (((Int32.ofNat s) &&& 0x3f).toInt64.toUInt64).toNat = s := by decide +kernel
theorem own_amtL' : ∀ s, s < 64 → (((((64 : Int32) - Int32.ofNat s) &&& 0x3f).toInt64).toBitVec.smod 64).toNat = (64 - s) % 64 := by decide +kernel
theorem own_amtR' : ∀ s, s < 64 → ((((64 : Int32) - Int32.ofNat s) &&& 0x3f).toInt64.toUInt64).toNat = (64 - s) % 64 := by decide +kernel
theorem own_shl (x n : Int64) {k : Nat} (hn : (n.toBitVec.smod 64).toNat = k) : (x <<< n).toBitVec = x.toBitVec <<< k := by
  have e : (x <<< n).toBitVec = x.toBitVec <<< (n.toBitVec.smod 64) := rfl
  rw [e, BitVec.shiftLeft_eq', hn]
theorem own_shr (x : Int64) (n : UInt64) {k : Nat} (hn : n.toNat = k) (hk : k < 64) : ((x.toUInt64 >>> n).toInt64).toBitVec = x.toBitVec >>> k := by
  simp only [UInt64.toBitVec_toInt64, UInt64.toBitVec_shiftRight, Int64.toBitVec_toUInt64, BitVec.ushiftRight_eq']
  congr 1
  simp [hn, Nat.mod_eq_of_lt hk]
theorem own_not (x : Int64) {j : Nat} (hj : j < 64) : own_g (x ^^^ (-1 : Int64)) j = !(own_g x j) := by
  show (x.toBitVec ^^^ (-1 : Int64).toBitVec).getLsbD j = _
  have e : (-1 : Int64).toBitVec = BitVec.allOnes 64 := by decide
  rw [e, BitVec.getLsbD_xor, BitVec.getLsbD_allOnes]; simp [hj]
theorem own_maskbits : ∀ b, b < 65 → 1 ≤ b → ∀ j, j < 64 → own_g (own_mask (Int32.ofNat b)) j = decide (j < b) := by decide +kernel
theorem own_w1bit {o m v : Int64} {s b t : Nat} (hs : s < 64) (ht : t < 64) (hm : ∀ j, j < 64 → own_g m j = decide (j < b)) (hv : ∀ j, b ≤ j → own_g v j = false) : own_g (own_w1 o m v (Int32.ofNat s)) t = if s ≤ t ∧ t - s < b then own_g v (t - s) else own_g o t := by
  have e1 : own_g (own_w1 o m v (Int32.ofNat s)) t = ((own_g o t && own_g ((m <<< ((Int32.ofNat s) &&& 0x3f).toInt64) ^^^ (-1 : Int64)) t) || own_g (v <<< ((Int32.ofNat s) &&& 0x3f).toInt64) t) := by
    show ((o.toBitVec &&& _) ||| _).getLsbD t = _
    rw [BitVec.getLsbD_or, BitVec.getLsbD_and]
  rw [e1, own_not _ ht]
  unfold own_g at *
  rw [own_shl m _ (own_amtL s hs), own_shl v _ (own_amtL s hs), BitVec.getLsbD_shiftLeft, BitVec.getLsbD_shiftLeft]
  by_cases q : s ≤ t
  · rw [hm (t - s) (by omega)]
    by_cases r : t - s < b
    · simp [q, r, ht, Nat.not_lt.mpr q]
    · rw [hv (t - s) (by omega)]; simp [q, r, ht, Nat.not_lt.mpr q]
  · simp [q, ht, Nat.lt_of_not_le q]
theorem own_w2bit {o m v : Int64} {s b t : Nat} (h0 : 0 < s) (hs : s < 64) (ht : t < 64) (hm : ∀ j, j < 64 → own_g m j = decide (j < b)) (hv : ∀ j, b ≤ j → own_g v j = false) : own_g (own_w2 o m v (Int32.ofNat s)) t = if t + (64 - s) < b ∧ t + (64 - s) < 64 then own_g v (t + (64 - s)) else own_g o t := by
  have e1 : own_g (own_w2 o m v (Int32.ofNat s)) t = ((own_g o t && own_g (((m.toUInt64 >>> (((64 : Int32) - Int32.ofNat s) &&& 0x3f).toInt64.toUInt64).toInt64) ^^^ (-1 : Int64)) t) || own_g ((v.toUInt64 >>> (((64 : Int32) - Int32.ofNat s) &&& 0x3f).toInt64.toUInt64).toInt64) t) := by
    show ((o.toBitVec &&& _) ||| _).getLsbD t = _
    rw [BitVec.getLsbD_or, BitVec.getLsbD_and]
  have ea : (64 - s) % 64 = 64 - s := Nat.mod_eq_of_lt (by omega)
  rw [e1, own_not _ ht]
  unfold own_g at *
  rw [own_shr m _ (own_amtR' s hs) (by omega), own_shr v _ (own_amtR' s hs) (by omega), BitVec.getLsbD_ushiftRight, BitVec.getLsbD_ushiftRight, ea, Nat.add_comm (64 - s) t]
  by_cases r : t + (64 - s) < 64
  · rw [hm _ r]
    by_cases q : t + (64 - s) < b
    · simp [q, r]
    · rw [hv _ (by omega)]; simp [q]
  · rw [BitVec.getLsbD_of_ge m.toBitVec (t + (64 - s)) (by omega), BitVec.getLsbD_of_ge v.toBitVec (t + (64 - s)) (by omega)]; simp [r]
def own_B (f : Nat → Int64) (q : Nat) : Bool := own_g (f (q / 64)) (q % 64)
theorem own_setB {f : Nat → Int64} {i b : Nat} {m v : Int64} (hb : b ≤ 64) (hm : ∀ j, j < 64 → own_g m j = decide (j < b)) (hv : ∀ j, b ≤ j → own_g v j = false) (q : Nat) : own_B (own_set f i b m v) q = if i * b ≤ q ∧ q < i * b + b then own_g v (q - i * b) else own_B f q := by
  unfold own_B own_set own_set2 own_set1
  generalize i * b = p
  have hq : q % 64 < 64 := Nat.mod_lt _ (by decide)
  have hp : p % 64 < 64 := Nat.mod_lt _ (by decide)
  by_cases c : 64 < p % 64 + b
  · rw [if_pos c]
    by_cases d : q / 64 = p / 64 + 1
    · rw [show own_st (own_st f (p / 64) (own_w1 (f (p / 64)) m v (Int32.ofNat (p % 64)))) (p / 64 + 1) (own_w2 (own_st f (p / 64) (own_w1 (f (p / 64)) m v (Int32.ofNat (p % 64))) (p / 64 + 1)) m v (Int32.ofNat (p % 64))) (q / 64) = own_w2 (f (q / 64)) m v (Int32.ofNat (p % 64)) by
        unfold own_st; rw [if_pos d, if_neg (by omega), d]]
      rw [own_w2bit (by omega) hp hq hm hv]
      by_cases r : q % 64 + (64 - p % 64) < b
      · rw [if_pos ⟨r, by omega⟩, if_pos (by omega)]; congr 1; omega
      · rw [if_neg (by omega), if_neg (by omega)]
    · by_cases d' : q / 64 = p / 64
      · rw [show own_st (own_st f (p / 64) (own_w1 (f (p / 64)) m v (Int32.ofNat (p % 64)))) (p / 64 + 1) (own_w2 (own_st f (p / 64) (own_w1 (f (p / 64)) m v (Int32.ofNat (p % 64))) (p / 64 + 1)) m v (Int32.ofNat (p % 64))) (q / 64) = own_w1 (f (q / 64)) m v (Int32.ofNat (p % 64)) by
          unfold own_st; rw [if_neg d, if_pos d', d']]
        rw [own_w1bit hp hq hm hv]
        by_cases r : p % 64 ≤ q % 64
        · rw [if_pos ⟨r, by omega⟩, if_pos (by omega)]; congr 1; omega
        · rw [if_neg (by omega), if_neg (by omega)]
      · rw [show own_st (own_st f (p / 64) (own_w1 (f (p / 64)) m v (Int32.ofNat (p % 64)))) (p / 64 + 1) (own_w2 (own_st f (p / 64) (own_w1 (f (p / 64)) m v (Int32.ofNat (p % 64))) (p / 64 + 1)) m v (Int32.ofNat (p % 64))) (q / 64) = f (q / 64) by
          unfold own_st; rw [if_neg d, if_neg d']]
        rw [if_neg (by omega)]
  · rw [if_neg c]
    by_cases d' : q / 64 = p / 64
    · rw [show own_st f (p / 64) (own_w1 (f (p / 64)) m v (Int32.ofNat (p % 64))) (q / 64) = own_w1 (f (q / 64)) m v (Int32.ofNat (p % 64)) by
        unfold own_st; rw [if_pos d', d']]
      rw [own_w1bit hp hq hm hv]
      by_cases r : p % 64 ≤ q % 64 ∧ q % 64 - p % 64 < b
      · rw [if_pos r, if_pos (by omega)]; congr 1; omega
      · rw [if_neg r, if_neg (by omega)]
    · rw [show own_st f (p / 64) (own_w1 (f (p / 64)) m v (Int32.ofNat (p % 64))) (q / 64) = f (q / 64) by
        unfold own_st; rw [if_neg d']]
      rw [if_neg (by omega)]
theorem own_and (x y : Int64) (j : Nat) : own_g (x &&& y) j = (own_g x j && own_g y j) := by
  show (x.toBitVec &&& y.toBitVec).getLsbD j = _
  rw [BitVec.getLsbD_and]
theorem own_or (x y : Int64) (j : Nat) : own_g (x ||| y) j = (own_g x j || own_g y j) := by
  show (x.toBitVec ||| y.toBitVec).getLsbD j = _
  rw [BitVec.getLsbD_or]
theorem own_g0s (j : Nat) : own_g (0 : Int64) j = false := by
  show (BitVec.ofNat 64 0).getLsbD j = false
  simp
theorem own_hold {x : Int32} {b : Nat} (hx : x.toInt = (b : Int)) (hb1 : 1 ≤ b) (hb2 : b ≤ 64) (y : Int64) : ((y &&& (own_mask x)) &&& ((own_mask x) ^^^ (-1 : Int64))) = (0 : Int64) := by
  refine own_ext fun j hj => ?_
  rw [own_and, own_and, own_not _ hj, own_g0s]
  cases own_g (own_mask x) j <;> simp
theorem own_bits {x t : Int32} (h : (x &&& (63 : Int32)) + (1 : Int32) = t) : ∃ b : Nat, t.toInt = (b : Int) ∧ 1 ≤ b ∧ b ≤ 64 := by
  have e : (x &&& 63).toInt = x.toInt % 2 ^ 6 := Jvm.Kit.i32_mask x 63 (k := 6) (by decide) (by decide)
  have e1 : (1 : Int32).toInt = 1 := rfl
  have e2 : t.toInt = x.toInt % 2 ^ 6 + 1 := by rw [← h, Jvm.Kit.i32_add (by rw [e, e1]; omega) (by rw [e, e1]; omega), e, e1]
  exact ⟨(x.toInt % 2 ^ 6 + 1).toNat, by omega, by omega, by omega⟩
theorem d2_0 : decode prog_25_method_1_code 0 = .ok (.aload_n 0, 1) := by decide +kernel
theorem d2_1 : decode prog_25_method_1_code 1 = .ok (.invokespecial 1, 3) := by decide +kernel
theorem d2_4 : decode prog_25_method_1_code 4 = .ok (.iload_n 2, 1) := by decide +kernel
theorem d2_5 : decode prog_25_method_1_code 5 = .ok (.iconst 1, 1) := by decide +kernel
theorem d2_6 : decode prog_25_method_1_code 6 = .ok (.if_icmp .lt 9, 3) := by decide +kernel
theorem d2_9 : decode prog_25_method_1_code 9 = .ok (.iload_n 2, 1) := by decide +kernel
theorem d2_10 : decode prog_25_method_1_code 10 = .ok (.bipush 64, 2) := by decide +kernel
theorem d2_12 : decode prog_25_method_1_code 12 = .ok (.if_icmp .le 17, 3) := by decide +kernel
theorem d2_29 : decode prog_25_method_1_code 29 = .ok (.aload_n 0, 1) := by decide +kernel
theorem d2_30 : decode prog_25_method_1_code 30 = .ok (.iload_n 1, 1) := by decide +kernel
theorem d2_31 : decode prog_25_method_1_code 31 = .ok (.putfield 18, 3) := by decide +kernel
theorem d2_34 : decode prog_25_method_1_code 34 = .ok (.aload_n 0, 1) := by decide +kernel
theorem d2_35 : decode prog_25_method_1_code 35 = .ok (.iload_n 2, 1) := by decide +kernel
theorem d2_36 : decode prog_25_method_1_code 36 = .ok (.putfield 24, 3) := by decide +kernel
theorem d2_39 : decode prog_25_method_1_code 39 = .ok (.aload_n 0, 1) := by decide +kernel
theorem d2_40 : decode prog_25_method_1_code 40 = .ok (.ldc2_w 27, 3) := by decide +kernel
theorem d2_43 : decode prog_25_method_1_code 43 = .ok (.bipush 64, 2) := by decide +kernel
theorem d2_45 : decode prog_25_method_1_code 45 = .ok (.iload_n 2, 1) := by decide +kernel
theorem d2_46 : decode prog_25_method_1_code 46 = .ok (.isub, 1) := by decide +kernel
theorem d2_47 : decode prog_25_method_1_code 47 = .ok (.lushr, 1) := by decide +kernel
theorem d2_48 : decode prog_25_method_1_code 48 = .ok (.putfield 29, 3) := by decide +kernel
theorem d2_51 : decode prog_25_method_1_code 51 = .ok (.aload_n 0, 1) := by decide +kernel
theorem d2_52 : decode prog_25_method_1_code 52 = .ok (.iload_n 1, 1) := by decide +kernel
theorem d2_53 : decode prog_25_method_1_code 53 = .ok (.i2l, 1) := by decide +kernel
theorem d2_54 : decode prog_25_method_1_code 54 = .ok (.iload_n 2, 1) := by decide +kernel
theorem d2_55 : decode prog_25_method_1_code 55 = .ok (.i2l, 1) := by decide +kernel
theorem d2_56 : decode prog_25_method_1_code 56 = .ok (.lmul, 1) := by decide +kernel
theorem d2_57 : decode prog_25_method_1_code 57 = .ok (.ldc2_w 33, 3) := by decide +kernel
theorem d2_60 : decode prog_25_method_1_code 60 = .ok (.ladd, 1) := by decide +kernel
theorem d2_61 : decode prog_25_method_1_code 61 = .ok (.lconst 1, 1) := by decide +kernel
theorem d2_62 : decode prog_25_method_1_code 62 = .ok (.lsub, 1) := by decide +kernel
theorem d2_63 : decode prog_25_method_1_code 63 = .ok (.ldc2_w 33, 3) := by decide +kernel
theorem d2_66 : decode prog_25_method_1_code 66 = .ok (.ldiv, 1) := by decide +kernel
theorem d2_67 : decode prog_25_method_1_code 67 = .ok (.l2i, 1) := by decide +kernel
theorem d2_68 : decode prog_25_method_1_code 68 = .ok (.iconst 1, 1) := by decide +kernel
theorem d2_69 : decode prog_25_method_1_code 69 = .ok (.iadd, 1) := by decide +kernel
theorem d2_70 : decode prog_25_method_1_code 70 = .ok (.newarray .long, 2) := by decide +kernel
theorem d2_72 : decode prog_25_method_1_code 72 = .ok (.putfield 35, 3) := by decide +kernel
theorem d2_75 : decode prog_25_method_1_code 75 = .ok (.return_, 1) := by decide +kernel
theorem pn_0 : plainName "com/example/hindcut/hindcut/PackedNumbers" = true := by first | (simp [plainName, overriddenIn]; done) | decide +kernel
theorem ef_rm2 (m : MethodId) (x0 : Addr) (x1 : Int32) (x2 : Int32) : entryFrame m #[(.ref x0), (.int x1), (.int x2)] 3 = mkF m 0 #[.val (.ref x0), .val (.int x1), .val (.int x2)] [] := by first | (simp [entryFrame, mkF, argsToLocals, Value.category]; done) | rfl
def Q2 (Z : State) (a1 : Addr) (x1 : Int32) (x2 : Int32) (u0 : Value) (u1 : Value) (u2 : Value) (u3 : Value) (ct : Nat) (bb : Nat) (h0 : Heap) (n0 : Nat) (v : Option Value) (h : Heap) (L : List Loc) : Prop := v = none ∧ Fr n0 L ∧ Keep h0 h [a1] ∧ Fld Z h a1 "com/example/hindcut/hindcut/PackedNumbers" "bits" "I" (.int x2) ∧ Fld Z h a1 "com/example/hindcut/hindcut/PackedNumbers" "mask" "J" (.long (own_mask x2)) ∧ ∃ b : Addr, h0.size ≤ b ∧ Fld Z h a1 "com/example/hindcut/hindcut/PackedNumbers" "words" "[J" (.ref b) ∧ Ary Z h b .long (own_len ct bb) (fun _ => .long (0 : Int64))
set_option maxRecDepth 65536 in
set_option maxHeartbeats 40000000 in
theorem rm2 (l : Launch) (Z : State) (a0 : Array Value) (hw : ∀ d ∈ tables_1, d.before a0 Z = true) (ws : List Jvm.Cond) (a1 : Addr) (x1 : Int32) (x2 : Int32) (u0 : Value) (u1 : Value) (u2 : Value) (u3 : Value) (ct : Nat) (bb : Nat) (h0 : Heap) (n0 : Nat) (Z0 : n0 ≤ h0.size) (E_a1 : Exa Z h0 a1 "com/example/hindcut/hindcut/PackedNumbers") (F_count : Fld Z h0 a1 "com/example/hindcut/hindcut/PackedNumbers" "count" "I" u0) (F_bits : Fld Z h0 a1 "com/example/hindcut/hindcut/PackedNumbers" "bits" "I" u1) (F_mask : Fld Z h0 a1 "com/example/hindcut/hindcut/PackedNumbers" "mask" "J" u2) (F_words : Fld Z h0 a1 "com/example/hindcut/hindcut/PackedNumbers" "words" "[J" u3) (g_a1 : n0 ≤ a1) (hx1 : x1.toInt = (ct : Int)) (hx2 : x2.toInt = (bb : Int)) (hb1 : 1 ≤ bb) (hb2 : bb ≤ 64) (hct : ct ≤ 66) :
    MetFree l (⟨"com/example/hindcut/hindcut/PackedNumbers", "<init>", "(II)V"⟩ : MethodName) (head1 (Jvm.Cond.code (⟨"com/example/hindcut/hindcut/PackedNumbers", "<init>", "(II)V"⟩ : MethodName) prog_25_method_1_code 3 none :: ws) ({ frames := 1, cells := 1, slots := 67, locals := 12 } : Room)) (fun a U => a = #[(.ref a1), (.int x1), (.int x2)] ∧ Z.Warmed39 U.vm ∧ U.heap = h0) (fun _ _ _ _ _ => True) (fun _ U o U' => ∃ v L, o = .returned v ∧ Q2 Z a1 x1 x2 u0 u1 u2 u3 ct bb h0 n0 v U'.heap L ∧ FrameEnd U o U' L ({ frames := 1, cells := 1, slots := 67, locals := 12 } : Room).cells ({ frames := 1, cells := 1, slots := 67, locals := 12 } : Room).slots) := by
  refine MetFree.of_bodySF (plainFor_of_name pn_0) hisR ?_
  intro p e s m args below meth c s₁ Bd hml0 hP hK
  obtain ⟨rfl, hZ, hh⟩ := hP
  have hx := Bd.exec
  have hby := Bd.bytes
  have hml : c.maxLocals = 3 := hml0
  have hown : s.vm.findClass "com/example/hindcut/hindcut/PackedNumbers" = some m.cls := findClass_of_methodNamed Bd.named
  have hnm := (name_of_methodNamed Bd.named Bd.method).1
  have X0 : Stand p l e ({ frames := 1, cells := 1, slots := 67, locals := 12 } : Room) s m #[(.ref a1), (.int x1), (.int x2)] below meth c s₁ [] 0 0 := Stand.of_body Bd
  have e0 : s₁.heap = h0 := by rw [← hh, Bd.state]; rfl
  have N0 := Fr.nil n0
  have K0 := Keep.refl h0 [a1]
  suffices hD : Dn p e below s (Q2 Z a1 x1 x2 u0 u1 u2 u3 ct bb h0 n0) ({ frames := 1, cells := 1, slots := 67, locals := 12 } : Room).cells ({ frames := 1, cells := 1, slots := 67, locals := 12 } : Room).slots s₁ (mkF m 0 #[.val (.ref a1), .val (.int x1), .val (.int x2)] []) from by
    obtain ⟨s₂, o, q1, q2⟩ := hD
    exact ⟨s₂, o, castTop (ef_rm2 m a1 x1 x2) q1, q2⟩
  refine Dn.st (fun t q => XS.aloadN X0.here hx rfl (hb hby d2_0) rfl rfl  q) ?_
  show Dn p e below s _ _ _ s₁ (mkF m 1 #[.val (.ref a1), .val (.int x1), .val (.int x2)] [(.ref a1)])
  obtain ⟨T1, X1, e1, st1⟩ := initO X0 hx hZ hown (hw _ (List.mem_of_getElem? (i := 13) rfl)) (hw _ (List.mem_of_getElem? (i := 14) rfl)) (hw _ (List.mem_of_getElem? (i := 15) rfl)) e0 (g := (mkF m 1 #[.val (.ref a1), .val (.int x1), .val (.int x2)] [(.ref a1)])) rfl (by rw [hml]; rfl) rfl (hb hby d2_1) (by decide) (W := 0) (by show 2 * 0 + _ ≤ _; exact Nat.le_of_eq rfl) (by decide)
  refine Dn.st st1 ?_
  show Dn p e below s _ _ _ T1 (mkF m 4 #[.val (.ref a1), .val (.int x1), .val (.int x2)] [])
  refine Dn.st (fun t q => XS.iloadN X1.here hx rfl (hb hby d2_4) rfl  q) ?_
  show Dn p e below s _ _ _ T1 (mkF m 5 #[.val (.ref a1), .val (.int x1), .val (.int x2)] [(.int x2)])
  refine Dn.st (fun t q => XS.iconst X1.here hx rfl (hb hby d2_5) q) ?_
  show Dn p e below s _ _ _ T1 (mkF m 6 #[.val (.ref a1), .val (.int x1), .val (.int x2)] [(.int (1 : Int32)), (.int x2)])
  refine Dn.st (fun t q => XS.icmpNo X1.here hx rfl (hb hby d2_6) rfl (flt (own_nlt1 hx2 hb1)).1 q) ?_
  show Dn p e below s _ _ _ T1 (mkF m 9 #[.val (.ref a1), .val (.int x1), .val (.int x2)] [])
  refine Dn.st (fun t q => XS.iloadN X1.here hx rfl (hb hby d2_9) rfl  q) ?_
  show Dn p e below s _ _ _ T1 (mkF m 10 #[.val (.ref a1), .val (.int x1), .val (.int x2)] [(.int x2)])
  refine Dn.st (fun t q => XS.bipush X1.here hx rfl (hb hby d2_10) q) ?_
  show Dn p e below s _ _ _ T1 (mkF m 12 #[.val (.ref a1), .val (.int x1), .val (.int x2)] [(.int (64 : Int32)), (.int x2)])
  refine Dn.st (fun t q => XS.icmpYes X1.here hx rfl (pc0 := 12) (pc' := 29) rfl (hb hby d2_12) rfl (flt (own_ngt64 hx2 hb2)).2.2.2 (by decide) (by decide) q) ?_
  show Dn p e below s _ _ _ T1 (mkF m 29 #[.val (.ref a1), .val (.int x1), .val (.int x2)] [])
  refine Dn.st (fun t q => XS.aloadN X1.here hx rfl (hb hby d2_29) rfl rfl  q) ?_
  show Dn p e below s _ _ _ T1 (mkF m 30 #[.val (.ref a1), .val (.int x1), .val (.int x2)] [(.ref a1)])
  refine Dn.st (fun t q => XS.iloadN X1.here hx rfl (hb hby d2_30) rfl  q) ?_
  show Dn p e below s _ _ _ T1 (mkF m 31 #[.val (.ref a1), .val (.int x1), .val (.int x2)] [(.int x1), (.ref a1)])
  obtain ⟨T2, h2, X2, e2, W2, st2⟩ := putF X1 hx hZ hown (host := "") (Or.inl (hw _ (List.mem_of_getElem? (i := 16) rfl))) Via.refl e1 F_count E_a1 (Or.inr ⟨(hw _ (List.mem_of_getElem? (i := 17) rfl)), rfl, hnm⟩) (hw _ (List.mem_of_getElem? (i := 8) rfl)) (ty := .int) (by decide) rfl rfl (g := (mkF m 31 #[.val (.ref a1), .val (.int x1), .val (.int x2)] [(.int x1), (.ref a1)])) rfl rfl (hb hby d2_31)
  have N0 := Fr.snoc X2 N0 g_a1
  have Z0 := Nat.le_trans Z0 (Keep.of_wr W2).1
  have K0 := K0.wr W2 (Or.inl (List.mem_of_getElem? (i := 0) rfl))
  have E_a1 := E_a1.wr W2
  have F_count := F_count.same W2
  have F_bits := F_bits.other W2 (Or.inr (slot_ne (Or.inr (hw _ (List.mem_of_getElem? (i := 19) rfl))) (Or.inr (hw _ (List.mem_of_getElem? (i := 17) rfl))) (by decide) (t := .int) (t' := .int) (by decide) (by decide)))
  have F_mask := F_mask.other W2 (Or.inr (slot_ne (Or.inr (hw _ (List.mem_of_getElem? (i := 22) rfl))) (Or.inr (hw _ (List.mem_of_getElem? (i := 17) rfl))) (by decide) (t := .long) (t' := .int) (by decide) (by decide)))
  have F_words := F_words.other W2 (Or.inr (slot_ne (Or.inr (hw _ (List.mem_of_getElem? (i := 25) rfl))) (Or.inr (hw _ (List.mem_of_getElem? (i := 17) rfl))) (by decide) (t := (.array .long)) (t' := .int) (by decide) (by decide)))
  refine Dn.st st2 ?_
  show Dn p e below s _ _ _ T2 (mkF m 34 #[.val (.ref a1), .val (.int x1), .val (.int x2)] [])
  refine Dn.st (fun t q => XS.aloadN X2.here hx rfl (hb hby d2_34) rfl rfl  q) ?_
  show Dn p e below s _ _ _ T2 (mkF m 35 #[.val (.ref a1), .val (.int x1), .val (.int x2)] [(.ref a1)])
  refine Dn.st (fun t q => XS.iloadN X2.here hx rfl (hb hby d2_35) rfl  q) ?_
  show Dn p e below s _ _ _ T2 (mkF m 36 #[.val (.ref a1), .val (.int x1), .val (.int x2)] [(.int x2), (.ref a1)])
  obtain ⟨T3, h3, X3, e3, W3, st3⟩ := putF X2 hx hZ hown (host := "") (Or.inl (hw _ (List.mem_of_getElem? (i := 18) rfl))) Via.refl e2 F_bits E_a1 (Or.inr ⟨(hw _ (List.mem_of_getElem? (i := 19) rfl)), rfl, hnm⟩) (hw _ (List.mem_of_getElem? (i := 8) rfl)) (ty := .int) (by decide) rfl rfl (g := (mkF m 36 #[.val (.ref a1), .val (.int x1), .val (.int x2)] [(.int x2), (.ref a1)])) rfl rfl (hb hby d2_36)
  have N0 := Fr.snoc X3 N0 g_a1
  have Z0 := Nat.le_trans Z0 (Keep.of_wr W3).1
  have K0 := K0.wr W3 (Or.inl (List.mem_of_getElem? (i := 0) rfl))
  have E_a1 := E_a1.wr W3
  have F_count := F_count.other W3 (Or.inr (slot_ne (Or.inr (hw _ (List.mem_of_getElem? (i := 17) rfl))) (Or.inr (hw _ (List.mem_of_getElem? (i := 19) rfl))) (by decide) (t := .int) (t' := .int) (by decide) (by decide)))
  have F_bits := F_bits.same W3
  have F_mask := F_mask.other W3 (Or.inr (slot_ne (Or.inr (hw _ (List.mem_of_getElem? (i := 22) rfl))) (Or.inr (hw _ (List.mem_of_getElem? (i := 19) rfl))) (by decide) (t := .long) (t' := .int) (by decide) (by decide)))
  have F_words := F_words.other W3 (Or.inr (slot_ne (Or.inr (hw _ (List.mem_of_getElem? (i := 25) rfl))) (Or.inr (hw _ (List.mem_of_getElem? (i := 19) rfl))) (by decide) (t := (.array .long)) (t' := .int) (by decide) (by decide)))
  refine Dn.st st3 ?_
  show Dn p e below s _ _ _ T3 (mkF m 39 #[.val (.ref a1), .val (.int x1), .val (.int x2)] [])
  refine Dn.st (fun t q => XS.aloadN X3.here hx rfl (hb hby d2_39) rfl rfl  q) ?_
  show Dn p e below s _ _ _ T3 (mkF m 40 #[.val (.ref a1), .val (.int x1), .val (.int x2)] [(.ref a1)])
  refine Dn.st (X3.ldc2Long hx hown (mvT hZ (hw _ (List.mem_of_getElem? (i := 20) rfl))) (g := (mkF m 40 #[.val (.ref a1), .val (.int x1), .val (.int x2)] [(.ref a1)])) rfl (hb hby d2_40)) ?_
  show Dn p e below s _ _ _ T3 (mkF m 43 #[.val (.ref a1), .val (.int x1), .val (.int x2)] [(.long (-1 : Int64)), (.ref a1)])
  refine Dn.st (fun t q => XS.bipush X3.here hx rfl (hb hby d2_43) q) ?_
  show Dn p e below s _ _ _ T3 (mkF m 45 #[.val (.ref a1), .val (.int x1), .val (.int x2)] [(.int (64 : Int32)), (.long (-1 : Int64)), (.ref a1)])
  refine Dn.st (fun t q => XS.iloadN X3.here hx rfl (hb hby d2_45) rfl  q) ?_
  show Dn p e below s _ _ _ T3 (mkF m 46 #[.val (.ref a1), .val (.int x1), .val (.int x2)] [(.int x2), (.int (64 : Int32)), (.long (-1 : Int64)), (.ref a1)])
  refine Dn.st (fun t q => XS.isub X3.here hx rfl (hb hby d2_46) rfl q) ?_
  show Dn p e below s _ _ _ T3 (mkF m 47 #[.val (.ref a1), .val (.int x1), .val (.int x2)] [(.int ((64 : Int32) - x2)), (.long (-1 : Int64)), (.ref a1)])
  refine Dn.st (fun t q => XS.lushr X3.here hx rfl (hb hby d2_47) rfl q) ?_
  show Dn p e below s _ _ _ T3 (mkF m 48 #[.val (.ref a1), .val (.int x1), .val (.int x2)] [(.long (((-1 : Int64).toUInt64 >>> (((64 : Int32) - x2) &&& 0x3f).toInt64.toUInt64).toInt64)), (.ref a1)])
  obtain ⟨T4, h4, X4, e4, W4, st4⟩ := putF X3 hx hZ hown (host := "") (Or.inl (hw _ (List.mem_of_getElem? (i := 21) rfl))) Via.refl e3 F_mask E_a1 (Or.inr ⟨(hw _ (List.mem_of_getElem? (i := 22) rfl)), rfl, hnm⟩) (hw _ (List.mem_of_getElem? (i := 8) rfl)) (ty := .long) (by decide) rfl rfl (g := (mkF m 48 #[.val (.ref a1), .val (.int x1), .val (.int x2)] [(.long (((-1 : Int64).toUInt64 >>> (((64 : Int32) - x2) &&& 0x3f).toInt64.toUInt64).toInt64)), (.ref a1)])) rfl rfl (hb hby d2_48)
  have N0 := Fr.snoc X4 N0 g_a1
  have Z0 := Nat.le_trans Z0 (Keep.of_wr W4).1
  have K0 := K0.wr W4 (Or.inl (List.mem_of_getElem? (i := 0) rfl))
  have E_a1 := E_a1.wr W4
  have F_count := F_count.other W4 (Or.inr (slot_ne (Or.inr (hw _ (List.mem_of_getElem? (i := 17) rfl))) (Or.inr (hw _ (List.mem_of_getElem? (i := 22) rfl))) (by decide) (t := .int) (t' := .long) (by decide) (by decide)))
  have F_bits := F_bits.other W4 (Or.inr (slot_ne (Or.inr (hw _ (List.mem_of_getElem? (i := 19) rfl))) (Or.inr (hw _ (List.mem_of_getElem? (i := 22) rfl))) (by decide) (t := .int) (t' := .long) (by decide) (by decide)))
  have F_mask := F_mask.same W4
  have F_words := F_words.other W4 (Or.inr (slot_ne (Or.inr (hw _ (List.mem_of_getElem? (i := 25) rfl))) (Or.inr (hw _ (List.mem_of_getElem? (i := 22) rfl))) (by decide) (t := (.array .long)) (t' := .long) (by decide) (by decide)))
  refine Dn.st st4 ?_
  show Dn p e below s _ _ _ T4 (mkF m 51 #[.val (.ref a1), .val (.int x1), .val (.int x2)] [])
  refine Dn.st (fun t q => XS.aloadN X4.here hx rfl (hb hby d2_51) rfl rfl  q) ?_
  show Dn p e below s _ _ _ T4 (mkF m 52 #[.val (.ref a1), .val (.int x1), .val (.int x2)] [(.ref a1)])
  refine Dn.st (fun t q => XS.iloadN X4.here hx rfl (hb hby d2_52) rfl  q) ?_
  show Dn p e below s _ _ _ T4 (mkF m 53 #[.val (.ref a1), .val (.int x1), .val (.int x2)] [(.int x1), (.ref a1)])
  refine Dn.st (fun t q => XS.i2l X4.here hx rfl (hb hby d2_53) rfl q) ?_
  show Dn p e below s _ _ _ T4 (mkF m 54 #[.val (.ref a1), .val (.int x1), .val (.int x2)] [(.long (x1.toInt64)), (.ref a1)])
  refine Dn.st (fun t q => XS.iloadN X4.here hx rfl (hb hby d2_54) rfl  q) ?_
  show Dn p e below s _ _ _ T4 (mkF m 55 #[.val (.ref a1), .val (.int x1), .val (.int x2)] [(.int x2), (.long (x1.toInt64)), (.ref a1)])
  refine Dn.st (fun t q => XS.i2l X4.here hx rfl (hb hby d2_55) rfl q) ?_
  show Dn p e below s _ _ _ T4 (mkF m 56 #[.val (.ref a1), .val (.int x1), .val (.int x2)] [(.long (x2.toInt64)), (.long (x1.toInt64)), (.ref a1)])
  refine Dn.st (fun t q => XS.lmul X4.here hx rfl (hb hby d2_56) rfl q) ?_
  show Dn p e below s _ _ _ T4 (mkF m 57 #[.val (.ref a1), .val (.int x1), .val (.int x2)] [(.long ((x1.toInt64) * (x2.toInt64))), (.ref a1)])
  refine Dn.st (X4.ldc2Long hx hown (mvT hZ (hw _ (List.mem_of_getElem? (i := 23) rfl))) (g := (mkF m 57 #[.val (.ref a1), .val (.int x1), .val (.int x2)] [(.long ((x1.toInt64) * (x2.toInt64))), (.ref a1)])) rfl (hb hby d2_57)) ?_
  show Dn p e below s _ _ _ T4 (mkF m 60 #[.val (.ref a1), .val (.int x1), .val (.int x2)] [(.long (64 : Int64)), (.long ((x1.toInt64) * (x2.toInt64))), (.ref a1)])
  refine Dn.st (fun t q => XS.ladd X4.here hx rfl (hb hby d2_60) rfl q) ?_
  show Dn p e below s _ _ _ T4 (mkF m 61 #[.val (.ref a1), .val (.int x1), .val (.int x2)] [(.long (((x1.toInt64) * (x2.toInt64)) + (64 : Int64))), (.ref a1)])
  refine Dn.st (fun t q => XS.lconst X4.here hx rfl (hb hby d2_61) q) ?_
  show Dn p e below s _ _ _ T4 (mkF m 62 #[.val (.ref a1), .val (.int x1), .val (.int x2)] [(.long (1 : Int64)), (.long (((x1.toInt64) * (x2.toInt64)) + (64 : Int64))), (.ref a1)])
  refine Dn.st (fun t q => XS.lsub X4.here hx rfl (hb hby d2_62) rfl q) ?_
  show Dn p e below s _ _ _ T4 (mkF m 63 #[.val (.ref a1), .val (.int x1), .val (.int x2)] [(.long ((((x1.toInt64) * (x2.toInt64)) + (64 : Int64)) - (1 : Int64))), (.ref a1)])
  refine Dn.st (X4.ldc2Long hx hown (mvT hZ (hw _ (List.mem_of_getElem? (i := 23) rfl))) (g := (mkF m 63 #[.val (.ref a1), .val (.int x1), .val (.int x2)] [(.long ((((x1.toInt64) * (x2.toInt64)) + (64 : Int64)) - (1 : Int64))), (.ref a1)])) rfl (hb hby d2_63)) ?_
  show Dn p e below s _ _ _ T4 (mkF m 66 #[.val (.ref a1), .val (.int x1), .val (.int x2)] [(.long (64 : Int64)), (.long ((((x1.toInt64) * (x2.toInt64)) + (64 : Int64)) - (1 : Int64))), (.ref a1)])
  refine Dn.st (fun t q => XS.ldiv X4.here hx rfl (hb hby d2_66) rfl (by decide) q) ?_
  show Dn p e below s _ _ _ T4 (mkF m 67 #[.val (.ref a1), .val (.int x1), .val (.int x2)] [(.long (((((x1.toInt64) * (x2.toInt64)) + (64 : Int64)) - (1 : Int64)) / (64 : Int64))), (.ref a1)])
  refine Dn.st (fun t q => XS.l2i X4.here hx rfl (hb hby d2_67) rfl q) ?_
  show Dn p e below s _ _ _ T4 (mkF m 68 #[.val (.ref a1), .val (.int x1), .val (.int x2)] [(.int ((((((x1.toInt64) * (x2.toInt64)) + (64 : Int64)) - (1 : Int64)) / (64 : Int64)).toInt32)), (.ref a1)])
  refine Dn.st (fun t q => XS.iconst X4.here hx rfl (hb hby d2_68) q) ?_
  show Dn p e below s _ _ _ T4 (mkF m 69 #[.val (.ref a1), .val (.int x1), .val (.int x2)] [(.int (1 : Int32)), (.int ((((((x1.toInt64) * (x2.toInt64)) + (64 : Int64)) - (1 : Int64)) / (64 : Int64)).toInt32)), (.ref a1)])
  refine Dn.st (fun t q => XS.iadd X4.here hx rfl (hb hby d2_69) rfl q) ?_
  show Dn p e below s _ _ _ T4 (mkF m 70 #[.val (.ref a1), .val (.int x1), .val (.int x2)] [(.int (((((((x1.toInt64) * (x2.toInt64)) + (64 : Int64)) - (1 : Int64)) / (64 : Int64)).toInt32) + (1 : Int32))), (.ref a1)])
  generalize hnn : (((((((x1.toInt64) * (x2.toInt64)) + (64 : Int64)) - (1 : Int64)) / (64 : Int64)).toInt32) + (1 : Int32)) = nn
  show Dn p e below s _ _ _ T4 (mkF m 70 #[.val (.ref a1), .val (.int x1), .val (.int x2)] [(.int nn), (.ref a1)])
  have hn := own_newlen hx1 hx2 hb2 (Nat.le_trans hct (by decide)) hnn
  obtain ⟨T5, h5, k5, X5, e5, E5, A5, st5⟩ := newP X4 hx hZ (hw _ (List.mem_of_getElem? (i := 1) rfl)) e4 (g := (mkF m 70 #[.val (.ref a1), .val (.int x1), .val (.int x2)] [(.int nn), (.ref a1)])) rfl (hb hby d2_70) rfl (own_nneg hn) (cap := 67) (by rw [own_clamp hn]; exact (own_len_le hb2 hct)) (by decide) (by decide) (by decide)
  obtain ⟨b1, g5⟩ : ∃ z, z = h4.size := ⟨_, rfl⟩
  rw [← g5] at A5 st5
  have ne_a1_b1 : a1 ≠ b1 := own_ne E_a1.lt g5
  have g_b1 : n0 ≤ b1 := Nat.le_trans Z0 (Nat.le_of_eq g5.symm)
  have sz_b1 : h0.size ≤ b1 := Nat.le_trans K0.1 (Nat.le_of_eq g5.symm)
  have Z0 := Nat.le_trans Z0 E5.1
  have K0 := K0.ext E5
  have E_a1 := E_a1.ext E5
  have F_count := F_count.ext E5
  have F_bits := F_bits.ext E5
  have F_mask := F_mask.ext E5
  have F_words := F_words.ext E5
  have A_b1 : Ary Z h5 b1 .long (own_len ct bb) (fun _ => (.long (0 : Int64))) := Ary.new A5 hn
  refine Dn.st st5 ?_
  show Dn p e below s _ _ _ T5 (mkF m 72 #[.val (.ref a1), .val (.int x1), .val (.int x2)] [(.ref b1), (.ref a1)])
  obtain ⟨T6, h6, X6, e6, W6, st6⟩ := putF X5 hx hZ hown (host := "") (Or.inl (hw _ (List.mem_of_getElem? (i := 24) rfl))) Via.refl e5 F_words E_a1 (Or.inr ⟨(hw _ (List.mem_of_getElem? (i := 25) rfl)), rfl, hnm⟩) (hw _ (List.mem_of_getElem? (i := 8) rfl)) (ty := (.array .long)) (by decide) rfl rfl (g := (mkF m 72 #[.val (.ref a1), .val (.int x1), .val (.int x2)] [(.ref b1), (.ref a1)])) rfl rfl (hb hby d2_72)
  have N0 := Fr.snoc X6 N0 g_a1
  have Z0 := Nat.le_trans Z0 (Keep.of_wr W6).1
  have K0 := K0.wr W6 (Or.inl (List.mem_of_getElem? (i := 0) rfl))
  have E_a1 := E_a1.wr W6
  have F_count := F_count.other W6 (Or.inr (slot_ne (Or.inr (hw _ (List.mem_of_getElem? (i := 17) rfl))) (Or.inr (hw _ (List.mem_of_getElem? (i := 25) rfl))) (by decide) (t := .int) (t' := (.array .long)) (by decide) (by decide)))
  have F_bits := F_bits.other W6 (Or.inr (slot_ne (Or.inr (hw _ (List.mem_of_getElem? (i := 19) rfl))) (Or.inr (hw _ (List.mem_of_getElem? (i := 25) rfl))) (by decide) (t := .int) (t' := (.array .long)) (by decide) (by decide)))
  have F_mask := F_mask.other W6 (Or.inr (slot_ne (Or.inr (hw _ (List.mem_of_getElem? (i := 22) rfl))) (Or.inr (hw _ (List.mem_of_getElem? (i := 25) rfl))) (by decide) (t := .long) (t' := (.array .long)) (by decide) (by decide)))
  have F_words := F_words.same W6
  have A_b1 := A_b1.other W6 (Ne.symm ne_a1_b1)
  refine Dn.st st6 ?_
  show Dn p e below s _ _ _ T6 (mkF m 75 #[.val (.ref a1), .val (.int x1), .val (.int x2)] [])
  exact Dn.retV X6 hx Bd.notSynchronized Bd.returns (hb hby d2_75) (by rw [e6]; exact ⟨rfl, N0, K0, F_bits, F_mask, b1, sz_b1, F_words, A_b1⟩) (by decide) (by decide)
theorem d6_0 : decode prog_25_method_7_code 0 = .ok (.iload_n 1, 1) := by decide +kernel
theorem d6_1 : decode prog_25_method_7_code 1 = .ok (.i2l, 1) := by decide +kernel
theorem d6_2 : decode prog_25_method_7_code 2 = .ok (.aload_n 0, 1) := by decide +kernel
theorem d6_3 : decode prog_25_method_7_code 3 = .ok (.getfield 24, 3) := by decide +kernel
theorem d6_6 : decode prog_25_method_7_code 6 = .ok (.i2l, 1) := by decide +kernel
theorem d6_7 : decode prog_25_method_7_code 7 = .ok (.lmul, 1) := by decide +kernel
theorem d6_8 : decode prog_25_method_7_code 8 = .ok (.lstore 4, 2) := by decide +kernel
theorem d6_10 : decode prog_25_method_7_code 10 = .ok (.lload 4, 2) := by decide +kernel
theorem d6_12 : decode prog_25_method_7_code 12 = .ok (.bipush 6, 2) := by decide +kernel
theorem d6_14 : decode prog_25_method_7_code 14 = .ok (.lushr, 1) := by decide +kernel
theorem d6_15 : decode prog_25_method_7_code 15 = .ok (.l2i, 1) := by decide +kernel
theorem d6_16 : decode prog_25_method_7_code 16 = .ok (.istore 6, 2) := by decide +kernel
theorem d6_18 : decode prog_25_method_7_code 18 = .ok (.lload 4, 2) := by decide +kernel
theorem d6_20 : decode prog_25_method_7_code 20 = .ok (.ldc2_w 49, 3) := by decide +kernel
theorem d6_23 : decode prog_25_method_7_code 23 = .ok (.land, 1) := by decide +kernel
theorem d6_24 : decode prog_25_method_7_code 24 = .ok (.l2i, 1) := by decide +kernel
theorem d6_25 : decode prog_25_method_7_code 25 = .ok (.istore 7, 2) := by decide +kernel
theorem d6_27 : decode prog_25_method_7_code 27 = .ok (.aload_n 0, 1) := by decide +kernel
theorem d6_28 : decode prog_25_method_7_code 28 = .ok (.getfield 35, 3) := by decide +kernel
theorem d6_31 : decode prog_25_method_7_code 31 = .ok (.iload 6, 2) := by decide +kernel
theorem d6_33 : decode prog_25_method_7_code 33 = .ok (.aload_n 0, 1) := by decide +kernel
theorem d6_34 : decode prog_25_method_7_code 34 = .ok (.getfield 35, 3) := by decide +kernel
theorem d6_37 : decode prog_25_method_7_code 37 = .ok (.iload 6, 2) := by decide +kernel
theorem d6_39 : decode prog_25_method_7_code 39 = .ok (.laload, 1) := by decide +kernel
theorem d6_40 : decode prog_25_method_7_code 40 = .ok (.aload_n 0, 1) := by decide +kernel
theorem d6_41 : decode prog_25_method_7_code 41 = .ok (.getfield 29, 3) := by decide +kernel
theorem d6_44 : decode prog_25_method_7_code 44 = .ok (.iload 7, 2) := by decide +kernel
theorem d6_46 : decode prog_25_method_7_code 46 = .ok (.lshl, 1) := by decide +kernel
theorem d6_47 : decode prog_25_method_7_code 47 = .ok (.ldc2_w 27, 3) := by decide +kernel
theorem d6_50 : decode prog_25_method_7_code 50 = .ok (.lxor, 1) := by decide +kernel
theorem d6_51 : decode prog_25_method_7_code 51 = .ok (.land, 1) := by decide +kernel
theorem d6_52 : decode prog_25_method_7_code 52 = .ok (.lload_n 2, 1) := by decide +kernel
theorem d6_53 : decode prog_25_method_7_code 53 = .ok (.iload 7, 2) := by decide +kernel
theorem d6_55 : decode prog_25_method_7_code 55 = .ok (.lshl, 1) := by decide +kernel
theorem d6_56 : decode prog_25_method_7_code 56 = .ok (.lor, 1) := by decide +kernel
theorem d6_57 : decode prog_25_method_7_code 57 = .ok (.lastore, 1) := by decide +kernel
theorem d6_58 : decode prog_25_method_7_code 58 = .ok (.iload 7, 2) := by decide +kernel
theorem d6_60 : decode prog_25_method_7_code 60 = .ok (.aload_n 0, 1) := by decide +kernel
theorem d6_61 : decode prog_25_method_7_code 61 = .ok (.getfield 24, 3) := by decide +kernel
theorem d6_64 : decode prog_25_method_7_code 64 = .ok (.iadd, 1) := by decide +kernel
theorem d6_65 : decode prog_25_method_7_code 65 = .ok (.bipush 64, 2) := by decide +kernel
theorem d6_67 : decode prog_25_method_7_code 67 = .ok (.if_icmp .le 45, 3) := by decide +kernel
theorem d6_70 : decode prog_25_method_7_code 70 = .ok (.bipush 64, 2) := by decide +kernel
theorem d6_72 : decode prog_25_method_7_code 72 = .ok (.iload 7, 2) := by decide +kernel
theorem d6_74 : decode prog_25_method_7_code 74 = .ok (.isub, 1) := by decide +kernel
theorem d6_75 : decode prog_25_method_7_code 75 = .ok (.istore 8, 2) := by decide +kernel
theorem d6_77 : decode prog_25_method_7_code 77 = .ok (.aload_n 0, 1) := by decide +kernel
theorem d6_78 : decode prog_25_method_7_code 78 = .ok (.getfield 35, 3) := by decide +kernel
theorem d6_81 : decode prog_25_method_7_code 81 = .ok (.iload 6, 2) := by decide +kernel
theorem d6_83 : decode prog_25_method_7_code 83 = .ok (.iconst 1, 1) := by decide +kernel
theorem d6_84 : decode prog_25_method_7_code 84 = .ok (.iadd, 1) := by decide +kernel
theorem d6_85 : decode prog_25_method_7_code 85 = .ok (.aload_n 0, 1) := by decide +kernel
theorem d6_86 : decode prog_25_method_7_code 86 = .ok (.getfield 35, 3) := by decide +kernel
theorem d6_89 : decode prog_25_method_7_code 89 = .ok (.iload 6, 2) := by decide +kernel
theorem d6_91 : decode prog_25_method_7_code 91 = .ok (.iconst 1, 1) := by decide +kernel
theorem d6_92 : decode prog_25_method_7_code 92 = .ok (.iadd, 1) := by decide +kernel
theorem d6_93 : decode prog_25_method_7_code 93 = .ok (.laload, 1) := by decide +kernel
theorem d6_94 : decode prog_25_method_7_code 94 = .ok (.aload_n 0, 1) := by decide +kernel
theorem d6_95 : decode prog_25_method_7_code 95 = .ok (.getfield 29, 3) := by decide +kernel
theorem d6_98 : decode prog_25_method_7_code 98 = .ok (.iload 8, 2) := by decide +kernel
theorem d6_100 : decode prog_25_method_7_code 100 = .ok (.lushr, 1) := by decide +kernel
theorem d6_101 : decode prog_25_method_7_code 101 = .ok (.ldc2_w 27, 3) := by decide +kernel
theorem d6_104 : decode prog_25_method_7_code 104 = .ok (.lxor, 1) := by decide +kernel
theorem d6_105 : decode prog_25_method_7_code 105 = .ok (.land, 1) := by decide +kernel
theorem d6_106 : decode prog_25_method_7_code 106 = .ok (.lload_n 2, 1) := by decide +kernel
theorem d6_107 : decode prog_25_method_7_code 107 = .ok (.iload 8, 2) := by decide +kernel
theorem d6_109 : decode prog_25_method_7_code 109 = .ok (.lushr, 1) := by decide +kernel
theorem d6_110 : decode prog_25_method_7_code 110 = .ok (.lor, 1) := by decide +kernel
theorem d6_111 : decode prog_25_method_7_code 111 = .ok (.lastore, 1) := by decide +kernel
theorem d6_112 : decode prog_25_method_7_code 112 = .ok (.return_, 1) := by decide +kernel
theorem ef_rm6 (m : MethodId) (x0 : Addr) (x1 : Int32) (x2 : Int64) : entryFrame m #[(.ref x0), (.int x1), (.long x2)] 9 = mkF m 0 #[.val (.ref x0), .val (.int x1), .val (.long x2), .second, .unset, .unset, .unset, .unset, .unset] [] := by first | (simp [entryFrame, mkF, argsToLocals, Value.category]; done) | rfl
def Q6 (Z : State) (a1 : Addr) (x1 : Int32) (y1 : Int64) (xb : Int32) (ym : Int64) (ar : Addr) (nn : Nat) (f : Nat → Int64) (ii : Nat) (bb : Nat) (h0 : Heap) (n0 : Nat) (v : Option Value) (h : Heap) (L : List Loc) : Prop := v = none ∧ Fr n0 L ∧ Keep h0 h [ar] ∧ Ary Z h ar .long nn (fun x => .long (own_set f ii bb ym y1 x))
set_option maxRecDepth 65536 in
set_option maxHeartbeats 40000000 in
theorem rm6 (l : Launch) (Z : State) (a0 : Array Value) (hw : ∀ d ∈ tables_1, d.before a0 Z = true) (ws : List Jvm.Cond) (a1 : Addr) (x1 : Int32) (y1 : Int64) (xb : Int32) (ym : Int64) (ar : Addr) (nn : Nat) (f : Nat → Int64) (ii : Nat) (bb : Nat) (h0 : Heap) (n0 : Nat) (Z0 : n0 ≤ h0.size) (F_bits : Fld Z h0 a1 "com/example/hindcut/hindcut/PackedNumbers" "bits" "I" (.int xb)) (F_mask : Fld Z h0 a1 "com/example/hindcut/hindcut/PackedNumbers" "mask" "J" (.long ym)) (F_words : Fld Z h0 a1 "com/example/hindcut/hindcut/PackedNumbers" "words" "[J" (.ref ar)) (A : Ary Z h0 ar .long nn (fun x => .long (f x))) (hx1 : x1.toInt = (ii : Int)) (hxb : xb.toInt = (bb : Int)) (hb2 : bb ≤ 64) (hii : ii ≤ 1000) (hin : ii * bb / 64 + 1 < nn) (ne_a1_ar : a1 ≠ ar) (g_ar : n0 ≤ ar) :
    MetFree l (⟨"com/example/hindcut/hindcut/PackedNumbers", "set", "(IJ)V"⟩ : MethodName) (head1 (Jvm.Cond.code (⟨"com/example/hindcut/hindcut/PackedNumbers", "set", "(IJ)V"⟩ : MethodName) prog_25_method_7_code 9 none :: ws) ({ frames := 0, cells := 0, slots := 0, locals := 0 } : Room)) (fun a U => a = #[(.ref a1), (.int x1), (.long y1)] ∧ Z.Warmed39 U.vm ∧ U.heap = h0) (fun _ _ _ _ _ => True) (fun _ U o U' => ∃ v L, o = .returned v ∧ Q6 Z a1 x1 y1 xb ym ar nn f ii bb h0 n0 v U'.heap L ∧ FrameEnd U o U' L ({ frames := 0, cells := 0, slots := 0, locals := 0 } : Room).cells ({ frames := 0, cells := 0, slots := 0, locals := 0 } : Room).slots) := by
  refine MetFree.of_bodySF (plainFor_of_name pn_0) hisR ?_
  intro p e s m args below meth c s₁ Bd hml0 hP hK
  obtain ⟨rfl, hZ, hh⟩ := hP
  have hx := Bd.exec
  have hby := Bd.bytes
  have hml : c.maxLocals = 9 := hml0
  have hown : s.vm.findClass "com/example/hindcut/hindcut/PackedNumbers" = some m.cls := findClass_of_methodNamed Bd.named
  have hnm := (name_of_methodNamed Bd.named Bd.method).1
  have X0 : Stand p l e ({ frames := 0, cells := 0, slots := 0, locals := 0 } : Room) s m #[(.ref a1), (.int x1), (.long y1)] below meth c s₁ [] 0 0 := Stand.of_body Bd
  have e0 : s₁.heap = h0 := by rw [← hh, Bd.state]; rfl
  have N0 := Fr.nil n0
  have K0 := Keep.refl h0 [ar]
  suffices hD : Dn p e below s (Q6 Z a1 x1 y1 xb ym ar nn f ii bb h0 n0) ({ frames := 0, cells := 0, slots := 0, locals := 0 } : Room).cells ({ frames := 0, cells := 0, slots := 0, locals := 0 } : Room).slots s₁ (mkF m 0 #[.val (.ref a1), .val (.int x1), .val (.long y1), .second, .unset, .unset, .unset, .unset, .unset] []) from by
    obtain ⟨s₂, o, q1, q2⟩ := hD
    exact ⟨s₂, o, castTop (ef_rm6 m a1 x1 y1) q1, q2⟩
  refine Dn.st (fun t q => XS.iloadN X0.here hx rfl (hb hby d6_0) rfl  q) ?_
  show Dn p e below s _ _ _ s₁ (mkF m 1 #[.val (.ref a1), .val (.int x1), .val (.long y1), .second, .unset, .unset, .unset, .unset, .unset] [(.int x1)])
  refine Dn.st (fun t q => XS.i2l X0.here hx rfl (hb hby d6_1) rfl q) ?_
  show Dn p e below s _ _ _ s₁ (mkF m 2 #[.val (.ref a1), .val (.int x1), .val (.long y1), .second, .unset, .unset, .unset, .unset, .unset] [(.long (x1.toInt64))])
  refine Dn.st (fun t q => XS.aloadN X0.here hx rfl (hb hby d6_2) rfl rfl  q) ?_
  show Dn p e below s _ _ _ s₁ (mkF m 3 #[.val (.ref a1), .val (.int x1), .val (.long y1), .second, .unset, .unset, .unset, .unset, .unset] [(.ref a1), (.long (x1.toInt64))])
  obtain ⟨T1, X1, e1, st1⟩ := getF X0 hx hZ hown (host := "") (Or.inl (hw _ (List.mem_of_getElem? (i := 18) rfl))) Via.refl e0 F_bits (g := (mkF m 3 #[.val (.ref a1), .val (.int x1), .val (.long y1), .second, .unset, .unset, .unset, .unset, .unset] [(.ref a1), (.long (x1.toInt64))])) rfl rfl (hb hby d6_3)
  refine Dn.st st1 ?_
  show Dn p e below s _ _ _ T1 (mkF m 6 #[.val (.ref a1), .val (.int x1), .val (.long y1), .second, .unset, .unset, .unset, .unset, .unset] [(.int xb), (.long (x1.toInt64))])
  refine Dn.st (fun t q => XS.i2l X1.here hx rfl (hb hby d6_6) rfl q) ?_
  show Dn p e below s _ _ _ T1 (mkF m 7 #[.val (.ref a1), .val (.int x1), .val (.long y1), .second, .unset, .unset, .unset, .unset, .unset] [(.long (xb.toInt64)), (.long (x1.toInt64))])
  refine Dn.st (fun t q => XS.lmul X1.here hx rfl (hb hby d6_7) rfl q) ?_
  show Dn p e below s _ _ _ T1 (mkF m 8 #[.val (.ref a1), .val (.int x1), .val (.long y1), .second, .unset, .unset, .unset, .unset, .unset] [(.long ((x1.toInt64) * (xb.toInt64)))])
  generalize hpp : ((x1.toInt64) * (xb.toInt64)) = pp
  show Dn p e below s _ _ _ T1 (mkF m 8 #[.val (.ref a1), .val (.int x1), .val (.long y1), .second, .unset, .unset, .unset, .unset, .unset] [(.long pp)])
  have hp := own_pos hx1 hxb hb2 (Nat.le_trans hii (by decide)) hpp
  refine Dn.st (fun t q => XS.lstore X1.here hx rfl (hb hby d6_8) rfl (l' := #[.val (.ref a1), .val (.int x1), .val (.long y1), .second, .val (.long pp), .second, .unset, .unset, .unset]) rfl q) ?_
  show Dn p e below s _ _ _ T1 (mkF m 10 #[.val (.ref a1), .val (.int x1), .val (.long y1), .second, .val (.long pp), .second, .unset, .unset, .unset] [])
  refine Dn.st (fun t q => XS.lload X1.here hx rfl (hb hby d6_10) rfl  q) ?_
  show Dn p e below s _ _ _ T1 (mkF m 12 #[.val (.ref a1), .val (.int x1), .val (.long y1), .second, .val (.long pp), .second, .unset, .unset, .unset] [(.long pp)])
  refine Dn.st (fun t q => XS.bipush X1.here hx rfl (hb hby d6_12) q) ?_
  show Dn p e below s _ _ _ T1 (mkF m 14 #[.val (.ref a1), .val (.int x1), .val (.long y1), .second, .val (.long pp), .second, .unset, .unset, .unset] [(.int (6 : Int32)), (.long pp)])
  refine Dn.st (fun t q => XS.lushr X1.here hx rfl (hb hby d6_14) rfl q) ?_
  show Dn p e below s _ _ _ T1 (mkF m 15 #[.val (.ref a1), .val (.int x1), .val (.long y1), .second, .val (.long pp), .second, .unset, .unset, .unset] [(.long ((pp.toUInt64 >>> ((6 : Int32) &&& 0x3f).toInt64.toUInt64).toInt64))])
  refine Dn.st (fun t q => XS.l2i X1.here hx rfl (hb hby d6_15) rfl q) ?_
  show Dn p e below s _ _ _ T1 (mkF m 16 #[.val (.ref a1), .val (.int x1), .val (.long y1), .second, .val (.long pp), .second, .unset, .unset, .unset] [(.int (((pp.toUInt64 >>> ((6 : Int32) &&& 0x3f).toInt64.toUInt64).toInt64).toInt32))])
  generalize hww : (((pp.toUInt64 >>> ((6 : Int32) &&& 0x3f).toInt64.toUInt64).toInt64).toInt32) = ww
  show Dn p e below s _ _ _ T1 (mkF m 16 #[.val (.ref a1), .val (.int x1), .val (.long y1), .second, .val (.long pp), .second, .unset, .unset, .unset] [(.int ww)])
  have hw1 := own_word hp hb2 hii hww
  refine Dn.st (fun t q => XS.istore X1.here hx rfl (hb hby d6_16) rfl (l' := #[.val (.ref a1), .val (.int x1), .val (.long y1), .second, .val (.long pp), .second, .val (.int ww), .unset, .unset]) rfl q) ?_
  show Dn p e below s _ _ _ T1 (mkF m 18 #[.val (.ref a1), .val (.int x1), .val (.long y1), .second, .val (.long pp), .second, .val (.int ww), .unset, .unset] [])
  refine Dn.st (fun t q => XS.lload X1.here hx rfl (hb hby d6_18) rfl  q) ?_
  show Dn p e below s _ _ _ T1 (mkF m 20 #[.val (.ref a1), .val (.int x1), .val (.long y1), .second, .val (.long pp), .second, .val (.int ww), .unset, .unset] [(.long pp)])
  refine Dn.st (X1.ldc2Long hx hown (mvT hZ (hw _ (List.mem_of_getElem? (i := 39) rfl))) (g := (mkF m 20 #[.val (.ref a1), .val (.int x1), .val (.long y1), .second, .val (.long pp), .second, .val (.int ww), .unset, .unset] [(.long pp)])) rfl (hb hby d6_20)) ?_
  show Dn p e below s _ _ _ T1 (mkF m 23 #[.val (.ref a1), .val (.int x1), .val (.long y1), .second, .val (.long pp), .second, .val (.int ww), .unset, .unset] [(.long (63 : Int64)), (.long pp)])
  refine Dn.st (fun t q => XS.land X1.here hx rfl (hb hby d6_23) rfl q) ?_
  show Dn p e below s _ _ _ T1 (mkF m 24 #[.val (.ref a1), .val (.int x1), .val (.long y1), .second, .val (.long pp), .second, .val (.int ww), .unset, .unset] [(.long (pp &&& (63 : Int64)))])
  refine Dn.st (fun t q => XS.l2i X1.here hx rfl (hb hby d6_24) rfl q) ?_
  show Dn p e below s _ _ _ T1 (mkF m 25 #[.val (.ref a1), .val (.int x1), .val (.long y1), .second, .val (.long pp), .second, .val (.int ww), .unset, .unset] [(.int ((pp &&& (63 : Int64)).toInt32))])
  rw [show ((pp &&& (63 : Int64)).toInt32) = (Int32.ofNat (ii * bb % 64)) from own_bit hp hb2 hii]
  show Dn p e below s _ _ _ T1 (mkF m 25 #[.val (.ref a1), .val (.int x1), .val (.long y1), .second, .val (.long pp), .second, .val (.int ww), .unset, .unset] [(.int (Int32.ofNat (ii * bb % 64)))])
  refine Dn.st (fun t q => XS.istore X1.here hx rfl (hb hby d6_25) rfl (l' := #[.val (.ref a1), .val (.int x1), .val (.long y1), .second, .val (.long pp), .second, .val (.int ww), .val (.int (Int32.ofNat (ii * bb % 64))), .unset]) rfl q) ?_
  show Dn p e below s _ _ _ T1 (mkF m 27 #[.val (.ref a1), .val (.int x1), .val (.long y1), .second, .val (.long pp), .second, .val (.int ww), .val (.int (Int32.ofNat (ii * bb % 64))), .unset] [])
  refine Dn.st (fun t q => XS.aloadN X1.here hx rfl (hb hby d6_27) rfl rfl  q) ?_
  show Dn p e below s _ _ _ T1 (mkF m 28 #[.val (.ref a1), .val (.int x1), .val (.long y1), .second, .val (.long pp), .second, .val (.int ww), .val (.int (Int32.ofNat (ii * bb % 64))), .unset] [(.ref a1)])
  obtain ⟨T2, X2, e2, st2⟩ := getF X1 hx hZ hown (host := "") (Or.inl (hw _ (List.mem_of_getElem? (i := 24) rfl))) Via.refl e1 F_words (g := (mkF m 28 #[.val (.ref a1), .val (.int x1), .val (.long y1), .second, .val (.long pp), .second, .val (.int ww), .val (.int (Int32.ofNat (ii * bb % 64))), .unset] [(.ref a1)])) rfl rfl (hb hby d6_28)
  refine Dn.st st2 ?_
  show Dn p e below s _ _ _ T2 (mkF m 31 #[.val (.ref a1), .val (.int x1), .val (.long y1), .second, .val (.long pp), .second, .val (.int ww), .val (.int (Int32.ofNat (ii * bb % 64))), .unset] [(.ref ar)])
  refine Dn.st (fun t q => XS.iload X2.here hx rfl (hb hby d6_31) rfl  q) ?_
  show Dn p e below s _ _ _ T2 (mkF m 33 #[.val (.ref a1), .val (.int x1), .val (.long y1), .second, .val (.long pp), .second, .val (.int ww), .val (.int (Int32.ofNat (ii * bb % 64))), .unset] [(.int ww), (.ref ar)])
  refine Dn.st (fun t q => XS.aloadN X2.here hx rfl (hb hby d6_33) rfl rfl  q) ?_
  show Dn p e below s _ _ _ T2 (mkF m 34 #[.val (.ref a1), .val (.int x1), .val (.long y1), .second, .val (.long pp), .second, .val (.int ww), .val (.int (Int32.ofNat (ii * bb % 64))), .unset] [(.ref a1), (.int ww), (.ref ar)])
  obtain ⟨T3, X3, e3, st3⟩ := getF X2 hx hZ hown (host := "") (Or.inl (hw _ (List.mem_of_getElem? (i := 24) rfl))) Via.refl e2 F_words (g := (mkF m 34 #[.val (.ref a1), .val (.int x1), .val (.long y1), .second, .val (.long pp), .second, .val (.int ww), .val (.int (Int32.ofNat (ii * bb % 64))), .unset] [(.ref a1), (.int ww), (.ref ar)])) rfl rfl (hb hby d6_34)
  refine Dn.st st3 ?_
  show Dn p e below s _ _ _ T3 (mkF m 37 #[.val (.ref a1), .val (.int x1), .val (.long y1), .second, .val (.long pp), .second, .val (.int ww), .val (.int (Int32.ofNat (ii * bb % 64))), .unset] [(.ref ar), (.int ww), (.ref ar)])
  refine Dn.st (fun t q => XS.iload X3.here hx rfl (hb hby d6_37) rfl  q) ?_
  show Dn p e below s _ _ _ T3 (mkF m 39 #[.val (.ref a1), .val (.int x1), .val (.long y1), .second, .val (.long pp), .second, .val (.int ww), .val (.int (Int32.ofNat (ii * bb % 64))), .unset] [(.int ww), (.ref ar), (.int ww), (.ref ar)])
  refine Dn.st (aLoadJ (w := f) X3 hx hZ e3 A (i := (ii * bb / 64)) hw1 (Nat.lt_of_succ_lt hin) (g := (mkF m 39 #[.val (.ref a1), .val (.int x1), .val (.long y1), .second, .val (.long pp), .second, .val (.int ww), .val (.int (Int32.ofNat (ii * bb % 64))), .unset] [(.int ww), (.ref ar), (.int ww), (.ref ar)])) rfl rfl (hb hby d6_39)) ?_
  show Dn p e below s _ _ _ T3 (mkF m 40 #[.val (.ref a1), .val (.int x1), .val (.long y1), .second, .val (.long pp), .second, .val (.int ww), .val (.int (Int32.ofNat (ii * bb % 64))), .unset] [(.long (f (ii * bb / 64))), (.int ww), (.ref ar)])
  refine Dn.st (fun t q => XS.aloadN X3.here hx rfl (hb hby d6_40) rfl rfl  q) ?_
  show Dn p e below s _ _ _ T3 (mkF m 41 #[.val (.ref a1), .val (.int x1), .val (.long y1), .second, .val (.long pp), .second, .val (.int ww), .val (.int (Int32.ofNat (ii * bb % 64))), .unset] [(.ref a1), (.long (f (ii * bb / 64))), (.int ww), (.ref ar)])
  obtain ⟨T4, X4, e4, st4⟩ := getF X3 hx hZ hown (host := "") (Or.inl (hw _ (List.mem_of_getElem? (i := 21) rfl))) Via.refl e3 F_mask (g := (mkF m 41 #[.val (.ref a1), .val (.int x1), .val (.long y1), .second, .val (.long pp), .second, .val (.int ww), .val (.int (Int32.ofNat (ii * bb % 64))), .unset] [(.ref a1), (.long (f (ii * bb / 64))), (.int ww), (.ref ar)])) rfl rfl (hb hby d6_41)
  refine Dn.st st4 ?_
  show Dn p e below s _ _ _ T4 (mkF m 44 #[.val (.ref a1), .val (.int x1), .val (.long y1), .second, .val (.long pp), .second, .val (.int ww), .val (.int (Int32.ofNat (ii * bb % 64))), .unset] [(.long ym), (.long (f (ii * bb / 64))), (.int ww), (.ref ar)])
  refine Dn.st (fun t q => XS.iload X4.here hx rfl (hb hby d6_44) rfl  q) ?_
  show Dn p e below s _ _ _ T4 (mkF m 46 #[.val (.ref a1), .val (.int x1), .val (.long y1), .second, .val (.long pp), .second, .val (.int ww), .val (.int (Int32.ofNat (ii * bb % 64))), .unset] [(.int (Int32.ofNat (ii * bb % 64))), (.long ym), (.long (f (ii * bb / 64))), (.int ww), (.ref ar)])
  refine Dn.st (fun t q => XS.lshl X4.here hx rfl (hb hby d6_46) rfl q) ?_
  show Dn p e below s _ _ _ T4 (mkF m 47 #[.val (.ref a1), .val (.int x1), .val (.long y1), .second, .val (.long pp), .second, .val (.int ww), .val (.int (Int32.ofNat (ii * bb % 64))), .unset] [(.long (ym <<< ((Int32.ofNat (ii * bb % 64)) &&& 0x3f).toInt64)), (.long (f (ii * bb / 64))), (.int ww), (.ref ar)])
  refine Dn.st (X4.ldc2Long hx hown (mvT hZ (hw _ (List.mem_of_getElem? (i := 20) rfl))) (g := (mkF m 47 #[.val (.ref a1), .val (.int x1), .val (.long y1), .second, .val (.long pp), .second, .val (.int ww), .val (.int (Int32.ofNat (ii * bb % 64))), .unset] [(.long (ym <<< ((Int32.ofNat (ii * bb % 64)) &&& 0x3f).toInt64)), (.long (f (ii * bb / 64))), (.int ww), (.ref ar)])) rfl (hb hby d6_47)) ?_
  show Dn p e below s _ _ _ T4 (mkF m 50 #[.val (.ref a1), .val (.int x1), .val (.long y1), .second, .val (.long pp), .second, .val (.int ww), .val (.int (Int32.ofNat (ii * bb % 64))), .unset] [(.long (-1 : Int64)), (.long (ym <<< ((Int32.ofNat (ii * bb % 64)) &&& 0x3f).toInt64)), (.long (f (ii * bb / 64))), (.int ww), (.ref ar)])
  refine Dn.st (fun t q => XS.lxor X4.here hx rfl (hb hby d6_50) rfl q) ?_
  show Dn p e below s _ _ _ T4 (mkF m 51 #[.val (.ref a1), .val (.int x1), .val (.long y1), .second, .val (.long pp), .second, .val (.int ww), .val (.int (Int32.ofNat (ii * bb % 64))), .unset] [(.long ((ym <<< ((Int32.ofNat (ii * bb % 64)) &&& 0x3f).toInt64) ^^^ (-1 : Int64))), (.long (f (ii * bb / 64))), (.int ww), (.ref ar)])
  refine Dn.st (fun t q => XS.land X4.here hx rfl (hb hby d6_51) rfl q) ?_
  show Dn p e below s _ _ _ T4 (mkF m 52 #[.val (.ref a1), .val (.int x1), .val (.long y1), .second, .val (.long pp), .second, .val (.int ww), .val (.int (Int32.ofNat (ii * bb % 64))), .unset] [(.long ((f (ii * bb / 64)) &&& ((ym <<< ((Int32.ofNat (ii * bb % 64)) &&& 0x3f).toInt64) ^^^ (-1 : Int64)))), (.int ww), (.ref ar)])
  refine Dn.st (fun t q => XS.lloadN X4.here hx rfl (hb hby d6_52) rfl  q) ?_
  show Dn p e below s _ _ _ T4 (mkF m 53 #[.val (.ref a1), .val (.int x1), .val (.long y1), .second, .val (.long pp), .second, .val (.int ww), .val (.int (Int32.ofNat (ii * bb % 64))), .unset] [(.long y1), (.long ((f (ii * bb / 64)) &&& ((ym <<< ((Int32.ofNat (ii * bb % 64)) &&& 0x3f).toInt64) ^^^ (-1 : Int64)))), (.int ww), (.ref ar)])
  refine Dn.st (fun t q => XS.iload X4.here hx rfl (hb hby d6_53) rfl  q) ?_
  show Dn p e below s _ _ _ T4 (mkF m 55 #[.val (.ref a1), .val (.int x1), .val (.long y1), .second, .val (.long pp), .second, .val (.int ww), .val (.int (Int32.ofNat (ii * bb % 64))), .unset] [(.int (Int32.ofNat (ii * bb % 64))), (.long y1), (.long ((f (ii * bb / 64)) &&& ((ym <<< ((Int32.ofNat (ii * bb % 64)) &&& 0x3f).toInt64) ^^^ (-1 : Int64)))), (.int ww), (.ref ar)])
  refine Dn.st (fun t q => XS.lshl X4.here hx rfl (hb hby d6_55) rfl q) ?_
  show Dn p e below s _ _ _ T4 (mkF m 56 #[.val (.ref a1), .val (.int x1), .val (.long y1), .second, .val (.long pp), .second, .val (.int ww), .val (.int (Int32.ofNat (ii * bb % 64))), .unset] [(.long (y1 <<< ((Int32.ofNat (ii * bb % 64)) &&& 0x3f).toInt64)), (.long ((f (ii * bb / 64)) &&& ((ym <<< ((Int32.ofNat (ii * bb % 64)) &&& 0x3f).toInt64) ^^^ (-1 : Int64)))), (.int ww), (.ref ar)])
  refine Dn.st (fun t q => XS.lor X4.here hx rfl (hb hby d6_56) rfl q) ?_
  show Dn p e below s _ _ _ T4 (mkF m 57 #[.val (.ref a1), .val (.int x1), .val (.long y1), .second, .val (.long pp), .second, .val (.int ww), .val (.int (Int32.ofNat (ii * bb % 64))), .unset] [(.long (((f (ii * bb / 64)) &&& ((ym <<< ((Int32.ofNat (ii * bb % 64)) &&& 0x3f).toInt64) ^^^ (-1 : Int64))) ||| (y1 <<< ((Int32.ofNat (ii * bb % 64)) &&& 0x3f).toInt64))), (.int ww), (.ref ar)])
  obtain ⟨T5, h5, X5, e5, W5, B5, st5⟩ := aStoJ X4 hx hZ e4 A (i := (ii * bb / 64)) hw1 (Nat.lt_of_succ_lt hin) (g := (mkF m 57 #[.val (.ref a1), .val (.int x1), .val (.long y1), .second, .val (.long pp), .second, .val (.int ww), .val (.int (Int32.ofNat (ii * bb % 64))), .unset] [(.long (((f (ii * bb / 64)) &&& ((ym <<< ((Int32.ofNat (ii * bb % 64)) &&& 0x3f).toInt64) ^^^ (-1 : Int64))) ||| (y1 <<< ((Int32.ofNat (ii * bb % 64)) &&& 0x3f).toInt64))), (.int ww), (.ref ar)])) rfl rfl (hb hby d6_57)
  have N0 := Fr.snoc X5 N0 g_ar
  have Z0 := Nat.le_trans Z0 (Keep.of_wr W5).1
  have K0 := K0.wr W5 (Or.inl (List.mem_of_getElem? (i := 0) rfl))
  have F_bits := F_bits.other W5 (Or.inl ne_a1_ar)
  have F_mask := F_mask.other W5 (Or.inl ne_a1_ar)
  have F_words := F_words.other W5 (Or.inl ne_a1_ar)
  have A : Ary Z h5 ar .long nn (fun x => .long ((own_st f (ii * bb / 64) (own_w1 (f (ii * bb / 64)) ym y1 (Int32.ofNat (ii * bb % 64)))) x)) := B5.congr (own_st_eq rfl)
  refine Dn.st st5 ?_
  show Dn p e below s _ _ _ T5 (mkF m 58 #[.val (.ref a1), .val (.int x1), .val (.long y1), .second, .val (.long pp), .second, .val (.int ww), .val (.int (Int32.ofNat (ii * bb % 64))), .unset] [])
  refine Dn.st (fun t q => XS.iload X5.here hx rfl (hb hby d6_58) rfl  q) ?_
  show Dn p e below s _ _ _ T5 (mkF m 60 #[.val (.ref a1), .val (.int x1), .val (.long y1), .second, .val (.long pp), .second, .val (.int ww), .val (.int (Int32.ofNat (ii * bb % 64))), .unset] [(.int (Int32.ofNat (ii * bb % 64)))])
  refine Dn.st (fun t q => XS.aloadN X5.here hx rfl (hb hby d6_60) rfl rfl  q) ?_
  show Dn p e below s _ _ _ T5 (mkF m 61 #[.val (.ref a1), .val (.int x1), .val (.long y1), .second, .val (.long pp), .second, .val (.int ww), .val (.int (Int32.ofNat (ii * bb % 64))), .unset] [(.ref a1), (.int (Int32.ofNat (ii * bb % 64)))])
  obtain ⟨T6, X6, e6, st6⟩ := getF X5 hx hZ hown (host := "") (Or.inl (hw _ (List.mem_of_getElem? (i := 18) rfl))) Via.refl e5 F_bits (g := (mkF m 61 #[.val (.ref a1), .val (.int x1), .val (.long y1), .second, .val (.long pp), .second, .val (.int ww), .val (.int (Int32.ofNat (ii * bb % 64))), .unset] [(.ref a1), (.int (Int32.ofNat (ii * bb % 64)))])) rfl rfl (hb hby d6_61)
  refine Dn.st st6 ?_
  show Dn p e below s _ _ _ T6 (mkF m 64 #[.val (.ref a1), .val (.int x1), .val (.long y1), .second, .val (.long pp), .second, .val (.int ww), .val (.int (Int32.ofNat (ii * bb % 64))), .unset] [(.int xb), (.int (Int32.ofNat (ii * bb % 64)))])
  refine Dn.st (fun t q => XS.iadd X6.here hx rfl (hb hby d6_64) rfl q) ?_
  show Dn p e below s _ _ _ T6 (mkF m 65 #[.val (.ref a1), .val (.int x1), .val (.long y1), .second, .val (.long pp), .second, .val (.int ww), .val (.int (Int32.ofNat (ii * bb % 64))), .unset] [(.int ((Int32.ofNat (ii * bb % 64)) + xb))])
  refine Dn.st (fun t q => XS.bipush X6.here hx rfl (hb hby d6_65) q) ?_
  show Dn p e below s _ _ _ T6 (mkF m 67 #[.val (.ref a1), .val (.int x1), .val (.long y1), .second, .val (.long pp), .second, .val (.int ww), .val (.int (Int32.ofNat (ii * bb % 64))), .unset] [(.int (64 : Int32)), (.int ((Int32.ofNat (ii * bb % 64)) + xb))])
  by_cases h64 : (64 : Int32) < ((Int32.ofNat (ii * bb % 64)) + xb)
  · refine Dn.st (fun t q => XS.icmpNo X6.here hx rfl (hb hby d6_67) rfl (tlt h64).2.2.2 q) ?_
    show Dn p e below s _ _ _ T6 (mkF m 70 #[.val (.ref a1), .val (.int x1), .val (.long y1), .second, .val (.long pp), .second, .val (.int ww), .val (.int (Int32.ofNat (ii * bb % 64))), .unset] [])
    refine Dn.st (fun t q => XS.bipush X6.here hx rfl (hb hby d6_70) q) ?_
    show Dn p e below s _ _ _ T6 (mkF m 72 #[.val (.ref a1), .val (.int x1), .val (.long y1), .second, .val (.long pp), .second, .val (.int ww), .val (.int (Int32.ofNat (ii * bb % 64))), .unset] [(.int (64 : Int32))])
    refine Dn.st (fun t q => XS.iload X6.here hx rfl (hb hby d6_72) rfl  q) ?_
    show Dn p e below s _ _ _ T6 (mkF m 74 #[.val (.ref a1), .val (.int x1), .val (.long y1), .second, .val (.long pp), .second, .val (.int ww), .val (.int (Int32.ofNat (ii * bb % 64))), .unset] [(.int (Int32.ofNat (ii * bb % 64))), (.int (64 : Int32))])
    refine Dn.st (fun t q => XS.isub X6.here hx rfl (hb hby d6_74) rfl q) ?_
    show Dn p e below s _ _ _ T6 (mkF m 75 #[.val (.ref a1), .val (.int x1), .val (.long y1), .second, .val (.long pp), .second, .val (.int ww), .val (.int (Int32.ofNat (ii * bb % 64))), .unset] [(.int ((64 : Int32) - (Int32.ofNat (ii * bb % 64))))])
    refine Dn.st (fun t q => XS.istore X6.here hx rfl (hb hby d6_75) rfl (l' := #[.val (.ref a1), .val (.int x1), .val (.long y1), .second, .val (.long pp), .second, .val (.int ww), .val (.int (Int32.ofNat (ii * bb % 64))), .val (.int ((64 : Int32) - (Int32.ofNat (ii * bb % 64))))]) rfl q) ?_
    show Dn p e below s _ _ _ T6 (mkF m 77 #[.val (.ref a1), .val (.int x1), .val (.long y1), .second, .val (.long pp), .second, .val (.int ww), .val (.int (Int32.ofNat (ii * bb % 64))), .val (.int ((64 : Int32) - (Int32.ofNat (ii * bb % 64))))] [])
    refine Dn.st (fun t q => XS.aloadN X6.here hx rfl (hb hby d6_77) rfl rfl  q) ?_
    show Dn p e below s _ _ _ T6 (mkF m 78 #[.val (.ref a1), .val (.int x1), .val (.long y1), .second, .val (.long pp), .second, .val (.int ww), .val (.int (Int32.ofNat (ii * bb % 64))), .val (.int ((64 : Int32) - (Int32.ofNat (ii * bb % 64))))] [(.ref a1)])
    obtain ⟨T7, X7, e7, st7⟩ := getF X6 hx hZ hown (host := "") (Or.inl (hw _ (List.mem_of_getElem? (i := 24) rfl))) Via.refl e6 F_words (g := (mkF m 78 #[.val (.ref a1), .val (.int x1), .val (.long y1), .second, .val (.long pp), .second, .val (.int ww), .val (.int (Int32.ofNat (ii * bb % 64))), .val (.int ((64 : Int32) - (Int32.ofNat (ii * bb % 64))))] [(.ref a1)])) rfl rfl (hb hby d6_78)
    refine Dn.st st7 ?_
    show Dn p e below s _ _ _ T7 (mkF m 81 #[.val (.ref a1), .val (.int x1), .val (.long y1), .second, .val (.long pp), .second, .val (.int ww), .val (.int (Int32.ofNat (ii * bb % 64))), .val (.int ((64 : Int32) - (Int32.ofNat (ii * bb % 64))))] [(.ref ar)])
    refine Dn.st (fun t q => XS.iload X7.here hx rfl (hb hby d6_81) rfl  q) ?_
    show Dn p e below s _ _ _ T7 (mkF m 83 #[.val (.ref a1), .val (.int x1), .val (.long y1), .second, .val (.long pp), .second, .val (.int ww), .val (.int (Int32.ofNat (ii * bb % 64))), .val (.int ((64 : Int32) - (Int32.ofNat (ii * bb % 64))))] [(.int ww), (.ref ar)])
    refine Dn.st (fun t q => XS.iconst X7.here hx rfl (hb hby d6_83) q) ?_
    show Dn p e below s _ _ _ T7 (mkF m 84 #[.val (.ref a1), .val (.int x1), .val (.long y1), .second, .val (.long pp), .second, .val (.int ww), .val (.int (Int32.ofNat (ii * bb % 64))), .val (.int ((64 : Int32) - (Int32.ofNat (ii * bb % 64))))] [(.int (1 : Int32)), (.int ww), (.ref ar)])
    refine Dn.st (fun t q => XS.iadd X7.here hx rfl (hb hby d6_84) rfl q) ?_
    show Dn p e below s _ _ _ T7 (mkF m 85 #[.val (.ref a1), .val (.int x1), .val (.long y1), .second, .val (.long pp), .second, .val (.int ww), .val (.int (Int32.ofNat (ii * bb % 64))), .val (.int ((64 : Int32) - (Int32.ofNat (ii * bb % 64))))] [(.int (ww + (1 : Int32))), (.ref ar)])
    refine Dn.st (fun t q => XS.aloadN X7.here hx rfl (hb hby d6_85) rfl rfl  q) ?_
    show Dn p e below s _ _ _ T7 (mkF m 86 #[.val (.ref a1), .val (.int x1), .val (.long y1), .second, .val (.long pp), .second, .val (.int ww), .val (.int (Int32.ofNat (ii * bb % 64))), .val (.int ((64 : Int32) - (Int32.ofNat (ii * bb % 64))))] [(.ref a1), (.int (ww + (1 : Int32))), (.ref ar)])
    obtain ⟨T8, X8, e8, st8⟩ := getF X7 hx hZ hown (host := "") (Or.inl (hw _ (List.mem_of_getElem? (i := 24) rfl))) Via.refl e7 F_words (g := (mkF m 86 #[.val (.ref a1), .val (.int x1), .val (.long y1), .second, .val (.long pp), .second, .val (.int ww), .val (.int (Int32.ofNat (ii * bb % 64))), .val (.int ((64 : Int32) - (Int32.ofNat (ii * bb % 64))))] [(.ref a1), (.int (ww + (1 : Int32))), (.ref ar)])) rfl rfl (hb hby d6_86)
    refine Dn.st st8 ?_
    show Dn p e below s _ _ _ T8 (mkF m 89 #[.val (.ref a1), .val (.int x1), .val (.long y1), .second, .val (.long pp), .second, .val (.int ww), .val (.int (Int32.ofNat (ii * bb % 64))), .val (.int ((64 : Int32) - (Int32.ofNat (ii * bb % 64))))] [(.ref ar), (.int (ww + (1 : Int32))), (.ref ar)])
    refine Dn.st (fun t q => XS.iload X8.here hx rfl (hb hby d6_89) rfl  q) ?_
    show Dn p e below s _ _ _ T8 (mkF m 91 #[.val (.ref a1), .val (.int x1), .val (.long y1), .second, .val (.long pp), .second, .val (.int ww), .val (.int (Int32.ofNat (ii * bb % 64))), .val (.int ((64 : Int32) - (Int32.ofNat (ii * bb % 64))))] [(.int ww), (.ref ar), (.int (ww + (1 : Int32))), (.ref ar)])
    refine Dn.st (fun t q => XS.iconst X8.here hx rfl (hb hby d6_91) q) ?_
    show Dn p e below s _ _ _ T8 (mkF m 92 #[.val (.ref a1), .val (.int x1), .val (.long y1), .second, .val (.long pp), .second, .val (.int ww), .val (.int (Int32.ofNat (ii * bb % 64))), .val (.int ((64 : Int32) - (Int32.ofNat (ii * bb % 64))))] [(.int (1 : Int32)), (.int ww), (.ref ar), (.int (ww + (1 : Int32))), (.ref ar)])
    refine Dn.st (fun t q => XS.iadd X8.here hx rfl (hb hby d6_92) rfl q) ?_
    show Dn p e below s _ _ _ T8 (mkF m 93 #[.val (.ref a1), .val (.int x1), .val (.long y1), .second, .val (.long pp), .second, .val (.int ww), .val (.int (Int32.ofNat (ii * bb % 64))), .val (.int ((64 : Int32) - (Int32.ofNat (ii * bb % 64))))] [(.int (ww + (1 : Int32))), (.ref ar), (.int (ww + (1 : Int32))), (.ref ar)])
    refine Dn.st (aLoadJ (w := (fun x => ((own_st f (ii * bb / 64) (own_w1 (f (ii * bb / 64)) ym y1 (Int32.ofNat (ii * bb % 64)))) x))) X8 hx hZ e8 A (i := (ii * bb / 64 + 1)) (own_word1 hw1 hb2 hii) hin (g := (mkF m 93 #[.val (.ref a1), .val (.int x1), .val (.long y1), .second, .val (.long pp), .second, .val (.int ww), .val (.int (Int32.ofNat (ii * bb % 64))), .val (.int ((64 : Int32) - (Int32.ofNat (ii * bb % 64))))] [(.int (ww + (1 : Int32))), (.ref ar), (.int (ww + (1 : Int32))), (.ref ar)])) rfl rfl (hb hby d6_93)) ?_
    show Dn p e below s _ _ _ T8 (mkF m 94 #[.val (.ref a1), .val (.int x1), .val (.long y1), .second, .val (.long pp), .second, .val (.int ww), .val (.int (Int32.ofNat (ii * bb % 64))), .val (.int ((64 : Int32) - (Int32.ofNat (ii * bb % 64))))] [(.long ((own_st f (ii * bb / 64) (own_w1 (f (ii * bb / 64)) ym y1 (Int32.ofNat (ii * bb % 64)))) ((ii * bb / 64 + 1)))), (.int (ww + (1 : Int32))), (.ref ar)])
    refine Dn.st (fun t q => XS.aloadN X8.here hx rfl (hb hby d6_94) rfl rfl  q) ?_
    show Dn p e below s _ _ _ T8 (mkF m 95 #[.val (.ref a1), .val (.int x1), .val (.long y1), .second, .val (.long pp), .second, .val (.int ww), .val (.int (Int32.ofNat (ii * bb % 64))), .val (.int ((64 : Int32) - (Int32.ofNat (ii * bb % 64))))] [(.ref a1), (.long ((own_st f (ii * bb / 64) (own_w1 (f (ii * bb / 64)) ym y1 (Int32.ofNat (ii * bb % 64)))) ((ii * bb / 64 + 1)))), (.int (ww + (1 : Int32))), (.ref ar)])
    obtain ⟨T9, X9, e9, st9⟩ := getF X8 hx hZ hown (host := "") (Or.inl (hw _ (List.mem_of_getElem? (i := 21) rfl))) Via.refl e8 F_mask (g := (mkF m 95 #[.val (.ref a1), .val (.int x1), .val (.long y1), .second, .val (.long pp), .second, .val (.int ww), .val (.int (Int32.ofNat (ii * bb % 64))), .val (.int ((64 : Int32) - (Int32.ofNat (ii * bb % 64))))] [(.ref a1), (.long ((own_st f (ii * bb / 64) (own_w1 (f (ii * bb / 64)) ym y1 (Int32.ofNat (ii * bb % 64)))) ((ii * bb / 64 + 1)))), (.int (ww + (1 : Int32))), (.ref ar)])) rfl rfl (hb hby d6_95)
    refine Dn.st st9 ?_
    show Dn p e below s _ _ _ T9 (mkF m 98 #[.val (.ref a1), .val (.int x1), .val (.long y1), .second, .val (.long pp), .second, .val (.int ww), .val (.int (Int32.ofNat (ii * bb % 64))), .val (.int ((64 : Int32) - (Int32.ofNat (ii * bb % 64))))] [(.long ym), (.long ((own_st f (ii * bb / 64) (own_w1 (f (ii * bb / 64)) ym y1 (Int32.ofNat (ii * bb % 64)))) ((ii * bb / 64 + 1)))), (.int (ww + (1 : Int32))), (.ref ar)])
    refine Dn.st (fun t q => XS.iload X9.here hx rfl (hb hby d6_98) rfl  q) ?_
    show Dn p e below s _ _ _ T9 (mkF m 100 #[.val (.ref a1), .val (.int x1), .val (.long y1), .second, .val (.long pp), .second, .val (.int ww), .val (.int (Int32.ofNat (ii * bb % 64))), .val (.int ((64 : Int32) - (Int32.ofNat (ii * bb % 64))))] [(.int ((64 : Int32) - (Int32.ofNat (ii * bb % 64)))), (.long ym), (.long ((own_st f (ii * bb / 64) (own_w1 (f (ii * bb / 64)) ym y1 (Int32.ofNat (ii * bb % 64)))) ((ii * bb / 64 + 1)))), (.int (ww + (1 : Int32))), (.ref ar)])
    refine Dn.st (fun t q => XS.lushr X9.here hx rfl (hb hby d6_100) rfl q) ?_
    show Dn p e below s _ _ _ T9 (mkF m 101 #[.val (.ref a1), .val (.int x1), .val (.long y1), .second, .val (.long pp), .second, .val (.int ww), .val (.int (Int32.ofNat (ii * bb % 64))), .val (.int ((64 : Int32) - (Int32.ofNat (ii * bb % 64))))] [(.long ((ym.toUInt64 >>> (((64 : Int32) - (Int32.ofNat (ii * bb % 64))) &&& 0x3f).toInt64.toUInt64).toInt64)), (.long ((own_st f (ii * bb / 64) (own_w1 (f (ii * bb / 64)) ym y1 (Int32.ofNat (ii * bb % 64)))) ((ii * bb / 64 + 1)))), (.int (ww + (1 : Int32))), (.ref ar)])
    refine Dn.st (X9.ldc2Long hx hown (mvT hZ (hw _ (List.mem_of_getElem? (i := 20) rfl))) (g := (mkF m 101 #[.val (.ref a1), .val (.int x1), .val (.long y1), .second, .val (.long pp), .second, .val (.int ww), .val (.int (Int32.ofNat (ii * bb % 64))), .val (.int ((64 : Int32) - (Int32.ofNat (ii * bb % 64))))] [(.long ((ym.toUInt64 >>> (((64 : Int32) - (Int32.ofNat (ii * bb % 64))) &&& 0x3f).toInt64.toUInt64).toInt64)), (.long ((own_st f (ii * bb / 64) (own_w1 (f (ii * bb / 64)) ym y1 (Int32.ofNat (ii * bb % 64)))) ((ii * bb / 64 + 1)))), (.int (ww + (1 : Int32))), (.ref ar)])) rfl (hb hby d6_101)) ?_
    show Dn p e below s _ _ _ T9 (mkF m 104 #[.val (.ref a1), .val (.int x1), .val (.long y1), .second, .val (.long pp), .second, .val (.int ww), .val (.int (Int32.ofNat (ii * bb % 64))), .val (.int ((64 : Int32) - (Int32.ofNat (ii * bb % 64))))] [(.long (-1 : Int64)), (.long ((ym.toUInt64 >>> (((64 : Int32) - (Int32.ofNat (ii * bb % 64))) &&& 0x3f).toInt64.toUInt64).toInt64)), (.long ((own_st f (ii * bb / 64) (own_w1 (f (ii * bb / 64)) ym y1 (Int32.ofNat (ii * bb % 64)))) ((ii * bb / 64 + 1)))), (.int (ww + (1 : Int32))), (.ref ar)])
    refine Dn.st (fun t q => XS.lxor X9.here hx rfl (hb hby d6_104) rfl q) ?_
    show Dn p e below s _ _ _ T9 (mkF m 105 #[.val (.ref a1), .val (.int x1), .val (.long y1), .second, .val (.long pp), .second, .val (.int ww), .val (.int (Int32.ofNat (ii * bb % 64))), .val (.int ((64 : Int32) - (Int32.ofNat (ii * bb % 64))))] [(.long (((ym.toUInt64 >>> (((64 : Int32) - (Int32.ofNat (ii * bb % 64))) &&& 0x3f).toInt64.toUInt64).toInt64) ^^^ (-1 : Int64))), (.long ((own_st f (ii * bb / 64) (own_w1 (f (ii * bb / 64)) ym y1 (Int32.ofNat (ii * bb % 64)))) ((ii * bb / 64 + 1)))), (.int (ww + (1 : Int32))), (.ref ar)])
    refine Dn.st (fun t q => XS.land X9.here hx rfl (hb hby d6_105) rfl q) ?_
    show Dn p e below s _ _ _ T9 (mkF m 106 #[.val (.ref a1), .val (.int x1), .val (.long y1), .second, .val (.long pp), .second, .val (.int ww), .val (.int (Int32.ofNat (ii * bb % 64))), .val (.int ((64 : Int32) - (Int32.ofNat (ii * bb % 64))))] [(.long (((own_st f (ii * bb / 64) (own_w1 (f (ii * bb / 64)) ym y1 (Int32.ofNat (ii * bb % 64)))) ((ii * bb / 64 + 1))) &&& (((ym.toUInt64 >>> (((64 : Int32) - (Int32.ofNat (ii * bb % 64))) &&& 0x3f).toInt64.toUInt64).toInt64) ^^^ (-1 : Int64)))), (.int (ww + (1 : Int32))), (.ref ar)])
    refine Dn.st (fun t q => XS.lloadN X9.here hx rfl (hb hby d6_106) rfl  q) ?_
    show Dn p e below s _ _ _ T9 (mkF m 107 #[.val (.ref a1), .val (.int x1), .val (.long y1), .second, .val (.long pp), .second, .val (.int ww), .val (.int (Int32.ofNat (ii * bb % 64))), .val (.int ((64 : Int32) - (Int32.ofNat (ii * bb % 64))))] [(.long y1), (.long (((own_st f (ii * bb / 64) (own_w1 (f (ii * bb / 64)) ym y1 (Int32.ofNat (ii * bb % 64)))) ((ii * bb / 64 + 1))) &&& (((ym.toUInt64 >>> (((64 : Int32) - (Int32.ofNat (ii * bb % 64))) &&& 0x3f).toInt64.toUInt64).toInt64) ^^^ (-1 : Int64)))), (.int (ww + (1 : Int32))), (.ref ar)])
    refine Dn.st (fun t q => XS.iload X9.here hx rfl (hb hby d6_107) rfl  q) ?_
    show Dn p e below s _ _ _ T9 (mkF m 109 #[.val (.ref a1), .val (.int x1), .val (.long y1), .second, .val (.long pp), .second, .val (.int ww), .val (.int (Int32.ofNat (ii * bb % 64))), .val (.int ((64 : Int32) - (Int32.ofNat (ii * bb % 64))))] [(.int ((64 : Int32) - (Int32.ofNat (ii * bb % 64)))), (.long y1), (.long (((own_st f (ii * bb / 64) (own_w1 (f (ii * bb / 64)) ym y1 (Int32.ofNat (ii * bb % 64)))) ((ii * bb / 64 + 1))) &&& (((ym.toUInt64 >>> (((64 : Int32) - (Int32.ofNat (ii * bb % 64))) &&& 0x3f).toInt64.toUInt64).toInt64) ^^^ (-1 : Int64)))), (.int (ww + (1 : Int32))), (.ref ar)])
    refine Dn.st (fun t q => XS.lushr X9.here hx rfl (hb hby d6_109) rfl q) ?_
    show Dn p e below s _ _ _ T9 (mkF m 110 #[.val (.ref a1), .val (.int x1), .val (.long y1), .second, .val (.long pp), .second, .val (.int ww), .val (.int (Int32.ofNat (ii * bb % 64))), .val (.int ((64 : Int32) - (Int32.ofNat (ii * bb % 64))))] [(.long ((y1.toUInt64 >>> (((64 : Int32) - (Int32.ofNat (ii * bb % 64))) &&& 0x3f).toInt64.toUInt64).toInt64)), (.long (((own_st f (ii * bb / 64) (own_w1 (f (ii * bb / 64)) ym y1 (Int32.ofNat (ii * bb % 64)))) ((ii * bb / 64 + 1))) &&& (((ym.toUInt64 >>> (((64 : Int32) - (Int32.ofNat (ii * bb % 64))) &&& 0x3f).toInt64.toUInt64).toInt64) ^^^ (-1 : Int64)))), (.int (ww + (1 : Int32))), (.ref ar)])
    refine Dn.st (fun t q => XS.lor X9.here hx rfl (hb hby d6_110) rfl q) ?_
    show Dn p e below s _ _ _ T9 (mkF m 111 #[.val (.ref a1), .val (.int x1), .val (.long y1), .second, .val (.long pp), .second, .val (.int ww), .val (.int (Int32.ofNat (ii * bb % 64))), .val (.int ((64 : Int32) - (Int32.ofNat (ii * bb % 64))))] [(.long ((((own_st f (ii * bb / 64) (own_w1 (f (ii * bb / 64)) ym y1 (Int32.ofNat (ii * bb % 64)))) ((ii * bb / 64 + 1))) &&& (((ym.toUInt64 >>> (((64 : Int32) - (Int32.ofNat (ii * bb % 64))) &&& 0x3f).toInt64.toUInt64).toInt64) ^^^ (-1 : Int64))) ||| ((y1.toUInt64 >>> (((64 : Int32) - (Int32.ofNat (ii * bb % 64))) &&& 0x3f).toInt64.toUInt64).toInt64))), (.int (ww + (1 : Int32))), (.ref ar)])
    obtain ⟨T10, h10, X10, e10, W10, B10, st10⟩ := aStoJ X9 hx hZ e9 A (i := (ii * bb / 64 + 1)) (own_word1 hw1 hb2 hii) hin (g := (mkF m 111 #[.val (.ref a1), .val (.int x1), .val (.long y1), .second, .val (.long pp), .second, .val (.int ww), .val (.int (Int32.ofNat (ii * bb % 64))), .val (.int ((64 : Int32) - (Int32.ofNat (ii * bb % 64))))] [(.long ((((own_st f (ii * bb / 64) (own_w1 (f (ii * bb / 64)) ym y1 (Int32.ofNat (ii * bb % 64)))) ((ii * bb / 64 + 1))) &&& (((ym.toUInt64 >>> (((64 : Int32) - (Int32.ofNat (ii * bb % 64))) &&& 0x3f).toInt64.toUInt64).toInt64) ^^^ (-1 : Int64))) ||| ((y1.toUInt64 >>> (((64 : Int32) - (Int32.ofNat (ii * bb % 64))) &&& 0x3f).toInt64.toUInt64).toInt64))), (.int (ww + (1 : Int32))), (.ref ar)])) rfl rfl (hb hby d6_111)
    have N0 := Fr.snoc X10 N0 g_ar
    have Z0 := Nat.le_trans Z0 (Keep.of_wr W10).1
    have K0 := K0.wr W10 (Or.inl (List.mem_of_getElem? (i := 0) rfl))
    have F_bits := F_bits.other W10 (Or.inl ne_a1_ar)
    have F_mask := F_mask.other W10 (Or.inl ne_a1_ar)
    have F_words := F_words.other W10 (Or.inl ne_a1_ar)
    have A : Ary Z h10 ar .long nn (fun x => .long ((own_st (own_st f (ii * bb / 64) (own_w1 (f (ii * bb / 64)) ym y1 (Int32.ofNat (ii * bb % 64)))) (ii * bb / 64 + 1) (own_w2 ((own_st f (ii * bb / 64) (own_w1 (f (ii * bb / 64)) ym y1 (Int32.ofNat (ii * bb % 64)))) (ii * bb / 64 + 1)) ym y1 (Int32.ofNat (ii * bb % 64)))) x)) := B10.congr (own_st_eq rfl)
    refine Dn.st st10 ?_
    show Dn p e below s _ _ _ T10 (mkF m 112 #[.val (.ref a1), .val (.int x1), .val (.long y1), .second, .val (.long pp), .second, .val (.int ww), .val (.int (Int32.ofNat (ii * bb % 64))), .val (.int ((64 : Int32) - (Int32.ofNat (ii * bb % 64))))] [])
    exact Dn.retV X10 hx Bd.notSynchronized Bd.returns (hb hby d6_112) (by rw [e10]; exact ⟨rfl, N0, K0, A.congr (own_set_two hxb hb2 h64)⟩) (by decide) (by decide)
  · refine Dn.st (fun t q => XS.icmpYes X6.here hx rfl (pc0 := 67) (pc' := 112) rfl (hb hby d6_67) rfl (flt h64).2.2.2 (by decide) (by decide) q) ?_
    show Dn p e below s _ _ _ T6 (mkF m 112 #[.val (.ref a1), .val (.int x1), .val (.long y1), .second, .val (.long pp), .second, .val (.int ww), .val (.int (Int32.ofNat (ii * bb % 64))), .unset] [])
    exact Dn.retV X6 hx Bd.notSynchronized Bd.returns (hb hby d6_112) (by rw [e6]; exact ⟨rfl, N0, K0, A.congr (own_set_one hxb hb2 h64)⟩) (by decide) (by decide)
theorem d5_0 : decode prog_25_method_3_code 0 = .ok (.lload_n 1, 1) := by decide +kernel
theorem d5_1 : decode prog_25_method_3_code 1 = .ok (.aload_n 0, 1) := by decide +kernel
theorem d5_2 : decode prog_25_method_3_code 2 = .ok (.getfield 29, 3) := by decide +kernel
theorem d5_5 : decode prog_25_method_3_code 5 = .ok (.ldc2_w 27, 3) := by decide +kernel
theorem d5_8 : decode prog_25_method_3_code 8 = .ok (.lxor, 1) := by decide +kernel
theorem d5_9 : decode prog_25_method_3_code 9 = .ok (.land, 1) := by decide +kernel
theorem d5_10 : decode prog_25_method_3_code 10 = .ok (.lconst 0, 1) := by decide +kernel
theorem d5_11 : decode prog_25_method_3_code 11 = .ok (.lcmp, 1) := by decide +kernel
theorem d5_12 : decode prog_25_method_3_code 12 = .ok (.ifCond .ne 7, 3) := by decide +kernel
theorem d5_15 : decode prog_25_method_3_code 15 = .ok (.iconst 1, 1) := by decide +kernel
theorem d5_16 : decode prog_25_method_3_code 16 = .ok (.goto 4, 3) := by decide +kernel
theorem d5_20 : decode prog_25_method_3_code 20 = .ok (.ireturn, 1) := by decide +kernel
theorem ef_rm5 (m : MethodId) (x0 : Addr) (x1 : Int64) : entryFrame m #[(.ref x0), (.long x1)] 3 = mkF m 0 #[.val (.ref x0), .val (.long x1), .second] [] := by first | (simp [entryFrame, mkF, argsToLocals, Value.category]; done) | rfl
def Q5 (Z : State) (a1 : Addr) (y1 : Int64) (ym : Int64) (h0 : Heap) (n0 : Nat) (v : Option Value) (h : Heap) (L : List Loc) : Prop := v = some (.int 1) ∧ Fr n0 L ∧ h = h0
set_option maxRecDepth 65536 in
set_option maxHeartbeats 40000000 in
theorem rm5 (l : Launch) (Z : State) (a0 : Array Value) (hw : ∀ d ∈ tables_1, d.before a0 Z = true) (ws : List Jvm.Cond) (a1 : Addr) (y1 : Int64) (ym : Int64) (h0 : Heap) (n0 : Nat) (Z0 : n0 ≤ h0.size) (F_mask : Fld Z h0 a1 "com/example/hindcut/hindcut/PackedNumbers" "mask" "J" (.long ym)) (hv : (y1 &&& (ym ^^^ (-1 : Int64))) = (0 : Int64)) :
    MetFree l (⟨"com/example/hindcut/hindcut/PackedNumbers", "holds", "(J)Z"⟩ : MethodName) (head1 (Jvm.Cond.code (⟨"com/example/hindcut/hindcut/PackedNumbers", "holds", "(J)Z"⟩ : MethodName) prog_25_method_3_code 3 (some .boolean) :: ws) ({ frames := 0, cells := 0, slots := 0, locals := 0 } : Room)) (fun a U => a = #[(.ref a1), (.long y1)] ∧ Z.Warmed39 U.vm ∧ U.heap = h0) (fun _ _ _ _ _ => True) (fun _ U o U' => ∃ v L, o = .returned v ∧ Q5 Z a1 y1 ym h0 n0 v U'.heap L ∧ FrameEnd U o U' L ({ frames := 0, cells := 0, slots := 0, locals := 0 } : Room).cells ({ frames := 0, cells := 0, slots := 0, locals := 0 } : Room).slots) := by
  refine MetFree.of_bodySF (plainFor_of_name pn_0) hisR ?_
  intro p e s m args below meth c s₁ Bd hml0 hP hK
  obtain ⟨rfl, hZ, hh⟩ := hP
  have hx := Bd.exec
  have hby := Bd.bytes
  have hml : c.maxLocals = 3 := hml0
  have hown : s.vm.findClass "com/example/hindcut/hindcut/PackedNumbers" = some m.cls := findClass_of_methodNamed Bd.named
  have hnm := (name_of_methodNamed Bd.named Bd.method).1
  have X0 : Stand p l e ({ frames := 0, cells := 0, slots := 0, locals := 0 } : Room) s m #[(.ref a1), (.long y1)] below meth c s₁ [] 0 0 := Stand.of_body Bd
  have e0 : s₁.heap = h0 := by rw [← hh, Bd.state]; rfl
  have N0 := Fr.nil n0
  have K0 := Keep.refl h0 []
  suffices hD : Dn p e below s (Q5 Z a1 y1 ym h0 n0) ({ frames := 0, cells := 0, slots := 0, locals := 0 } : Room).cells ({ frames := 0, cells := 0, slots := 0, locals := 0 } : Room).slots s₁ (mkF m 0 #[.val (.ref a1), .val (.long y1), .second] []) from by
    obtain ⟨s₂, o, q1, q2⟩ := hD
    exact ⟨s₂, o, castTop (ef_rm5 m a1 y1) q1, q2⟩
  refine Dn.st (fun t q => XS.lloadN X0.here hx rfl (hb hby d5_0) rfl  q) ?_
  show Dn p e below s _ _ _ s₁ (mkF m 1 #[.val (.ref a1), .val (.long y1), .second] [(.long y1)])
  refine Dn.st (fun t q => XS.aloadN X0.here hx rfl (hb hby d5_1) rfl rfl  q) ?_
  show Dn p e below s _ _ _ s₁ (mkF m 2 #[.val (.ref a1), .val (.long y1), .second] [(.ref a1), (.long y1)])
  obtain ⟨T1, X1, e1, st1⟩ := getF X0 hx hZ hown (host := "") (Or.inl (hw _ (List.mem_of_getElem? (i := 21) rfl))) Via.refl e0 F_mask (g := (mkF m 2 #[.val (.ref a1), .val (.long y1), .second] [(.ref a1), (.long y1)])) rfl rfl (hb hby d5_2)
  refine Dn.st st1 ?_
  show Dn p e below s _ _ _ T1 (mkF m 5 #[.val (.ref a1), .val (.long y1), .second] [(.long ym), (.long y1)])
  refine Dn.st (X1.ldc2Long hx hown (mvT hZ (hw _ (List.mem_of_getElem? (i := 20) rfl))) (g := (mkF m 5 #[.val (.ref a1), .val (.long y1), .second] [(.long ym), (.long y1)])) rfl (hb hby d5_5)) ?_
  show Dn p e below s _ _ _ T1 (mkF m 8 #[.val (.ref a1), .val (.long y1), .second] [(.long (-1 : Int64)), (.long ym), (.long y1)])
  refine Dn.st (fun t q => XS.lxor X1.here hx rfl (hb hby d5_8) rfl q) ?_
  show Dn p e below s _ _ _ T1 (mkF m 9 #[.val (.ref a1), .val (.long y1), .second] [(.long (ym ^^^ (-1 : Int64))), (.long y1)])
  refine Dn.st (fun t q => XS.land X1.here hx rfl (hb hby d5_9) rfl q) ?_
  show Dn p e below s _ _ _ T1 (mkF m 10 #[.val (.ref a1), .val (.long y1), .second] [(.long (y1 &&& (ym ^^^ (-1 : Int64))))])
  refine Dn.st (fun t q => XS.lconst X1.here hx rfl (hb hby d5_10) q) ?_
  show Dn p e below s _ _ _ T1 (mkF m 11 #[.val (.ref a1), .val (.long y1), .second] [(.long (0 : Int64)), (.long (y1 &&& (ym ^^^ (-1 : Int64))))])
  refine Dn.st (fun t q => XS.lcmp X1.here hx rfl (hb hby d5_11) rfl q) ?_
  show Dn p e below s _ _ _ T1 (mkF m 12 #[.val (.ref a1), .val (.long y1), .second] [(.int (lcmpW (y1 &&& (ym ^^^ (-1 : Int64))) (0 : Int64)))])
  refine Dn.st (fun t q => XS.ifNo X1.here hx rfl (hb hby d5_12) rfl ((if0 _ _).trans (teq ((lw_eq _ _).mpr hv)).2) q) ?_
  show Dn p e below s _ _ _ T1 (mkF m 15 #[.val (.ref a1), .val (.long y1), .second] [])
  refine Dn.st (fun t q => XS.iconst X1.here hx rfl (hb hby d5_15) q) ?_
  show Dn p e below s _ _ _ T1 (mkF m 16 #[.val (.ref a1), .val (.long y1), .second] [(.int (1 : Int32))])
  refine Dn.st (fun t q => XS.goto X1.here hx rfl (pc0 := 16) (pc' := 20) rfl (hb hby d5_16) (by decide) (by decide) q) ?_
  show Dn p e below s _ _ _ T1 (mkF m 20 #[.val (.ref a1), .val (.long y1), .second] [(.int (1 : Int32))])
  exact Dn.retZ X1 hx Bd.notSynchronized (t := .boolean) Bd.returns (by simp) (hb hby d5_20) (by rw [e1]; exact ⟨rfl, N0, rfl⟩) (by decide) (by decide)
theorem d4_0 : decode prog_25_method_8_code 0 = .ok (.aload_n 0, 1) := by decide +kernel
theorem d4_1 : decode prog_25_method_8_code 1 = .ok (.astore 4, 2) := by decide +kernel
theorem d4_3 : decode prog_25_method_8_code 3 = .ok (.aload_n 0, 1) := by decide +kernel
theorem d4_4 : decode prog_25_method_8_code 4 = .ok (.lload_n 2, 1) := by decide +kernel
theorem d4_5 : decode prog_25_method_8_code 5 = .ok (.invokevirtual 51, 3) := by decide +kernel
theorem pd_0 : parseMethodDescriptor "(J)Z" = some ⟨[.long], some .boolean⟩ := by decide +kernel
theorem d4_8 : decode prog_25_method_8_code 8 = .ok (.ifCond .ne 51, 3) := by decide +kernel
theorem d4_59 : decode prog_25_method_8_code 59 = .ok (.aload 4, 2) := by decide +kernel
theorem d4_61 : decode prog_25_method_8_code 61 = .ok (.iload_n 1, 1) := by decide +kernel
theorem d4_62 : decode prog_25_method_8_code 62 = .ok (.lload_n 2, 1) := by decide +kernel
theorem d4_63 : decode prog_25_method_8_code 63 = .ok (.invokevirtual 65, 3) := by decide +kernel
theorem pd_1 : parseMethodDescriptor "(IJ)V" = some ⟨[.int, .long], none⟩ := by decide +kernel
theorem d4_66 : decode prog_25_method_8_code 66 = .ok (.aload 4, 2) := by decide +kernel
theorem d4_68 : decode prog_25_method_8_code 68 = .ok (.areturn, 1) := by decide +kernel
theorem ef_rm4 (m : MethodId) (x0 : Addr) (x1 : Int32) (x2 : Int64) : entryFrame m #[(.ref x0), (.int x1), (.long x2)] 6 = mkF m 0 #[.val (.ref x0), .val (.int x1), .val (.long x2), .second, .unset, .unset] [] := by first | (simp [entryFrame, mkF, argsToLocals, Value.category]; done) | rfl
def Q4 (Z : State) (a1 : Addr) (x1 : Int32) (y1 : Int64) (xb : Int32) (ym : Int64) (ar : Addr) (nn : Nat) (f : Nat → Int64) (ii : Nat) (bb : Nat) (h0 : Heap) (n0 : Nat) (v : Option Value) (h : Heap) (L : List Loc) : Prop := v = some (.ref a1) ∧ Fr n0 L ∧ Keep h0 h [ar] ∧ Ary Z h ar .long nn (fun x => .long (own_set f ii bb ym y1 x))
set_option maxRecDepth 65536 in
set_option maxHeartbeats 40000000 in
theorem rm4 (l : Launch) (Z : State) (a0 : Array Value) (hw : ∀ d ∈ tables_1, d.before a0 Z = true) (ws : List Jvm.Cond) (a1 : Addr) (x1 : Int32) (y1 : Int64) (xb : Int32) (ym : Int64) (ar : Addr) (nn : Nat) (f : Nat → Int64) (ii : Nat) (bb : Nat) (h0 : Heap) (n0 : Nat) (Z0 : n0 ≤ h0.size) (E_a1 : Exa Z h0 a1 "com/example/hindcut/hindcut/PackedNumbers") (F_bits : Fld Z h0 a1 "com/example/hindcut/hindcut/PackedNumbers" "bits" "I" (.int xb)) (F_mask : Fld Z h0 a1 "com/example/hindcut/hindcut/PackedNumbers" "mask" "J" (.long ym)) (F_words : Fld Z h0 a1 "com/example/hindcut/hindcut/PackedNumbers" "words" "[J" (.ref ar)) (A : Ary Z h0 ar .long nn (fun x => .long (f x))) (hx1 : x1.toInt = (ii : Int)) (hxb : xb.toInt = (bb : Int)) (hb2 : bb ≤ 64) (hii : ii ≤ 1000) (hin : ii * bb / 64 + 1 < nn) (ne_a1_ar : a1 ≠ ar) (g_ar : n0 ≤ ar) (hv : (y1 &&& (ym ^^^ (-1 : Int64))) = (0 : Int64)) :
    MetFree l (⟨"com/example/hindcut/hindcut/PackedNumbers", "with", "(IJ)Lcom/example/hindcut/hindcut/PackedNumbers;"⟩ : MethodName) (head1 (Jvm.Cond.code (⟨"com/example/hindcut/hindcut/PackedNumbers", "with", "(IJ)Lcom/example/hindcut/hindcut/PackedNumbers;"⟩ : MethodName) prog_25_method_8_code 6 (some (.object "com/example/hindcut/hindcut/PackedNumbers")) :: ws) ({ frames := 1, cells := 0, slots := 0, locals := 20 } : Room)) (fun a U => a = #[(.ref a1), (.int x1), (.long y1)] ∧ Z.Warmed39 U.vm ∧ U.heap = h0) (fun _ _ _ _ _ => True) (fun _ U o U' => ∃ v L, o = .returned v ∧ Q4 Z a1 x1 y1 xb ym ar nn f ii bb h0 n0 v U'.heap L ∧ FrameEnd U o U' L ({ frames := 1, cells := 0, slots := 0, locals := 20 } : Room).cells ({ frames := 1, cells := 0, slots := 0, locals := 20 } : Room).slots) := by
  refine MetFree.of_bodySF (plainFor_of_name pn_0) hisR ?_
  intro p e s m args below meth c s₁ Bd hml0 hP hK
  obtain ⟨rfl, hZ, hh⟩ := hP
  have hx := Bd.exec
  have hby := Bd.bytes
  have hml : c.maxLocals = 6 := hml0
  have hown : s.vm.findClass "com/example/hindcut/hindcut/PackedNumbers" = some m.cls := findClass_of_methodNamed Bd.named
  have hnm := (name_of_methodNamed Bd.named Bd.method).1
  have X0 : Stand p l e ({ frames := 1, cells := 0, slots := 0, locals := 20 } : Room) s m #[(.ref a1), (.int x1), (.long y1)] below meth c s₁ [] 0 0 := Stand.of_body Bd
  have e0 : s₁.heap = h0 := by rw [← hh, Bd.state]; rfl
  have N0 := Fr.nil n0
  have K0 := Keep.refl h0 [ar]
  suffices hD : Dn p e below s (Q4 Z a1 x1 y1 xb ym ar nn f ii bb h0 n0) ({ frames := 1, cells := 0, slots := 0, locals := 20 } : Room).cells ({ frames := 1, cells := 0, slots := 0, locals := 20 } : Room).slots s₁ (mkF m 0 #[.val (.ref a1), .val (.int x1), .val (.long y1), .second, .unset, .unset] []) from by
    obtain ⟨s₂, o, q1, q2⟩ := hD
    exact ⟨s₂, o, castTop (ef_rm4 m a1 x1 y1) q1, q2⟩
  refine Dn.st (fun t q => XS.aloadN X0.here hx rfl (hb hby d4_0) rfl rfl  q) ?_
  show Dn p e below s _ _ _ s₁ (mkF m 1 #[.val (.ref a1), .val (.int x1), .val (.long y1), .second, .unset, .unset] [(.ref a1)])
  refine Dn.st (fun t q => XS.astore X0.here hx rfl (hb hby d4_1) rfl rfl (l' := #[.val (.ref a1), .val (.int x1), .val (.long y1), .second, .val (.ref a1), .unset]) rfl q) ?_
  show Dn p e below s _ _ _ s₁ (mkF m 3 #[.val (.ref a1), .val (.int x1), .val (.long y1), .second, .val (.ref a1), .unset] [])
  refine Dn.st (fun t q => XS.aloadN X0.here hx rfl (hb hby d4_3) rfl rfl  q) ?_
  show Dn p e below s _ _ _ s₁ (mkF m 4 #[.val (.ref a1), .val (.int x1), .val (.long y1), .second, .val (.ref a1), .unset] [(.ref a1)])
  refine Dn.st (fun t q => XS.lloadN X0.here hx rfl (hb hby d4_4) rfl  q) ?_
  show Dn p e below s _ _ _ s₁ (mkF m 5 #[.val (.ref a1), .val (.int x1), .val (.long y1), .second, .val (.ref a1), .unset] [(.long y1), (.ref a1)])
  obtain ⟨cq1, q1, q1'⟩ := E_a1.cell
  obtain ⟨_, _, ⟨T1, Lq1, kq_1, nq_1⟩, -, X1, ⟨Lc1, hQ1, lq1, yq1, zq1⟩, st1⟩ := X0.privateBack hx (y := (⟨"com/example/hindcut/hindcut/PackedNumbers", "holds", "(J)Z"⟩ : MethodName)) hown (mvT hZ (hw _ (List.mem_of_getElem? (i := 31) rfl))) (mvT hZ (hw _ (List.mem_of_getElem? (i := 32) rfl))) (own_self (mvT hZ (hw _ (List.mem_of_getElem? (i := 8) rfl))) (mvP hZ (hw _ (List.mem_of_getElem? (i := 33) rfl))) (mvT hZ (hw _ (List.mem_of_getElem? (i := 32) rfl))) (by decide)) (Cond.privateMethod_at (mvP hZ (hw _ (List.mem_of_getElem? (i := 33) rfl)) (args := #[]))) (mvT hZ (hw _ (List.mem_of_getElem? (i := 34) rfl))) (by decide) (backOf (W := 0) (rm5 l Z a0 hw [] a1 y1 ym h0 n0 Z0 F_mask hv) hZ (hw _ (List.mem_of_getElem? (i := 34) rfl)) (hw _ (List.mem_of_getElem? (i := 9) rfl)) (by decide) (by decide)) (g := (mkF m 5 #[.val (.ref a1), .val (.int x1), .val (.long y1), .second, .val (.ref a1), .unset] [(.long y1), (.ref a1)])) rfl (by rw [hml]; rfl) (Steps.refl _) (a := a1) (by rw [e0]; exact q1) q1' (argsL := [(.long y1)]) (rest := []) (lenOf pd_0 rfl) rfl (by show 2 * 0 + _ ≤ _; exact Nat.le_of_eq rfl) (hb hby d4_5) (fun _ _ => ⟨rfl, e0, (by decide : 0 + 0 ≤ _), (by decide : 0 + 0 ≤ _)⟩)
  dsimp only [Pt.U, Pt.locs, Pt.cells, Pt.slots] at X1 lq1 yq1 zq1 st1 hQ1
  subst lq1 yq1 zq1
  obtain ⟨rfl, N1q, hq1⟩ := hQ1
  have N0 := Fr.app N0 N1q
  have e1 : T1.heap = h0 := hq1
  refine Dn.tr st1 ?_
  show Dn p e below s _ _ _ T1 (mkF m 8 #[.val (.ref a1), .val (.int x1), .val (.long y1), .second, .val (.ref a1), .unset] [(.int (1 : Int32))])
  refine Dn.st (fun t q => XS.ifYes X1.here hx rfl (pc0 := 8) (pc' := 59) rfl (hb hby d4_8) rfl ((if0 _ _).trans (feq (by decide)).2) (by decide) (by decide) q) ?_
  show Dn p e below s _ _ _ T1 (mkF m 59 #[.val (.ref a1), .val (.int x1), .val (.long y1), .second, .val (.ref a1), .unset] [])
  refine Dn.st (fun t q => XS.aload X1.here hx rfl (hb hby d4_59) rfl rfl  q) ?_
  show Dn p e below s _ _ _ T1 (mkF m 61 #[.val (.ref a1), .val (.int x1), .val (.long y1), .second, .val (.ref a1), .unset] [(.ref a1)])
  refine Dn.st (fun t q => XS.iloadN X1.here hx rfl (hb hby d4_61) rfl  q) ?_
  show Dn p e below s _ _ _ T1 (mkF m 62 #[.val (.ref a1), .val (.int x1), .val (.long y1), .second, .val (.ref a1), .unset] [(.int x1), (.ref a1)])
  refine Dn.st (fun t q => XS.lloadN X1.here hx rfl (hb hby d4_62) rfl  q) ?_
  show Dn p e below s _ _ _ T1 (mkF m 63 #[.val (.ref a1), .val (.int x1), .val (.long y1), .second, .val (.ref a1), .unset] [(.long y1), (.int x1), (.ref a1)])
  obtain ⟨cq2, q2, q2'⟩ := E_a1.cell
  obtain ⟨_, _, ⟨T2, Lq2, kq_2, nq_2⟩, -, X2, ⟨Lc2, hQ2, lq2, yq2, zq2⟩, st2⟩ := X1.privateBack hx (y := (⟨"com/example/hindcut/hindcut/PackedNumbers", "set", "(IJ)V"⟩ : MethodName)) hown (mvT hZ (hw _ (List.mem_of_getElem? (i := 35) rfl))) (mvT hZ (hw _ (List.mem_of_getElem? (i := 36) rfl))) (own_self (mvT hZ (hw _ (List.mem_of_getElem? (i := 8) rfl))) (mvP hZ (hw _ (List.mem_of_getElem? (i := 37) rfl))) (mvT hZ (hw _ (List.mem_of_getElem? (i := 36) rfl))) (by decide)) (Cond.privateMethod_at (mvP hZ (hw _ (List.mem_of_getElem? (i := 37) rfl)) (args := #[]))) (mvT hZ (hw _ (List.mem_of_getElem? (i := 38) rfl))) (by decide) (backOf (W := 0) (rm6 l Z a0 hw [] a1 x1 y1 xb ym ar nn f ii bb h0 n0 Z0 F_bits F_mask F_words A hx1 hxb hb2 hii hin ne_a1_ar g_ar) hZ (hw _ (List.mem_of_getElem? (i := 38) rfl)) (hw _ (List.mem_of_getElem? (i := 9) rfl)) (by decide) (by decide)) (g := (mkF m 63 #[.val (.ref a1), .val (.int x1), .val (.long y1), .second, .val (.ref a1), .unset] [(.long y1), (.int x1), (.ref a1)])) rfl (by rw [hml]; rfl) (Steps.refl _) (a := a1) (by rw [e1]; exact q2) q2' (argsL := [(.int x1), (.long y1)]) (rest := []) (lenOf pd_1 rfl) rfl (by show 2 * 0 + _ ≤ _; exact Nat.le_of_eq rfl) (hb hby d4_63) (fun _ _ => ⟨rfl, e1, (by decide : 0 + 0 ≤ _), (by decide : 0 + 0 ≤ _)⟩)
  dsimp only [Pt.U, Pt.locs, Pt.cells, Pt.slots] at X2 lq2 yq2 zq2 st2 hQ2
  subst lq2 yq2 zq2
  obtain ⟨rfl, N2q, K2, A⟩ := hQ2
  have N0 := Fr.app N0 N2q
  have Z0 := Nat.le_trans Z0 K2.1
  have K0 := K0.trans K2 (allS (Or.inl (List.mem_of_getElem? (i := 0) rfl)) all0)
  have E_a1 := E_a1.keep K2
  have F_bits := F_bits.keep K2 (ninS ne_a1_ar nin0)
  have F_mask := F_mask.keep K2 (ninS ne_a1_ar nin0)
  have F_words := F_words.keep K2 (ninS ne_a1_ar nin0)
  refine Dn.tr st2 ?_
  show Dn p e below s _ _ _ T2 (mkF m 66 #[.val (.ref a1), .val (.int x1), .val (.long y1), .second, .val (.ref a1), .unset] [])
  refine Dn.st (fun t q => XS.aload X2.here hx rfl (hb hby d4_66) rfl rfl  q) ?_
  show Dn p e below s _ _ _ T2 (mkF m 68 #[.val (.ref a1), .val (.int x1), .val (.long y1), .second, .val (.ref a1), .unset] [(.ref a1)])
  exact Dn.retA X2 hx Bd.notSynchronized Bd.returns rfl rfl (hb hby d4_68) (by exact ⟨rfl, N0, K0, A⟩) (by decide) (by decide)
theorem d1_0 : decode jdk_29_method_69_code 0 = .ok (.iload_n 0, 1) := by decide +kernel
theorem d1_1 : decode jdk_29_method_69_code 1 = .ok (.iload_n 1, 1) := by decide +kernel
theorem d1_2 : decode jdk_29_method_69_code 2 = .ok (.if_icmp .gt 7, 3) := by decide +kernel
theorem d1_9 : decode jdk_29_method_69_code 9 = .ok (.iload_n 1, 1) := by decide +kernel
theorem d1_5 : decode jdk_29_method_69_code 5 = .ok (.iload_n 0, 1) := by decide +kernel
theorem d1_6 : decode jdk_29_method_69_code 6 = .ok (.goto 4, 3) := by decide +kernel
def own_min (x1 : Int32) (x2 : Int32) : Int32 := (if x2 < x1 then x2 else x1)
theorem d1_10 : decode jdk_29_method_69_code 10 = .ok (.ireturn, 1) := by decide +kernel
theorem ef_rm1 (m : MethodId) (x0 : Int32) (x1 : Int32) : entryFrame m #[(.int x0), (.int x1)] 2 = mkF m 0 #[.val (.int x0), .val (.int x1)] [] := by first | (simp [entryFrame, mkF, argsToLocals, Value.category]; done) | rfl
def Q1 (Z : State) (x1 : Int32) (x2 : Int32) (h0 : Heap) (n0 : Nat) (v : Option Value) (h : Heap) (L : List Loc) : Prop := v = some (.int (own_min x1 x2)) ∧ Fr n0 L ∧ h = h0
set_option maxRecDepth 65536 in
set_option maxHeartbeats 40000000 in
theorem rm1 (l : Launch) (Z : State) (a0 : Array Value) (hw : ∀ d ∈ tables_1, d.before a0 Z = true) (ws : List Jvm.Cond) (x1 : Int32) (x2 : Int32) (h0 : Heap) (n0 : Nat) (Z0 : n0 ≤ h0.size) :
    MetFree l (⟨"java/lang/Math", "min", "(II)I"⟩ : MethodName) (head1 (Jvm.Cond.code (⟨"java/lang/Math", "min", "(II)I"⟩ : MethodName) jdk_29_method_69_code 2 (some .int) :: ws) ({ frames := 0, cells := 0, slots := 0, locals := 0 } : Room)) (fun a U => a = #[(.int x1), (.int x2)] ∧ Z.Warmed39 U.vm ∧ U.heap = h0) (fun _ _ _ _ _ => True) (fun _ U o U' => ∃ v L, o = .returned v ∧ Q1 Z x1 x2 h0 n0 v U'.heap L ∧ FrameEnd U o U' L ({ frames := 0, cells := 0, slots := 0, locals := 0 } : Room).cells ({ frames := 0, cells := 0, slots := 0, locals := 0 } : Room).slots) := by
  refine MetFree.of_bodySF (Jvm.Free.JP.mathPlain rfl (by decide +kernel)) hisR ?_
  intro p e s m args below meth c s₁ Bd hml0 hP hK
  obtain ⟨rfl, hZ, hh⟩ := hP
  have hx := Bd.exec
  have hby := Bd.bytes
  have hml : c.maxLocals = 2 := hml0
  have hown : s.vm.findClass "java/lang/Math" = some m.cls := findClass_of_methodNamed Bd.named
  have hnm := (name_of_methodNamed Bd.named Bd.method).1
  have X0 : Stand p l e ({ frames := 0, cells := 0, slots := 0, locals := 0 } : Room) s m #[(.int x1), (.int x2)] below meth c s₁ [] 0 0 := Stand.of_body Bd
  have e0 : s₁.heap = h0 := by rw [← hh, Bd.state]; rfl
  have N0 := Fr.nil n0
  have K0 := Keep.refl h0 []
  suffices hD : Dn p e below s (Q1 Z x1 x2 h0 n0) ({ frames := 0, cells := 0, slots := 0, locals := 0 } : Room).cells ({ frames := 0, cells := 0, slots := 0, locals := 0 } : Room).slots s₁ (mkF m 0 #[.val (.int x1), .val (.int x2)] []) from by
    obtain ⟨s₂, o, q1, q2⟩ := hD
    exact ⟨s₂, o, castTop (ef_rm1 m x1 x2) q1, q2⟩
  refine Dn.st (fun t q => XS.iloadN X0.here hx rfl (hb hby d1_0) rfl  q) ?_
  show Dn p e below s _ _ _ s₁ (mkF m 1 #[.val (.int x1), .val (.int x2)] [(.int x1)])
  refine Dn.st (fun t q => XS.iloadN X0.here hx rfl (hb hby d1_1) rfl  q) ?_
  show Dn p e below s _ _ _ s₁ (mkF m 2 #[.val (.int x1), .val (.int x2)] [(.int x2), (.int x1)])
  by_cases c1 : x2 < x1
  · refine Dn.st (fun t q => XS.icmpYes X0.here hx rfl (pc0 := 2) (pc' := 9) rfl (hb hby d1_2) rfl (tlt c1).2.2.1 (by decide) (by decide) q) ?_
    show Dn p e below s _ _ _ s₁ (mkF m 9 #[.val (.int x1), .val (.int x2)] [])
    refine Dn.st (fun t q => XS.iloadN X0.here hx rfl (hb hby d1_9) rfl  q) ?_
    show Dn p e below s _ _ _ s₁ (mkF m 10 #[.val (.int x1), .val (.int x2)] [(.int x2)])
    exact Dn.retI X0 hx Bd.notSynchronized Bd.returns (hb hby d1_10) (by rw [e0]; exact ⟨by show some (Value.int x2) = some (Value.int (own_min x1 x2)); rw [own_min, if_pos c1], N0, rfl⟩) (by decide) (by decide)
  · refine Dn.st (fun t q => XS.icmpNo X0.here hx rfl (hb hby d1_2) rfl (flt c1).2.2.1 q) ?_
    show Dn p e below s _ _ _ s₁ (mkF m 5 #[.val (.int x1), .val (.int x2)] [])
    refine Dn.st (fun t q => XS.iloadN X0.here hx rfl (hb hby d1_5) rfl  q) ?_
    show Dn p e below s _ _ _ s₁ (mkF m 6 #[.val (.int x1), .val (.int x2)] [(.int x1)])
    refine Dn.st (fun t q => XS.goto X0.here hx rfl (pc0 := 6) (pc' := 10) rfl (hb hby d1_6) (by decide) (by decide) q) ?_
    show Dn p e below s _ _ _ s₁ (mkF m 10 #[.val (.int x1), .val (.int x2)] [(.int x1)])
    exact Dn.retI X0 hx Bd.notSynchronized Bd.returns (hb hby d1_10) (by rw [e0]; exact ⟨by show some (Value.int x1) = some (Value.int (own_min x1 x2)); rw [own_min, if_neg c1], N0, rfl⟩) (by decide) (by decide)
theorem own_itej {p : Prop} [Decidable p] {a b : Int64} : Value.long (if p then a else b) = if p then Value.long a else Value.long b := by split <;> rfl
def own_v3 (a b c : Int64) (x : Nat) : Int64 := (if x = 2 then c else (if x = 1 then b else (if x = 0 then a else (0 : Int64))))
def own_v4 (z : Int64) (x : Nat) : Int64 := (if x = 3 then z else (if x = 2 then z else (if x = 1 then z else (if x = 0 then z else (0 : Int64)))))
def own_up (f : Nat → Int64) (i b : Nat) (m : Int64) : Int64 := ((((f (i * b / 64)).toUInt64 >>> ((Int32.ofNat (i * b % 64)) &&& 0x3f).toInt64.toUInt64).toInt64 ||| ((f (i * b / 64 + 1) <<< ((1 : Int32) &&& 0x3f).toInt64) <<< (((63 : Int32) - (Int32.ofNat (i * b % 64))) &&& 0x3f).toInt64)) &&& m)
def own_un (f : Nat → Int64) (ii bb : Nat) (ym : Int64) (u : Nat → Int64) (j x : Nat) : Int64 := if x < j then own_up f (ii + x) bb ym else u x
theorem own_un_step {f u : Nat → Int64} {ii bb j : Nat} {ym z : Int64} (hz : own_up f (ii + j) bb ym = z) : ∀ x, x < 4 → Value.long (own_un f ii bb ym u (j + 1) x) = if x = j then Value.long z else Value.long (own_un f ii bb ym u j x) := fun x _ => by
  unfold own_un
  by_cases q : x = j
  · subst q; rw [if_pos (Nat.lt_succ_self x), if_pos rfl, hz]
  · rw [if_neg q]
    by_cases r : x < j
    · rw [if_pos r, if_pos (by omega)]
    · rw [if_neg r, if_neg (by omega)]
theorem own_un_end {f u : Nat → Int64} {ii bb j q1 : Nat} {ym : Int64} (hr : j + 0 = q1) : ∀ x, x < 4 → Value.long (own_un f ii bb ym u q1 x) = Value.long (own_un f ii bb ym u j x) := fun x _ => by
  rw [show q1 = j by omega]
section OwnUn
variable {x1 x2 i : Int32} {ii q1 j r : Nat}
theorem own_unsub (hx1 : x1.toInt = (ii : Int)) (hx2 : x2.toInt = ((ii + q1 : Nat) : Int)) (hii : ii ≤ 900) (hq : q1 ≤ 3) : (x2 - x1).toInt = (q1 : Int) := by
  rw [Jvm.Kit.i32_sub (by omega) (by omega), hx1, hx2]; omega
theorem own_unout (hx1 : x1.toInt = (ii : Int)) (hx2 : x2.toInt = ((ii + q1 : Nat) : Int)) (hii : ii ≤ 900) (hq : q1 ≤ 3) (hj : i.toInt = (j : Int)) (hr : j + 0 = q1) : ¬ (i < (x2 - x1)) := by
  rw [Int32.lt_iff_toInt_lt, own_unsub hx1 hx2 hii hq]; omega
theorem own_unin (hx1 : x1.toInt = (ii : Int)) (hx2 : x2.toInt = ((ii + q1 : Nat) : Int)) (hii : ii ≤ 900) (hq : q1 ≤ 3) (hj : i.toInt = (j : Int)) (hr : j + (r + 1) = q1) : i < (x2 - x1) := by
  rw [Int32.lt_iff_toInt_lt, own_unsub hx1 hx2 hii hq]; omega
end OwnUn
theorem own_bit2 {p : Int64} {i b : Nat} (hp : p.toInt = ((i * b : Nat) : Int)) (hb : b ≤ 64) (hi : i ≤ 1000) : ((p.toInt32) &&& (63 : Int32)) = Int32.ofNat (i * b % 64) := by
  have h := own_mulle hi hb
  have e0 : p.toInt32.toInt = p.toInt := Jvm.Kit.i32_of_i64 (by omega) (by omega)
  have e : (p.toInt32 &&& (63 : Int32)).toInt = p.toInt32.toInt % 2 ^ 6 := Jvm.Kit.i32_mask p.toInt32 63 (k := 6) (by decide) (by decide)
  refine own_ofNat ?_
  rw [e, e0, hp]; omega
theorem own_posn {p : Int64} {xb : Int32} {i j b : Nat} (hp : p.toInt = (((i + j) * b : Nat) : Int)) (hxb : xb.toInt = (b : Int)) (hb : b ≤ 64) (hi : i + j ≤ 999) : (p + xb.toInt64).toInt = (((i + (j + 1)) * b : Nat) : Int) := by
  have h := own_mulle hi hb
  have e : xb.toInt64.toInt = (b : Int) := by rw [Jvm.Kit.i64_of_i32, hxb]
  have e2 : (i + (j + 1)) * b = (i + j) * b + b := by rw [show i + (j + 1) = (i + j) + 1 by omega, Nat.add_mul, Nat.one_mul]
  rw [Jvm.Kit.i64_add (by omega) (by omega), hp, e, e2]; omega
theorem own_slotb {x1 x3 : Int32} {i1 o1 k1 : Nat} (hx1 : x1.toInt = (i1 : Int)) (hx3 : x3.toInt = (k1 : Int)) (hon : o1 + k1 ≤ 3) (h : x1 < x3) : o1 + i1 < 3 := by rw [Int32.lt_iff_toInt_lt] at h; omega
theorem own_slotl {x1 x3 : Int32} {i1 k1 : Nat} (hx1 : x1.toInt = (i1 : Int)) (hx3 : x3.toInt = (k1 : Int)) (h : x1 < x3) : i1 < k1 := by rw [Int32.lt_iff_toInt_lt] at h; omega
theorem own_slotg {x1 x3 : Int32} {i1 k1 : Nat} (hx1 : x1.toInt = (i1 : Int)) (hx3 : x3.toInt = (k1 : Int)) (h : ¬ (x1 < x3)) : ¬ (i1 < k1) := by rw [Int32.lt_iff_toInt_lt] at h; omega
theorem own_and63 {x k : Int32} (h : (x &&& (63 : Int32)) = k) : ∃ n : Nat, k.toInt = (n : Int) ∧ n ≤ 63 := by
  have e : (x &&& 63).toInt = x.toInt % 2 ^ 6 := Jvm.Kit.i32_mask x 63 (k := 6) (by decide) (by decide)
  exact ⟨(x.toInt % 2 ^ 6).toNat, by rw [← h, e]; omega, by omega⟩
theorem own_off {x k : Int32} (h : (x &&& (3 : Int32)) % (3 : Int32) = k) : ∃ n : Nat, k.toInt = (n : Int) ∧ n < 3 := by
  have e : (x &&& 3).toInt = x.toInt % 2 ^ 2 := Jvm.Kit.i32_mask x 3 (k := 2) (by decide) (by decide)
  have r : ((x &&& (3 : Int32)) % (3 : Int32)).toInt = (x.toInt % 2 ^ 2) % 3 := by rw [Jvm.Kit.i32_rem_nonneg (by rw [e]; omega), e, show (3 : Int32).toInt = 3 from rfl]
  exact ⟨((x.toInt % 2 ^ 2) % 3).toNat, by rw [← h, r]; omega, by omega⟩
theorem own_cnt {x o n : Int32} {o1 : Nat} (ho : o.toInt = (o1 : Int)) (h3 : o1 < 3) (h : own_min (x &&& (3 : Int32)) ((3 : Int32) - o) = n) : ∃ q1 : Nat, n.toInt = (q1 : Int) ∧ o1 + q1 ≤ 3 := by
  have e : (x &&& 3).toInt = x.toInt % 2 ^ 2 := Jvm.Kit.i32_mask x 3 (k := 2) (by decide) (by decide)
  have e2 : ((3 : Int32) - o).toInt = 3 - (o1 : Int) := by rw [Jvm.Kit.i32_sub (by rw [show (3 : Int32).toInt = 3 from rfl]; omega) (by rw [show (3 : Int32).toInt = 3 from rfl]; omega), ho]; rfl
  unfold own_min at h
  split at h
  · rename_i q; rw [Int32.lt_iff_toInt_lt, e, e2] at q
    exact ⟨3 - o1, by rw [← h, e2]; omega, by omega⟩
  · rename_i q; rw [Int32.lt_iff_toInt_lt, e, e2] at q
    exact ⟨(x.toInt % 2 ^ 2).toNat, by rw [← h, e]; omega, by omega⟩
theorem own_room1 {i k b : Nat} (hb1 : 1 ≤ b) (hi : i ≤ k + 2) : i * b / 64 + 1 < own_len (k + 3) b := by
  have h : i * b ≤ (k + 2) * b := Nat.mul_le_mul_right b hi
  have e : (k + 3) * b = (k + 2) * b + b := by rw [show k + 3 = (k + 2) + 1 by omega, Nat.add_mul, Nat.one_mul]
  unfold own_len; rw [e]; omega
theorem own_vb {x : Int32} {b : Nat} (hx : x.toInt = (b : Int)) (hb1 : 1 ≤ b) (hb2 : b ≤ 64) : ∀ j, j < 64 → own_g (own_mask x) j = decide (j < b) := by
  rw [own_ofNat hx]; exact own_maskbits b (by omega) hb1
theorem own_vz {x : Int32} {b : Nat} (hx : x.toInt = (b : Int)) (hb1 : 1 ≤ b) (hb2 : b ≤ 64) (y : Int64) : ∀ j, b ≤ j → own_g (y &&& (own_mask x)) j = false := fun j hj => by
  rw [own_and]
  by_cases q : j < 64
  · rw [own_vb hx hb1 hb2 j q]; simp [Nat.not_lt.mpr hj]
  · rw [show own_g (own_mask x) j = false from BitVec.getLsbD_of_ge _ _ (by omega)]; simp
theorem own_amt63 : ∀ s, s < 64 → (((((63 : Int32) - Int32.ofNat s) &&& 0x3f).toInt64).toBitVec.smod 64).toNat = 63 - s := by decide +kernel
theorem own_upB {f : Nat → Int64} {i b : Nat} {m : Int64} (hb : b ≤ 64) (hm : ∀ j, j < 64 → own_g m j = decide (j < b)) {k : Nat} (hk : k < 64) : own_g (own_up f i b m) k = (decide (k < b) && own_B f (i * b + k)) := by
  unfold own_up own_B
  generalize i * b = p
  have hp : p % 64 < 64 := Nat.mod_lt _ (by decide)
  rw [own_and, own_or, hm k hk]
  unfold own_g
  rw [own_shr _ _ (own_amtR _ hp) hp, own_shl _ _ (own_amt63 _ hp), own_shl _ _ (k := 1) (by decide), BitVec.getLsbD_ushiftRight, BitVec.getLsbD_shiftLeft, BitVec.getLsbD_shiftLeft]
  by_cases r : k < 64 - p % 64
  · rw [show (p + k) / 64 = p / 64 by omega, show (p + k) % 64 = p % 64 + k by omega]
    by_cases r2 : k < 63 - p % 64
    · simp [r2, Bool.and_comm]
    · have : k - (63 - p % 64) < 1 := by omega
      simp [this, Bool.and_comm]
  · rw [BitVec.getLsbD_of_ge _ (p % 64 + k) (by omega), show (p + k) / 64 = p / 64 + 1 by omega, show (p + k) % 64 = k - (63 - p % 64) - 1 by omega]
    have a1 : ¬ (k < 63 - p % 64) := by omega
    have a2 : k - (63 - p % 64) < 64 := by omega
    have a3 : ¬ (k - (63 - p % 64) < 1) := by omega
    simp [a1, a2, a3, hk, Bool.and_comm]
theorem own_three {x : Int32} {b : Nat} (hx : x.toInt = (b : Int)) (hb1 : 1 ≤ b) (hb2 : b ≤ 64) (i : Nat) (y z w : Int64) (q : Nat) : own_B (own_set (own_set (own_set (fun _ => (0 : Int64)) i b (own_mask x) (y &&& (own_mask x))) (i + 1) b (own_mask x) (z &&& (own_mask x))) (i + 2) b (own_mask x) (w &&& (own_mask x))) q = if i * b + 2 * b ≤ q ∧ q < i * b + 2 * b + b then own_g (w &&& (own_mask x)) (q - (i * b + 2 * b)) else if i * b + b ≤ q ∧ q < i * b + b + b then own_g (z &&& (own_mask x)) (q - (i * b + b)) else if i * b ≤ q ∧ q < i * b + b then own_g (y &&& (own_mask x)) (q - i * b) else false := by
  rw [own_setB hb2 (own_vb hx hb1 hb2) (own_vz hx hb1 hb2 w), own_setB hb2 (own_vb hx hb1 hb2) (own_vz hx hb1 hb2 z), own_setB hb2 (own_vb hx hb1 hb2) (own_vz hx hb1 hb2 y), Nat.add_mul, Nat.add_mul, Nat.one_mul]
  rw [show own_B (fun _ => (0 : Int64)) q = false from own_g0s _]
theorem own_upv {x : Int32} {b : Nat} (hx : x.toInt = (b : Int)) (hb1 : 1 ≤ b) (hb2 : b ≤ 64) (i : Nat) (y z w : Int64) (t : Nat) (ht : t < 3) : own_up (own_set (own_set (own_set (fun _ => (0 : Int64)) i b (own_mask x) (y &&& (own_mask x))) (i + 1) b (own_mask x) (z &&& (own_mask x))) (i + 2) b (own_mask x) (w &&& (own_mask x))) (i + t) b (own_mask x) = own_v3 (y &&& (own_mask x)) (z &&& (own_mask x)) (w &&& (own_mask x)) t := by
  refine own_ext fun k hk => ?_
  rw [own_upB hb2 (own_vb hx hb1 hb2) hk, own_three hx hb1 hb2, Nat.add_mul]
  match t, ht with
  | 0, _ =>
    show _ = own_g (y &&& (own_mask x)) k
    by_cases q : k < b
    · rw [if_neg (by omega), if_neg (by omega), if_pos (by omega)]; simp [q]
    · rw [own_vz hx hb1 hb2 y k (by omega)]; simp [q]
  | 1, _ =>
    show _ = own_g (z &&& (own_mask x)) k
    by_cases q : k < b
    · rw [if_neg (by omega), if_pos (by omega), Nat.one_mul, Nat.add_sub_cancel_left]; simp [q]
    · rw [own_vz hx hb1 hb2 z k (by omega)]; simp [q]
  | 2, _ =>
    show _ = own_g (w &&& (own_mask x)) k
    by_cases q : k < b
    · rw [if_pos (by omega), Nat.add_sub_cancel_left]; simp [q]
    · rw [own_vz hx hb1 hb2 w k (by omega)]; simp [q]
theorem own_s1 {x : Int32} {b : Nat} (hx : x.toInt = (b : Int)) (hb1 : 1 ≤ b) (hb2 : b ≤ 64) (i o q : Nat) (hoq : o + q ≤ 3) {y z w s : Int64} {j : Nat} (h : j < q) : own_un (own_set (own_set (own_set (fun _ => (0 : Int64)) i b (own_mask x) (y &&& (own_mask x))) (i + 1) b (own_mask x) (z &&& (own_mask x))) (i + 2) b (own_mask x) (w &&& (own_mask x))) (i + o) b (own_mask x) (own_v4 s) q j = own_v3 (y &&& (own_mask x)) (z &&& (own_mask x)) (w &&& (own_mask x)) (o + j) := by
  unfold own_un
  rw [if_pos h, Nat.add_assoc]
  exact own_upv hx hb1 hb2 i y z w (o + j) (by omega)
theorem own_s2 {f : Nat → Int64} {ii bb q : Nat} {m s : Int64} (j : Nat) (hj : j < 4) (h : ¬ (j < q)) : own_un f ii bb m (own_v4 s) q j = s := by
  unfold own_un
  rw [if_neg h]
  match j, hj with
  | 0, _ => rfl
  | 1, _ => rfl
  | 2, _ => rfl
  | 3, _ => rfl
theorem d7_0 : decode prog_25_method_5_code 0 = .ok (.aload_n 0, 1) := by decide +kernel
theorem d7_1 : decode prog_25_method_5_code 1 = .ok (.getfield 35, 3) := by decide +kernel
theorem d7_4 : decode prog_25_method_5_code 4 = .ok (.astore 4, 2) := by decide +kernel
theorem d7_6 : decode prog_25_method_5_code 6 = .ok (.aload_n 0, 1) := by decide +kernel
theorem d7_7 : decode prog_25_method_5_code 7 = .ok (.getfield 24, 3) := by decide +kernel
theorem d7_10 : decode prog_25_method_5_code 10 = .ok (.istore 5, 2) := by decide +kernel
theorem d7_12 : decode prog_25_method_5_code 12 = .ok (.aload_n 0, 1) := by decide +kernel
theorem d7_13 : decode prog_25_method_5_code 13 = .ok (.getfield 29, 3) := by decide +kernel
theorem d7_16 : decode prog_25_method_5_code 16 = .ok (.lstore 6, 2) := by decide +kernel
theorem d7_18 : decode prog_25_method_5_code 18 = .ok (.iload_n 2, 1) := by decide +kernel
theorem d7_19 : decode prog_25_method_5_code 19 = .ok (.iload_n 1, 1) := by decide +kernel
theorem d7_20 : decode prog_25_method_5_code 20 = .ok (.isub, 1) := by decide +kernel
theorem d7_21 : decode prog_25_method_5_code 21 = .ok (.istore 8, 2) := by decide +kernel
theorem d7_23 : decode prog_25_method_5_code 23 = .ok (.iload_n 1, 1) := by decide +kernel
theorem d7_24 : decode prog_25_method_5_code 24 = .ok (.i2l, 1) := by decide +kernel
theorem d7_25 : decode prog_25_method_5_code 25 = .ok (.iload 5, 2) := by decide +kernel
theorem d7_27 : decode prog_25_method_5_code 27 = .ok (.i2l, 1) := by decide +kernel
theorem d7_28 : decode prog_25_method_5_code 28 = .ok (.lmul, 1) := by decide +kernel
theorem d7_29 : decode prog_25_method_5_code 29 = .ok (.lstore 9, 2) := by decide +kernel
theorem d7_31 : decode prog_25_method_5_code 31 = .ok (.iconst 0, 1) := by decide +kernel
theorem d7_32 : decode prog_25_method_5_code 32 = .ok (.istore 11, 2) := by decide +kernel
theorem d7_34 : decode prog_25_method_5_code 34 = .ok (.iload 11, 2) := by decide +kernel
theorem d7_36 : decode prog_25_method_5_code 36 = .ok (.iload 8, 2) := by decide +kernel
theorem d7_38 : decode prog_25_method_5_code 38 = .ok (.if_icmp .ge 64, 3) := by decide +kernel
theorem d7_102 : decode prog_25_method_5_code 102 = .ok (.return_, 1) := by decide +kernel
theorem d7_41 : decode prog_25_method_5_code 41 = .ok (.lload 9, 2) := by decide +kernel
theorem d7_43 : decode prog_25_method_5_code 43 = .ok (.bipush 6, 2) := by decide +kernel
theorem d7_45 : decode prog_25_method_5_code 45 = .ok (.lushr, 1) := by decide +kernel
theorem d7_46 : decode prog_25_method_5_code 46 = .ok (.l2i, 1) := by decide +kernel
theorem d7_47 : decode prog_25_method_5_code 47 = .ok (.istore 12, 2) := by decide +kernel
theorem d7_49 : decode prog_25_method_5_code 49 = .ok (.lload 9, 2) := by decide +kernel
theorem d7_51 : decode prog_25_method_5_code 51 = .ok (.l2i, 1) := by decide +kernel
theorem d7_52 : decode prog_25_method_5_code 52 = .ok (.bipush 63, 2) := by decide +kernel
theorem d7_54 : decode prog_25_method_5_code 54 = .ok (.iand, 1) := by decide +kernel
theorem d7_55 : decode prog_25_method_5_code 55 = .ok (.istore 13, 2) := by decide +kernel
theorem d7_57 : decode prog_25_method_5_code 57 = .ok (.aload_n 3, 1) := by decide +kernel
theorem d7_58 : decode prog_25_method_5_code 58 = .ok (.iload 11, 2) := by decide +kernel
theorem d7_60 : decode prog_25_method_5_code 60 = .ok (.aload 4, 2) := by decide +kernel
theorem d7_62 : decode prog_25_method_5_code 62 = .ok (.iload 12, 2) := by decide +kernel
theorem d7_64 : decode prog_25_method_5_code 64 = .ok (.laload, 1) := by decide +kernel
theorem d7_65 : decode prog_25_method_5_code 65 = .ok (.iload 13, 2) := by decide +kernel
theorem d7_67 : decode prog_25_method_5_code 67 = .ok (.lushr, 1) := by decide +kernel
theorem d7_68 : decode prog_25_method_5_code 68 = .ok (.aload 4, 2) := by decide +kernel
theorem d7_70 : decode prog_25_method_5_code 70 = .ok (.iload 12, 2) := by decide +kernel
theorem d7_72 : decode prog_25_method_5_code 72 = .ok (.iconst 1, 1) := by decide +kernel
theorem d7_73 : decode prog_25_method_5_code 73 = .ok (.iadd, 1) := by decide +kernel
theorem d7_74 : decode prog_25_method_5_code 74 = .ok (.laload, 1) := by decide +kernel
theorem d7_75 : decode prog_25_method_5_code 75 = .ok (.iconst 1, 1) := by decide +kernel
theorem d7_76 : decode prog_25_method_5_code 76 = .ok (.lshl, 1) := by decide +kernel
theorem d7_77 : decode prog_25_method_5_code 77 = .ok (.bipush 63, 2) := by decide +kernel
theorem d7_79 : decode prog_25_method_5_code 79 = .ok (.iload 13, 2) := by decide +kernel
theorem d7_81 : decode prog_25_method_5_code 81 = .ok (.isub, 1) := by decide +kernel
theorem d7_82 : decode prog_25_method_5_code 82 = .ok (.lshl, 1) := by decide +kernel
theorem d7_83 : decode prog_25_method_5_code 83 = .ok (.lor, 1) := by decide +kernel
theorem d7_84 : decode prog_25_method_5_code 84 = .ok (.lload 6, 2) := by decide +kernel
theorem d7_86 : decode prog_25_method_5_code 86 = .ok (.land, 1) := by decide +kernel
theorem d7_87 : decode prog_25_method_5_code 87 = .ok (.lastore, 1) := by decide +kernel
theorem d7_88 : decode prog_25_method_5_code 88 = .ok (.iinc 11 1, 3) := by decide +kernel
theorem d7_91 : decode prog_25_method_5_code 91 = .ok (.lload 9, 2) := by decide +kernel
theorem d7_93 : decode prog_25_method_5_code 93 = .ok (.iload 5, 2) := by decide +kernel
theorem d7_95 : decode prog_25_method_5_code 95 = .ok (.i2l, 1) := by decide +kernel
theorem d7_96 : decode prog_25_method_5_code 96 = .ok (.ladd, 1) := by decide +kernel
theorem d7_97 : decode prog_25_method_5_code 97 = .ok (.lstore 9, 2) := by decide +kernel
theorem d7_99 : decode prog_25_method_5_code 99 = .ok (.goto (-65), 3) := by decide +kernel
theorem ef_rm7 (m : MethodId) (x0 : Addr) (x1 : Int32) (x2 : Int32) (x3 : Addr) : entryFrame m #[(.ref x0), (.int x1), (.int x2), (.ref x3)] 14 = mkF m 0 #[.val (.ref x0), .val (.int x1), .val (.int x2), .val (.ref x3), .unset, .unset, .unset, .unset, .unset, .unset, .unset, .unset, .unset, .unset] [] := by first | (simp [entryFrame, mkF, argsToLocals, Value.category]; done) | rfl
def Q7 (Z : State) (a1 : Addr) (x1 : Int32) (x2 : Int32) (a3 : Addr) (xb : Int32) (ym : Int64) (ar : Addr) (nn : Nat) (f : Nat → Int64) (u : Nat → Int64) (ii : Nat) (q1 : Nat) (bb : Nat) (h0 : Heap) (n0 : Nat) (v : Option Value) (h : Heap) (L : List Loc) : Prop := v = none ∧ Fr n0 L ∧ Keep h0 h [a3] ∧ Ary Z h a3 .long 4 (fun x => .long (own_un f ii bb ym u q1 x))
set_option maxRecDepth 65536 in
set_option maxHeartbeats 40000000 in
theorem rm7 (l : Launch) (Z : State) (a0 : Array Value) (hw : ∀ d ∈ tables_1, d.before a0 Z = true) (ws : List Jvm.Cond) (a1 : Addr) (x1 : Int32) (x2 : Int32) (a3 : Addr) (xb : Int32) (ym : Int64) (ar : Addr) (nn : Nat) (f : Nat → Int64) (u : Nat → Int64) (ii : Nat) (q1 : Nat) (bb : Nat) (h0 : Heap) (n0 : Nat) (Z0 : n0 ≤ h0.size) (F_bits : Fld Z h0 a1 "com/example/hindcut/hindcut/PackedNumbers" "bits" "I" (.int xb)) (F_mask : Fld Z h0 a1 "com/example/hindcut/hindcut/PackedNumbers" "mask" "J" (.long ym)) (F_words : Fld Z h0 a1 "com/example/hindcut/hindcut/PackedNumbers" "words" "[J" (.ref ar)) (A : Ary Z h0 ar .long nn (fun x => .long (f x))) (B : Ary Z h0 a3 .long 4 (fun x => .long (u x))) (hx1 : x1.toInt = (ii : Int)) (hx2 : x2.toInt = ((ii + q1 : Nat) : Int)) (hxb : xb.toInt = (bb : Int)) (hb2 : bb ≤ 64) (hii : ii ≤ 900) (hq : q1 ≤ 3) (hinn : ∀ i, i < ii + q1 → i * bb / 64 + 1 < nn) (ne_a1_a3 : a1 ≠ a3) (ne_ar_a3 : ar ≠ a3) (g_a3 : n0 ≤ a3) :
    MetFree l (⟨"com/example/hindcut/hindcut/PackedNumbers", "unpack", "(II[J)V"⟩ : MethodName) (head1 (Jvm.Cond.code (⟨"com/example/hindcut/hindcut/PackedNumbers", "unpack", "(II[J)V"⟩ : MethodName) prog_25_method_5_code 14 none :: ws) ({ frames := 0, cells := 0, slots := 0, locals := 0 } : Room)) (fun a U => a = #[(.ref a1), (.int x1), (.int x2), (.ref a3)] ∧ Z.Warmed39 U.vm ∧ U.heap = h0) (fun _ _ _ _ _ => True) (fun _ U o U' => ∃ v L, o = .returned v ∧ Q7 Z a1 x1 x2 a3 xb ym ar nn f u ii q1 bb h0 n0 v U'.heap L ∧ FrameEnd U o U' L ({ frames := 0, cells := 0, slots := 0, locals := 0 } : Room).cells ({ frames := 0, cells := 0, slots := 0, locals := 0 } : Room).slots) := by
  refine MetFree.of_bodySF (plainFor_of_name pn_0) hisR ?_
  intro p e s m args below meth c s₁ Bd hml0 hP hK
  obtain ⟨rfl, hZ, hh⟩ := hP
  have hx := Bd.exec
  have hby := Bd.bytes
  have hml : c.maxLocals = 14 := hml0
  have hown : s.vm.findClass "com/example/hindcut/hindcut/PackedNumbers" = some m.cls := findClass_of_methodNamed Bd.named
  have hnm := (name_of_methodNamed Bd.named Bd.method).1
  have X0 : Stand p l e ({ frames := 0, cells := 0, slots := 0, locals := 0 } : Room) s m #[(.ref a1), (.int x1), (.int x2), (.ref a3)] below meth c s₁ [] 0 0 := Stand.of_body Bd
  have e0 : s₁.heap = h0 := by rw [← hh, Bd.state]; rfl
  have N0 := Fr.nil n0
  have K0 := Keep.refl h0 [a3]
  suffices hD : Dn p e below s (Q7 Z a1 x1 x2 a3 xb ym ar nn f u ii q1 bb h0 n0) ({ frames := 0, cells := 0, slots := 0, locals := 0 } : Room).cells ({ frames := 0, cells := 0, slots := 0, locals := 0 } : Room).slots s₁ (mkF m 0 #[.val (.ref a1), .val (.int x1), .val (.int x2), .val (.ref a3), .unset, .unset, .unset, .unset, .unset, .unset, .unset, .unset, .unset, .unset] []) from by
    obtain ⟨s₂, o, q1, q2⟩ := hD
    exact ⟨s₂, o, castTop (ef_rm7 m a1 x1 x2 a3) q1, q2⟩
  refine Dn.st (fun t q => XS.aloadN X0.here hx rfl (hb hby d7_0) rfl rfl  q) ?_
  show Dn p e below s _ _ _ s₁ (mkF m 1 #[.val (.ref a1), .val (.int x1), .val (.int x2), .val (.ref a3), .unset, .unset, .unset, .unset, .unset, .unset, .unset, .unset, .unset, .unset] [(.ref a1)])
  obtain ⟨T1, X1, e1, st1⟩ := getF X0 hx hZ hown (host := "") (Or.inl (hw _ (List.mem_of_getElem? (i := 24) rfl))) Via.refl e0 F_words (g := (mkF m 1 #[.val (.ref a1), .val (.int x1), .val (.int x2), .val (.ref a3), .unset, .unset, .unset, .unset, .unset, .unset, .unset, .unset, .unset, .unset] [(.ref a1)])) rfl rfl (hb hby d7_1)
  refine Dn.st st1 ?_
  show Dn p e below s _ _ _ T1 (mkF m 4 #[.val (.ref a1), .val (.int x1), .val (.int x2), .val (.ref a3), .unset, .unset, .unset, .unset, .unset, .unset, .unset, .unset, .unset, .unset] [(.ref ar)])
  refine Dn.st (fun t q => XS.astore X1.here hx rfl (hb hby d7_4) rfl rfl (l' := #[.val (.ref a1), .val (.int x1), .val (.int x2), .val (.ref a3), .val (.ref ar), .unset, .unset, .unset, .unset, .unset, .unset, .unset, .unset, .unset]) rfl q) ?_
  show Dn p e below s _ _ _ T1 (mkF m 6 #[.val (.ref a1), .val (.int x1), .val (.int x2), .val (.ref a3), .val (.ref ar), .unset, .unset, .unset, .unset, .unset, .unset, .unset, .unset, .unset] [])
  refine Dn.st (fun t q => XS.aloadN X1.here hx rfl (hb hby d7_6) rfl rfl  q) ?_
  show Dn p e below s _ _ _ T1 (mkF m 7 #[.val (.ref a1), .val (.int x1), .val (.int x2), .val (.ref a3), .val (.ref ar), .unset, .unset, .unset, .unset, .unset, .unset, .unset, .unset, .unset] [(.ref a1)])
  obtain ⟨T2, X2, e2, st2⟩ := getF X1 hx hZ hown (host := "") (Or.inl (hw _ (List.mem_of_getElem? (i := 18) rfl))) Via.refl e1 F_bits (g := (mkF m 7 #[.val (.ref a1), .val (.int x1), .val (.int x2), .val (.ref a3), .val (.ref ar), .unset, .unset, .unset, .unset, .unset, .unset, .unset, .unset, .unset] [(.ref a1)])) rfl rfl (hb hby d7_7)
  refine Dn.st st2 ?_
  show Dn p e below s _ _ _ T2 (mkF m 10 #[.val (.ref a1), .val (.int x1), .val (.int x2), .val (.ref a3), .val (.ref ar), .unset, .unset, .unset, .unset, .unset, .unset, .unset, .unset, .unset] [(.int xb)])
  refine Dn.st (fun t q => XS.istore X2.here hx rfl (hb hby d7_10) rfl (l' := #[.val (.ref a1), .val (.int x1), .val (.int x2), .val (.ref a3), .val (.ref ar), .val (.int xb), .unset, .unset, .unset, .unset, .unset, .unset, .unset, .unset]) rfl q) ?_
  show Dn p e below s _ _ _ T2 (mkF m 12 #[.val (.ref a1), .val (.int x1), .val (.int x2), .val (.ref a3), .val (.ref ar), .val (.int xb), .unset, .unset, .unset, .unset, .unset, .unset, .unset, .unset] [])
  refine Dn.st (fun t q => XS.aloadN X2.here hx rfl (hb hby d7_12) rfl rfl  q) ?_
  show Dn p e below s _ _ _ T2 (mkF m 13 #[.val (.ref a1), .val (.int x1), .val (.int x2), .val (.ref a3), .val (.ref ar), .val (.int xb), .unset, .unset, .unset, .unset, .unset, .unset, .unset, .unset] [(.ref a1)])
  obtain ⟨T3, X3, e3, st3⟩ := getF X2 hx hZ hown (host := "") (Or.inl (hw _ (List.mem_of_getElem? (i := 21) rfl))) Via.refl e2 F_mask (g := (mkF m 13 #[.val (.ref a1), .val (.int x1), .val (.int x2), .val (.ref a3), .val (.ref ar), .val (.int xb), .unset, .unset, .unset, .unset, .unset, .unset, .unset, .unset] [(.ref a1)])) rfl rfl (hb hby d7_13)
  refine Dn.st st3 ?_
  show Dn p e below s _ _ _ T3 (mkF m 16 #[.val (.ref a1), .val (.int x1), .val (.int x2), .val (.ref a3), .val (.ref ar), .val (.int xb), .unset, .unset, .unset, .unset, .unset, .unset, .unset, .unset] [(.long ym)])
  refine Dn.st (fun t q => XS.lstore X3.here hx rfl (hb hby d7_16) rfl (l' := #[.val (.ref a1), .val (.int x1), .val (.int x2), .val (.ref a3), .val (.ref ar), .val (.int xb), .val (.long ym), .second, .unset, .unset, .unset, .unset, .unset, .unset]) rfl q) ?_
  show Dn p e below s _ _ _ T3 (mkF m 18 #[.val (.ref a1), .val (.int x1), .val (.int x2), .val (.ref a3), .val (.ref ar), .val (.int xb), .val (.long ym), .second, .unset, .unset, .unset, .unset, .unset, .unset] [])
  refine Dn.st (fun t q => XS.iloadN X3.here hx rfl (hb hby d7_18) rfl  q) ?_
  show Dn p e below s _ _ _ T3 (mkF m 19 #[.val (.ref a1), .val (.int x1), .val (.int x2), .val (.ref a3), .val (.ref ar), .val (.int xb), .val (.long ym), .second, .unset, .unset, .unset, .unset, .unset, .unset] [(.int x2)])
  refine Dn.st (fun t q => XS.iloadN X3.here hx rfl (hb hby d7_19) rfl  q) ?_
  show Dn p e below s _ _ _ T3 (mkF m 20 #[.val (.ref a1), .val (.int x1), .val (.int x2), .val (.ref a3), .val (.ref ar), .val (.int xb), .val (.long ym), .second, .unset, .unset, .unset, .unset, .unset, .unset] [(.int x1), (.int x2)])
  refine Dn.st (fun t q => XS.isub X3.here hx rfl (hb hby d7_20) rfl q) ?_
  show Dn p e below s _ _ _ T3 (mkF m 21 #[.val (.ref a1), .val (.int x1), .val (.int x2), .val (.ref a3), .val (.ref ar), .val (.int xb), .val (.long ym), .second, .unset, .unset, .unset, .unset, .unset, .unset] [(.int (x2 - x1))])
  refine Dn.st (fun t q => XS.istore X3.here hx rfl (hb hby d7_21) rfl (l' := #[.val (.ref a1), .val (.int x1), .val (.int x2), .val (.ref a3), .val (.ref ar), .val (.int xb), .val (.long ym), .second, .val (.int (x2 - x1)), .unset, .unset, .unset, .unset, .unset]) rfl q) ?_
  show Dn p e below s _ _ _ T3 (mkF m 23 #[.val (.ref a1), .val (.int x1), .val (.int x2), .val (.ref a3), .val (.ref ar), .val (.int xb), .val (.long ym), .second, .val (.int (x2 - x1)), .unset, .unset, .unset, .unset, .unset] [])
  refine Dn.st (fun t q => XS.iloadN X3.here hx rfl (hb hby d7_23) rfl  q) ?_
  show Dn p e below s _ _ _ T3 (mkF m 24 #[.val (.ref a1), .val (.int x1), .val (.int x2), .val (.ref a3), .val (.ref ar), .val (.int xb), .val (.long ym), .second, .val (.int (x2 - x1)), .unset, .unset, .unset, .unset, .unset] [(.int x1)])
  refine Dn.st (fun t q => XS.i2l X3.here hx rfl (hb hby d7_24) rfl q) ?_
  show Dn p e below s _ _ _ T3 (mkF m 25 #[.val (.ref a1), .val (.int x1), .val (.int x2), .val (.ref a3), .val (.ref ar), .val (.int xb), .val (.long ym), .second, .val (.int (x2 - x1)), .unset, .unset, .unset, .unset, .unset] [(.long (x1.toInt64))])
  refine Dn.st (fun t q => XS.iload X3.here hx rfl (hb hby d7_25) rfl  q) ?_
  show Dn p e below s _ _ _ T3 (mkF m 27 #[.val (.ref a1), .val (.int x1), .val (.int x2), .val (.ref a3), .val (.ref ar), .val (.int xb), .val (.long ym), .second, .val (.int (x2 - x1)), .unset, .unset, .unset, .unset, .unset] [(.int xb), (.long (x1.toInt64))])
  refine Dn.st (fun t q => XS.i2l X3.here hx rfl (hb hby d7_27) rfl q) ?_
  show Dn p e below s _ _ _ T3 (mkF m 28 #[.val (.ref a1), .val (.int x1), .val (.int x2), .val (.ref a3), .val (.ref ar), .val (.int xb), .val (.long ym), .second, .val (.int (x2 - x1)), .unset, .unset, .unset, .unset, .unset] [(.long (xb.toInt64)), (.long (x1.toInt64))])
  refine Dn.st (fun t q => XS.lmul X3.here hx rfl (hb hby d7_28) rfl q) ?_
  show Dn p e below s _ _ _ T3 (mkF m 29 #[.val (.ref a1), .val (.int x1), .val (.int x2), .val (.ref a3), .val (.ref ar), .val (.int xb), .val (.long ym), .second, .val (.int (x2 - x1)), .unset, .unset, .unset, .unset, .unset] [(.long ((x1.toInt64) * (xb.toInt64)))])
  generalize hpp : ((x1.toInt64) * (xb.toInt64)) = pp
  show Dn p e below s _ _ _ T3 (mkF m 29 #[.val (.ref a1), .val (.int x1), .val (.int x2), .val (.ref a3), .val (.ref ar), .val (.int xb), .val (.long ym), .second, .val (.int (x2 - x1)), .unset, .unset, .unset, .unset, .unset] [(.long pp)])
  have hp := own_pos hx1 hxb hb2 (Nat.le_trans hii (by decide)) hpp
  refine Dn.st (fun t q => XS.lstore X3.here hx rfl (hb hby d7_29) rfl (l' := #[.val (.ref a1), .val (.int x1), .val (.int x2), .val (.ref a3), .val (.ref ar), .val (.int xb), .val (.long ym), .second, .val (.int (x2 - x1)), .val (.long pp), .second, .unset, .unset, .unset]) rfl q) ?_
  show Dn p e below s _ _ _ T3 (mkF m 31 #[.val (.ref a1), .val (.int x1), .val (.int x2), .val (.ref a3), .val (.ref ar), .val (.int xb), .val (.long ym), .second, .val (.int (x2 - x1)), .val (.long pp), .second, .unset, .unset, .unset] [])
  refine Dn.st (fun t q => XS.iconst X3.here hx rfl (hb hby d7_31) q) ?_
  show Dn p e below s _ _ _ T3 (mkF m 32 #[.val (.ref a1), .val (.int x1), .val (.int x2), .val (.ref a3), .val (.ref ar), .val (.int xb), .val (.long ym), .second, .val (.int (x2 - x1)), .val (.long pp), .second, .unset, .unset, .unset] [(.int (0 : Int32))])
  refine Dn.st (fun t q => XS.istore X3.here hx rfl (hb hby d7_32) rfl (l' := #[.val (.ref a1), .val (.int x1), .val (.int x2), .val (.ref a3), .val (.ref ar), .val (.int xb), .val (.long ym), .second, .val (.int (x2 - x1)), .val (.long pp), .second, .val (.int (0 : Int32)), .unset, .unset]) rfl q) ?_
  show Dn p e below s _ _ _ T3 (mkF m 34 #[.val (.ref a1), .val (.int x1), .val (.int x2), .val (.ref a3), .val (.ref ar), .val (.int xb), .val (.long ym), .second, .val (.int (x2 - x1)), .val (.long pp), .second, .val (.int (0 : Int32)), .unset, .unset] [])
  have lp : ∀ (r : Nat) (j : Nat) (pj : Int64) (i11 : Int32) (s12 : Slot) (s13 : Slot) (TL : State) (lcL : List Loc) (XL : Stand p l e ({ frames := 0, cells := 0, slots := 0, locals := 0 } : Room) s m #[(.ref a1), (.int x1), (.int x2), (.ref a3)] below meth c TL lcL 0 0) (hL : Heap) (eL : TL.heap = hL) (N0 : Fr n0 lcL) (Z0 : n0 ≤ hL.size) (K0 : Keep h0 hL [a3]) (F_bits : Fld Z hL a1 "com/example/hindcut/hindcut/PackedNumbers" "bits" "I" (.int xb)) (F_mask : Fld Z hL a1 "com/example/hindcut/hindcut/PackedNumbers" "mask" "J" (.long ym)) (F_words : Fld Z hL a1 "com/example/hindcut/hindcut/PackedNumbers" "words" "[J" (.ref ar)) (A : Ary Z hL ar .long nn (fun x => .long (f x))) (B : Ary Z hL a3 .long 4 (fun x => .long (own_un f ii bb ym u j x))) (hs12 : One s12) (hs13 : One s13) (hj : i11.toInt = (j : Int)) (hr : j + r = q1) (hpj : pj.toInt = (((ii + j) * bb : Nat) : Int)), Dn p e below s (Q7 Z a1 x1 x2 a3 xb ym ar nn f u ii q1 bb h0 n0) (({ frames := 0, cells := 0, slots := 0, locals := 0 } : Room).cells) (({ frames := 0, cells := 0, slots := 0, locals := 0 } : Room).slots) TL (mkF m 34 #[.val (.ref a1), .val (.int x1), .val (.int x2), .val (.ref a3), .val (.ref ar), .val (.int xb), .val (.long ym), .second, .val (.int (x2 - x1)), .val (.long pj), .second, .val (.int i11), s12, s13] []) := by
    intro r
    induction r with
    | zero =>
      intro j pj i11 s12 s13 TL lcL XL hL eL N0 Z0 K0 F_bits F_mask F_words A B hs12 hs13 hj hr hpj
      refine Dn.st (fun t q => XS.iload XL.here hx rfl (hb hby d7_34) rfl  q) ?_
      show Dn p e below s _ _ _ TL (mkF m 36 #[.val (.ref a1), .val (.int x1), .val (.int x2), .val (.ref a3), .val (.ref ar), .val (.int xb), .val (.long ym), .second, .val (.int (x2 - x1)), .val (.long pj), .second, .val (.int i11), s12, s13] [(.int i11)])
      refine Dn.st (fun t q => XS.iload XL.here hx rfl (hb hby d7_36) rfl  q) ?_
      show Dn p e below s _ _ _ TL (mkF m 38 #[.val (.ref a1), .val (.int x1), .val (.int x2), .val (.ref a3), .val (.ref ar), .val (.int xb), .val (.long ym), .second, .val (.int (x2 - x1)), .val (.long pj), .second, .val (.int i11), s12, s13] [(.int (x2 - x1)), (.int i11)])
      refine Dn.st (fun t q => XS.icmpYes XL.here hx rfl (pc0 := 38) (pc' := 102) rfl (hb hby d7_38) rfl (flt (own_unout hx1 hx2 hii hq hj hr)).2.1 (by decide) (by decide) q) ?_
      show Dn p e below s _ _ _ TL (mkF m 102 #[.val (.ref a1), .val (.int x1), .val (.int x2), .val (.ref a3), .val (.ref ar), .val (.int xb), .val (.long ym), .second, .val (.int (x2 - x1)), .val (.long pj), .second, .val (.int i11), s12, s13] [])
      exact Dn.retV XL hx Bd.notSynchronized Bd.returns (hb hby d7_102) (by rw [eL]; exact ⟨rfl, N0, K0, B.congr (own_un_end hr)⟩) (by decide) (by decide)
    | succ r ih =>
      intro j pj i11 s12 s13 TL lcL XL hL eL N0 Z0 K0 F_bits F_mask F_words A B hs12 hs13 hj hr hpj
      refine Dn.st (fun t q => XS.iload XL.here hx rfl (hb hby d7_34) rfl  q) ?_
      show Dn p e below s _ _ _ TL (mkF m 36 #[.val (.ref a1), .val (.int x1), .val (.int x2), .val (.ref a3), .val (.ref ar), .val (.int xb), .val (.long ym), .second, .val (.int (x2 - x1)), .val (.long pj), .second, .val (.int i11), s12, s13] [(.int i11)])
      refine Dn.st (fun t q => XS.iload XL.here hx rfl (hb hby d7_36) rfl  q) ?_
      show Dn p e below s _ _ _ TL (mkF m 38 #[.val (.ref a1), .val (.int x1), .val (.int x2), .val (.ref a3), .val (.ref ar), .val (.int xb), .val (.long ym), .second, .val (.int (x2 - x1)), .val (.long pj), .second, .val (.int i11), s12, s13] [(.int (x2 - x1)), (.int i11)])
      refine Dn.st (fun t q => XS.icmpNo XL.here hx rfl (hb hby d7_38) rfl (tlt (own_unin hx1 hx2 hii hq hj hr)).2.1 q) ?_
      show Dn p e below s _ _ _ TL (mkF m 41 #[.val (.ref a1), .val (.int x1), .val (.int x2), .val (.ref a3), .val (.ref ar), .val (.int xb), .val (.long ym), .second, .val (.int (x2 - x1)), .val (.long pj), .second, .val (.int i11), s12, s13] [])
      have hin := hinn (ii + j) (by omega)
      refine Dn.st (fun t q => XS.lload XL.here hx rfl (hb hby d7_41) rfl  q) ?_
      show Dn p e below s _ _ _ TL (mkF m 43 #[.val (.ref a1), .val (.int x1), .val (.int x2), .val (.ref a3), .val (.ref ar), .val (.int xb), .val (.long ym), .second, .val (.int (x2 - x1)), .val (.long pj), .second, .val (.int i11), s12, s13] [(.long pj)])
      refine Dn.st (fun t q => XS.bipush XL.here hx rfl (hb hby d7_43) q) ?_
      show Dn p e below s _ _ _ TL (mkF m 45 #[.val (.ref a1), .val (.int x1), .val (.int x2), .val (.ref a3), .val (.ref ar), .val (.int xb), .val (.long ym), .second, .val (.int (x2 - x1)), .val (.long pj), .second, .val (.int i11), s12, s13] [(.int (6 : Int32)), (.long pj)])
      refine Dn.st (fun t q => XS.lushr XL.here hx rfl (hb hby d7_45) rfl q) ?_
      show Dn p e below s _ _ _ TL (mkF m 46 #[.val (.ref a1), .val (.int x1), .val (.int x2), .val (.ref a3), .val (.ref ar), .val (.int xb), .val (.long ym), .second, .val (.int (x2 - x1)), .val (.long pj), .second, .val (.int i11), s12, s13] [(.long ((pj.toUInt64 >>> ((6 : Int32) &&& 0x3f).toInt64.toUInt64).toInt64))])
      refine Dn.st (fun t q => XS.l2i XL.here hx rfl (hb hby d7_46) rfl q) ?_
      show Dn p e below s _ _ _ TL (mkF m 47 #[.val (.ref a1), .val (.int x1), .val (.int x2), .val (.ref a3), .val (.ref ar), .val (.int xb), .val (.long ym), .second, .val (.int (x2 - x1)), .val (.long pj), .second, .val (.int i11), s12, s13] [(.int (((pj.toUInt64 >>> ((6 : Int32) &&& 0x3f).toInt64.toUInt64).toInt64).toInt32))])
      generalize hww : (((pj.toUInt64 >>> ((6 : Int32) &&& 0x3f).toInt64.toUInt64).toInt64).toInt32) = ww
      show Dn p e below s _ _ _ TL (mkF m 47 #[.val (.ref a1), .val (.int x1), .val (.int x2), .val (.ref a3), .val (.ref ar), .val (.int xb), .val (.long ym), .second, .val (.int (x2 - x1)), .val (.long pj), .second, .val (.int i11), s12, s13] [(.int ww)])
      have hw1 := own_word hpj hb2 (by omega) hww
      refine Dn.st (fun t q => XS.istore XL.here hx rfl (hb hby d7_47) rfl (l' := #[.val (.ref a1), .val (.int x1), .val (.int x2), .val (.ref a3), .val (.ref ar), .val (.int xb), .val (.long ym), .second, .val (.int (x2 - x1)), .val (.long pj), .second, .val (.int i11), .val (.int ww), s13]) (XS.store1 (o := s12) rfl hs12 rfl) q) ?_
      show Dn p e below s _ _ _ TL (mkF m 49 #[.val (.ref a1), .val (.int x1), .val (.int x2), .val (.ref a3), .val (.ref ar), .val (.int xb), .val (.long ym), .second, .val (.int (x2 - x1)), .val (.long pj), .second, .val (.int i11), .val (.int ww), s13] [])
      refine Dn.st (fun t q => XS.lload XL.here hx rfl (hb hby d7_49) rfl  q) ?_
      show Dn p e below s _ _ _ TL (mkF m 51 #[.val (.ref a1), .val (.int x1), .val (.int x2), .val (.ref a3), .val (.ref ar), .val (.int xb), .val (.long ym), .second, .val (.int (x2 - x1)), .val (.long pj), .second, .val (.int i11), .val (.int ww), s13] [(.long pj)])
      refine Dn.st (fun t q => XS.l2i XL.here hx rfl (hb hby d7_51) rfl q) ?_
      show Dn p e below s _ _ _ TL (mkF m 52 #[.val (.ref a1), .val (.int x1), .val (.int x2), .val (.ref a3), .val (.ref ar), .val (.int xb), .val (.long ym), .second, .val (.int (x2 - x1)), .val (.long pj), .second, .val (.int i11), .val (.int ww), s13] [(.int (pj.toInt32))])
      refine Dn.st (fun t q => XS.bipush XL.here hx rfl (hb hby d7_52) q) ?_
      show Dn p e below s _ _ _ TL (mkF m 54 #[.val (.ref a1), .val (.int x1), .val (.int x2), .val (.ref a3), .val (.ref ar), .val (.int xb), .val (.long ym), .second, .val (.int (x2 - x1)), .val (.long pj), .second, .val (.int i11), .val (.int ww), s13] [(.int (63 : Int32)), (.int (pj.toInt32))])
      refine Dn.st (fun t q => XS.iand XL.here hx rfl (hb hby d7_54) rfl q) ?_
      show Dn p e below s _ _ _ TL (mkF m 55 #[.val (.ref a1), .val (.int x1), .val (.int x2), .val (.ref a3), .val (.ref ar), .val (.int xb), .val (.long ym), .second, .val (.int (x2 - x1)), .val (.long pj), .second, .val (.int i11), .val (.int ww), s13] [(.int ((pj.toInt32) &&& (63 : Int32)))])
      rw [show ((pj.toInt32) &&& (63 : Int32)) = (Int32.ofNat ((ii + j) * bb % 64)) from own_bit2 hpj hb2 (by omega)]
      show Dn p e below s _ _ _ TL (mkF m 55 #[.val (.ref a1), .val (.int x1), .val (.int x2), .val (.ref a3), .val (.ref ar), .val (.int xb), .val (.long ym), .second, .val (.int (x2 - x1)), .val (.long pj), .second, .val (.int i11), .val (.int ww), s13] [(.int (Int32.ofNat ((ii + j) * bb % 64)))])
      refine Dn.st (fun t q => XS.istore XL.here hx rfl (hb hby d7_55) rfl (l' := #[.val (.ref a1), .val (.int x1), .val (.int x2), .val (.ref a3), .val (.ref ar), .val (.int xb), .val (.long ym), .second, .val (.int (x2 - x1)), .val (.long pj), .second, .val (.int i11), .val (.int ww), .val (.int (Int32.ofNat ((ii + j) * bb % 64)))]) (XS.store1 (o := s13) rfl hs13 rfl) q) ?_
      show Dn p e below s _ _ _ TL (mkF m 57 #[.val (.ref a1), .val (.int x1), .val (.int x2), .val (.ref a3), .val (.ref ar), .val (.int xb), .val (.long ym), .second, .val (.int (x2 - x1)), .val (.long pj), .second, .val (.int i11), .val (.int ww), .val (.int (Int32.ofNat ((ii + j) * bb % 64)))] [])
      refine Dn.st (fun t q => XS.aloadN XL.here hx rfl (hb hby d7_57) rfl rfl  q) ?_
      show Dn p e below s _ _ _ TL (mkF m 58 #[.val (.ref a1), .val (.int x1), .val (.int x2), .val (.ref a3), .val (.ref ar), .val (.int xb), .val (.long ym), .second, .val (.int (x2 - x1)), .val (.long pj), .second, .val (.int i11), .val (.int ww), .val (.int (Int32.ofNat ((ii + j) * bb % 64)))] [(.ref a3)])
      refine Dn.st (fun t q => XS.iload XL.here hx rfl (hb hby d7_58) rfl  q) ?_
      show Dn p e below s _ _ _ TL (mkF m 60 #[.val (.ref a1), .val (.int x1), .val (.int x2), .val (.ref a3), .val (.ref ar), .val (.int xb), .val (.long ym), .second, .val (.int (x2 - x1)), .val (.long pj), .second, .val (.int i11), .val (.int ww), .val (.int (Int32.ofNat ((ii + j) * bb % 64)))] [(.int i11), (.ref a3)])
      refine Dn.st (fun t q => XS.aload XL.here hx rfl (hb hby d7_60) rfl rfl  q) ?_
      show Dn p e below s _ _ _ TL (mkF m 62 #[.val (.ref a1), .val (.int x1), .val (.int x2), .val (.ref a3), .val (.ref ar), .val (.int xb), .val (.long ym), .second, .val (.int (x2 - x1)), .val (.long pj), .second, .val (.int i11), .val (.int ww), .val (.int (Int32.ofNat ((ii + j) * bb % 64)))] [(.ref ar), (.int i11), (.ref a3)])
      refine Dn.st (fun t q => XS.iload XL.here hx rfl (hb hby d7_62) rfl  q) ?_
      show Dn p e below s _ _ _ TL (mkF m 64 #[.val (.ref a1), .val (.int x1), .val (.int x2), .val (.ref a3), .val (.ref ar), .val (.int xb), .val (.long ym), .second, .val (.int (x2 - x1)), .val (.long pj), .second, .val (.int i11), .val (.int ww), .val (.int (Int32.ofNat ((ii + j) * bb % 64)))] [(.int ww), (.ref ar), (.int i11), (.ref a3)])
      refine Dn.st (aLoadJ (w := f) XL hx hZ eL A (i := ((ii + j) * bb / 64)) hw1 (Nat.lt_of_succ_lt hin) (g := (mkF m 64 #[.val (.ref a1), .val (.int x1), .val (.int x2), .val (.ref a3), .val (.ref ar), .val (.int xb), .val (.long ym), .second, .val (.int (x2 - x1)), .val (.long pj), .second, .val (.int i11), .val (.int ww), .val (.int (Int32.ofNat ((ii + j) * bb % 64)))] [(.int ww), (.ref ar), (.int i11), (.ref a3)])) rfl rfl (hb hby d7_64)) ?_
      show Dn p e below s _ _ _ TL (mkF m 65 #[.val (.ref a1), .val (.int x1), .val (.int x2), .val (.ref a3), .val (.ref ar), .val (.int xb), .val (.long ym), .second, .val (.int (x2 - x1)), .val (.long pj), .second, .val (.int i11), .val (.int ww), .val (.int (Int32.ofNat ((ii + j) * bb % 64)))] [(.long (f ((ii + j) * bb / 64))), (.int i11), (.ref a3)])
      refine Dn.st (fun t q => XS.iload XL.here hx rfl (hb hby d7_65) rfl  q) ?_
      show Dn p e below s _ _ _ TL (mkF m 67 #[.val (.ref a1), .val (.int x1), .val (.int x2), .val (.ref a3), .val (.ref ar), .val (.int xb), .val (.long ym), .second, .val (.int (x2 - x1)), .val (.long pj), .second, .val (.int i11), .val (.int ww), .val (.int (Int32.ofNat ((ii + j) * bb % 64)))] [(.int (Int32.ofNat ((ii + j) * bb % 64))), (.long (f ((ii + j) * bb / 64))), (.int i11), (.ref a3)])
      refine Dn.st (fun t q => XS.lushr XL.here hx rfl (hb hby d7_67) rfl q) ?_
      show Dn p e below s _ _ _ TL (mkF m 68 #[.val (.ref a1), .val (.int x1), .val (.int x2), .val (.ref a3), .val (.ref ar), .val (.int xb), .val (.long ym), .second, .val (.int (x2 - x1)), .val (.long pj), .second, .val (.int i11), .val (.int ww), .val (.int (Int32.ofNat ((ii + j) * bb % 64)))] [(.long (((f ((ii + j) * bb / 64)).toUInt64 >>> ((Int32.ofNat ((ii + j) * bb % 64)) &&& 0x3f).toInt64.toUInt64).toInt64)), (.int i11), (.ref a3)])
      refine Dn.st (fun t q => XS.aload XL.here hx rfl (hb hby d7_68) rfl rfl  q) ?_
      show Dn p e below s _ _ _ TL (mkF m 70 #[.val (.ref a1), .val (.int x1), .val (.int x2), .val (.ref a3), .val (.ref ar), .val (.int xb), .val (.long ym), .second, .val (.int (x2 - x1)), .val (.long pj), .second, .val (.int i11), .val (.int ww), .val (.int (Int32.ofNat ((ii + j) * bb % 64)))] [(.ref ar), (.long (((f ((ii + j) * bb / 64)).toUInt64 >>> ((Int32.ofNat ((ii + j) * bb % 64)) &&& 0x3f).toInt64.toUInt64).toInt64)), (.int i11), (.ref a3)])
      refine Dn.st (fun t q => XS.iload XL.here hx rfl (hb hby d7_70) rfl  q) ?_
      show Dn p e below s _ _ _ TL (mkF m 72 #[.val (.ref a1), .val (.int x1), .val (.int x2), .val (.ref a3), .val (.ref ar), .val (.int xb), .val (.long ym), .second, .val (.int (x2 - x1)), .val (.long pj), .second, .val (.int i11), .val (.int ww), .val (.int (Int32.ofNat ((ii + j) * bb % 64)))] [(.int ww), (.ref ar), (.long (((f ((ii + j) * bb / 64)).toUInt64 >>> ((Int32.ofNat ((ii + j) * bb % 64)) &&& 0x3f).toInt64.toUInt64).toInt64)), (.int i11), (.ref a3)])
      refine Dn.st (fun t q => XS.iconst XL.here hx rfl (hb hby d7_72) q) ?_
      show Dn p e below s _ _ _ TL (mkF m 73 #[.val (.ref a1), .val (.int x1), .val (.int x2), .val (.ref a3), .val (.ref ar), .val (.int xb), .val (.long ym), .second, .val (.int (x2 - x1)), .val (.long pj), .second, .val (.int i11), .val (.int ww), .val (.int (Int32.ofNat ((ii + j) * bb % 64)))] [(.int (1 : Int32)), (.int ww), (.ref ar), (.long (((f ((ii + j) * bb / 64)).toUInt64 >>> ((Int32.ofNat ((ii + j) * bb % 64)) &&& 0x3f).toInt64.toUInt64).toInt64)), (.int i11), (.ref a3)])
      refine Dn.st (fun t q => XS.iadd XL.here hx rfl (hb hby d7_73) rfl q) ?_
      show Dn p e below s _ _ _ TL (mkF m 74 #[.val (.ref a1), .val (.int x1), .val (.int x2), .val (.ref a3), .val (.ref ar), .val (.int xb), .val (.long ym), .second, .val (.int (x2 - x1)), .val (.long pj), .second, .val (.int i11), .val (.int ww), .val (.int (Int32.ofNat ((ii + j) * bb % 64)))] [(.int (ww + (1 : Int32))), (.ref ar), (.long (((f ((ii + j) * bb / 64)).toUInt64 >>> ((Int32.ofNat ((ii + j) * bb % 64)) &&& 0x3f).toInt64.toUInt64).toInt64)), (.int i11), (.ref a3)])
      refine Dn.st (aLoadJ (w := f) XL hx hZ eL A (i := ((ii + j) * bb / 64 + 1)) (own_word1 hw1 hb2 (by omega)) hin (g := (mkF m 74 #[.val (.ref a1), .val (.int x1), .val (.int x2), .val (.ref a3), .val (.ref ar), .val (.int xb), .val (.long ym), .second, .val (.int (x2 - x1)), .val (.long pj), .second, .val (.int i11), .val (.int ww), .val (.int (Int32.ofNat ((ii + j) * bb % 64)))] [(.int (ww + (1 : Int32))), (.ref ar), (.long (((f ((ii + j) * bb / 64)).toUInt64 >>> ((Int32.ofNat ((ii + j) * bb % 64)) &&& 0x3f).toInt64.toUInt64).toInt64)), (.int i11), (.ref a3)])) rfl rfl (hb hby d7_74)) ?_
      show Dn p e below s _ _ _ TL (mkF m 75 #[.val (.ref a1), .val (.int x1), .val (.int x2), .val (.ref a3), .val (.ref ar), .val (.int xb), .val (.long ym), .second, .val (.int (x2 - x1)), .val (.long pj), .second, .val (.int i11), .val (.int ww), .val (.int (Int32.ofNat ((ii + j) * bb % 64)))] [(.long (f ((ii + j) * bb / 64 + 1))), (.long (((f ((ii + j) * bb / 64)).toUInt64 >>> ((Int32.ofNat ((ii + j) * bb % 64)) &&& 0x3f).toInt64.toUInt64).toInt64)), (.int i11), (.ref a3)])
      refine Dn.st (fun t q => XS.iconst XL.here hx rfl (hb hby d7_75) q) ?_
      show Dn p e below s _ _ _ TL (mkF m 76 #[.val (.ref a1), .val (.int x1), .val (.int x2), .val (.ref a3), .val (.ref ar), .val (.int xb), .val (.long ym), .second, .val (.int (x2 - x1)), .val (.long pj), .second, .val (.int i11), .val (.int ww), .val (.int (Int32.ofNat ((ii + j) * bb % 64)))] [(.int (1 : Int32)), (.long (f ((ii + j) * bb / 64 + 1))), (.long (((f ((ii + j) * bb / 64)).toUInt64 >>> ((Int32.ofNat ((ii + j) * bb % 64)) &&& 0x3f).toInt64.toUInt64).toInt64)), (.int i11), (.ref a3)])
      refine Dn.st (fun t q => XS.lshl XL.here hx rfl (hb hby d7_76) rfl q) ?_
      show Dn p e below s _ _ _ TL (mkF m 77 #[.val (.ref a1), .val (.int x1), .val (.int x2), .val (.ref a3), .val (.ref ar), .val (.int xb), .val (.long ym), .second, .val (.int (x2 - x1)), .val (.long pj), .second, .val (.int i11), .val (.int ww), .val (.int (Int32.ofNat ((ii + j) * bb % 64)))] [(.long ((f ((ii + j) * bb / 64 + 1)) <<< ((1 : Int32) &&& 0x3f).toInt64)), (.long (((f ((ii + j) * bb / 64)).toUInt64 >>> ((Int32.ofNat ((ii + j) * bb % 64)) &&& 0x3f).toInt64.toUInt64).toInt64)), (.int i11), (.ref a3)])
      refine Dn.st (fun t q => XS.bipush XL.here hx rfl (hb hby d7_77) q) ?_
      show Dn p e below s _ _ _ TL (mkF m 79 #[.val (.ref a1), .val (.int x1), .val (.int x2), .val (.ref a3), .val (.ref ar), .val (.int xb), .val (.long ym), .second, .val (.int (x2 - x1)), .val (.long pj), .second, .val (.int i11), .val (.int ww), .val (.int (Int32.ofNat ((ii + j) * bb % 64)))] [(.int (63 : Int32)), (.long ((f ((ii + j) * bb / 64 + 1)) <<< ((1 : Int32) &&& 0x3f).toInt64)), (.long (((f ((ii + j) * bb / 64)).toUInt64 >>> ((Int32.ofNat ((ii + j) * bb % 64)) &&& 0x3f).toInt64.toUInt64).toInt64)), (.int i11), (.ref a3)])
      refine Dn.st (fun t q => XS.iload XL.here hx rfl (hb hby d7_79) rfl  q) ?_
      show Dn p e below s _ _ _ TL (mkF m 81 #[.val (.ref a1), .val (.int x1), .val (.int x2), .val (.ref a3), .val (.ref ar), .val (.int xb), .val (.long ym), .second, .val (.int (x2 - x1)), .val (.long pj), .second, .val (.int i11), .val (.int ww), .val (.int (Int32.ofNat ((ii + j) * bb % 64)))] [(.int (Int32.ofNat ((ii + j) * bb % 64))), (.int (63 : Int32)), (.long ((f ((ii + j) * bb / 64 + 1)) <<< ((1 : Int32) &&& 0x3f).toInt64)), (.long (((f ((ii + j) * bb / 64)).toUInt64 >>> ((Int32.ofNat ((ii + j) * bb % 64)) &&& 0x3f).toInt64.toUInt64).toInt64)), (.int i11), (.ref a3)])
      refine Dn.st (fun t q => XS.isub XL.here hx rfl (hb hby d7_81) rfl q) ?_
      show Dn p e below s _ _ _ TL (mkF m 82 #[.val (.ref a1), .val (.int x1), .val (.int x2), .val (.ref a3), .val (.ref ar), .val (.int xb), .val (.long ym), .second, .val (.int (x2 - x1)), .val (.long pj), .second, .val (.int i11), .val (.int ww), .val (.int (Int32.ofNat ((ii + j) * bb % 64)))] [(.int ((63 : Int32) - (Int32.ofNat ((ii + j) * bb % 64)))), (.long ((f ((ii + j) * bb / 64 + 1)) <<< ((1 : Int32) &&& 0x3f).toInt64)), (.long (((f ((ii + j) * bb / 64)).toUInt64 >>> ((Int32.ofNat ((ii + j) * bb % 64)) &&& 0x3f).toInt64.toUInt64).toInt64)), (.int i11), (.ref a3)])
      refine Dn.st (fun t q => XS.lshl XL.here hx rfl (hb hby d7_82) rfl q) ?_
      show Dn p e below s _ _ _ TL (mkF m 83 #[.val (.ref a1), .val (.int x1), .val (.int x2), .val (.ref a3), .val (.ref ar), .val (.int xb), .val (.long ym), .second, .val (.int (x2 - x1)), .val (.long pj), .second, .val (.int i11), .val (.int ww), .val (.int (Int32.ofNat ((ii + j) * bb % 64)))] [(.long (((f ((ii + j) * bb / 64 + 1)) <<< ((1 : Int32) &&& 0x3f).toInt64) <<< (((63 : Int32) - (Int32.ofNat ((ii + j) * bb % 64))) &&& 0x3f).toInt64)), (.long (((f ((ii + j) * bb / 64)).toUInt64 >>> ((Int32.ofNat ((ii + j) * bb % 64)) &&& 0x3f).toInt64.toUInt64).toInt64)), (.int i11), (.ref a3)])
      refine Dn.st (fun t q => XS.lor XL.here hx rfl (hb hby d7_83) rfl q) ?_
      show Dn p e below s _ _ _ TL (mkF m 84 #[.val (.ref a1), .val (.int x1), .val (.int x2), .val (.ref a3), .val (.ref ar), .val (.int xb), .val (.long ym), .second, .val (.int (x2 - x1)), .val (.long pj), .second, .val (.int i11), .val (.int ww), .val (.int (Int32.ofNat ((ii + j) * bb % 64)))] [(.long ((((f ((ii + j) * bb / 64)).toUInt64 >>> ((Int32.ofNat ((ii + j) * bb % 64)) &&& 0x3f).toInt64.toUInt64).toInt64) ||| (((f ((ii + j) * bb / 64 + 1)) <<< ((1 : Int32) &&& 0x3f).toInt64) <<< (((63 : Int32) - (Int32.ofNat ((ii + j) * bb % 64))) &&& 0x3f).toInt64))), (.int i11), (.ref a3)])
      refine Dn.st (fun t q => XS.lload XL.here hx rfl (hb hby d7_84) rfl  q) ?_
      show Dn p e below s _ _ _ TL (mkF m 86 #[.val (.ref a1), .val (.int x1), .val (.int x2), .val (.ref a3), .val (.ref ar), .val (.int xb), .val (.long ym), .second, .val (.int (x2 - x1)), .val (.long pj), .second, .val (.int i11), .val (.int ww), .val (.int (Int32.ofNat ((ii + j) * bb % 64)))] [(.long ym), (.long ((((f ((ii + j) * bb / 64)).toUInt64 >>> ((Int32.ofNat ((ii + j) * bb % 64)) &&& 0x3f).toInt64.toUInt64).toInt64) ||| (((f ((ii + j) * bb / 64 + 1)) <<< ((1 : Int32) &&& 0x3f).toInt64) <<< (((63 : Int32) - (Int32.ofNat ((ii + j) * bb % 64))) &&& 0x3f).toInt64))), (.int i11), (.ref a3)])
      refine Dn.st (fun t q => XS.land XL.here hx rfl (hb hby d7_86) rfl q) ?_
      show Dn p e below s _ _ _ TL (mkF m 87 #[.val (.ref a1), .val (.int x1), .val (.int x2), .val (.ref a3), .val (.ref ar), .val (.int xb), .val (.long ym), .second, .val (.int (x2 - x1)), .val (.long pj), .second, .val (.int i11), .val (.int ww), .val (.int (Int32.ofNat ((ii + j) * bb % 64)))] [(.long (((((f ((ii + j) * bb / 64)).toUInt64 >>> ((Int32.ofNat ((ii + j) * bb % 64)) &&& 0x3f).toInt64.toUInt64).toInt64) ||| (((f ((ii + j) * bb / 64 + 1)) <<< ((1 : Int32) &&& 0x3f).toInt64) <<< (((63 : Int32) - (Int32.ofNat ((ii + j) * bb % 64))) &&& 0x3f).toInt64)) &&& ym)), (.int i11), (.ref a3)])
      obtain ⟨T4, h4, X4, e4, W4, B4, st4⟩ := aStoJ XL hx hZ eL B (i := j) hj (by omega) (g := (mkF m 87 #[.val (.ref a1), .val (.int x1), .val (.int x2), .val (.ref a3), .val (.ref ar), .val (.int xb), .val (.long ym), .second, .val (.int (x2 - x1)), .val (.long pj), .second, .val (.int i11), .val (.int ww), .val (.int (Int32.ofNat ((ii + j) * bb % 64)))] [(.long (((((f ((ii + j) * bb / 64)).toUInt64 >>> ((Int32.ofNat ((ii + j) * bb % 64)) &&& 0x3f).toInt64.toUInt64).toInt64) ||| (((f ((ii + j) * bb / 64 + 1)) <<< ((1 : Int32) &&& 0x3f).toInt64) <<< (((63 : Int32) - (Int32.ofNat ((ii + j) * bb % 64))) &&& 0x3f).toInt64)) &&& ym)), (.int i11), (.ref a3)])) rfl rfl (hb hby d7_87)
      have N0 := Fr.snoc X4 N0 g_a3
      have Z0 := Nat.le_trans Z0 (Keep.of_wr W4).1
      have K0 := K0.wr W4 (Or.inl (List.mem_of_getElem? (i := 0) rfl))
      have F_bits := F_bits.other W4 (Or.inl ne_a1_a3)
      have F_mask := F_mask.other W4 (Or.inl ne_a1_a3)
      have F_words := F_words.other W4 (Or.inl ne_a1_a3)
      have A := A.other W4 ne_ar_a3
      have B : Ary Z h4 a3 .long 4 (fun x => .long (own_un f ii bb ym u (j + 1) x)) := B4.congr (own_un_step rfl)
      refine Dn.st st4 ?_
      show Dn p e below s _ _ _ T4 (mkF m 88 #[.val (.ref a1), .val (.int x1), .val (.int x2), .val (.ref a3), .val (.ref ar), .val (.int xb), .val (.long ym), .second, .val (.int (x2 - x1)), .val (.long pj), .second, .val (.int i11), .val (.int ww), .val (.int (Int32.ofNat ((ii + j) * bb % 64)))] [])
      refine Dn.st (fun t q => XS.iinc X4.here hx rfl (hb hby d7_88) rfl (l' := #[.val (.ref a1), .val (.int x1), .val (.int x2), .val (.ref a3), .val (.ref ar), .val (.int xb), .val (.long ym), .second, .val (.int (x2 - x1)), .val (.long pj), .second, .val (.int (i11 + (1 : Int32))), .val (.int ww), .val (.int (Int32.ofNat ((ii + j) * bb % 64)))]) rfl q) ?_
      show Dn p e below s _ _ _ T4 (mkF m 91 #[.val (.ref a1), .val (.int x1), .val (.int x2), .val (.ref a3), .val (.ref ar), .val (.int xb), .val (.long ym), .second, .val (.int (x2 - x1)), .val (.long pj), .second, .val (.int (i11 + (1 : Int32))), .val (.int ww), .val (.int (Int32.ofNat ((ii + j) * bb % 64)))] [])
      refine Dn.st (fun t q => XS.lload X4.here hx rfl (hb hby d7_91) rfl  q) ?_
      show Dn p e below s _ _ _ T4 (mkF m 93 #[.val (.ref a1), .val (.int x1), .val (.int x2), .val (.ref a3), .val (.ref ar), .val (.int xb), .val (.long ym), .second, .val (.int (x2 - x1)), .val (.long pj), .second, .val (.int (i11 + (1 : Int32))), .val (.int ww), .val (.int (Int32.ofNat ((ii + j) * bb % 64)))] [(.long pj)])
      refine Dn.st (fun t q => XS.iload X4.here hx rfl (hb hby d7_93) rfl  q) ?_
      show Dn p e below s _ _ _ T4 (mkF m 95 #[.val (.ref a1), .val (.int x1), .val (.int x2), .val (.ref a3), .val (.ref ar), .val (.int xb), .val (.long ym), .second, .val (.int (x2 - x1)), .val (.long pj), .second, .val (.int (i11 + (1 : Int32))), .val (.int ww), .val (.int (Int32.ofNat ((ii + j) * bb % 64)))] [(.int xb), (.long pj)])
      refine Dn.st (fun t q => XS.i2l X4.here hx rfl (hb hby d7_95) rfl q) ?_
      show Dn p e below s _ _ _ T4 (mkF m 96 #[.val (.ref a1), .val (.int x1), .val (.int x2), .val (.ref a3), .val (.ref ar), .val (.int xb), .val (.long ym), .second, .val (.int (x2 - x1)), .val (.long pj), .second, .val (.int (i11 + (1 : Int32))), .val (.int ww), .val (.int (Int32.ofNat ((ii + j) * bb % 64)))] [(.long (xb.toInt64)), (.long pj)])
      refine Dn.st (fun t q => XS.ladd X4.here hx rfl (hb hby d7_96) rfl q) ?_
      show Dn p e below s _ _ _ T4 (mkF m 97 #[.val (.ref a1), .val (.int x1), .val (.int x2), .val (.ref a3), .val (.ref ar), .val (.int xb), .val (.long ym), .second, .val (.int (x2 - x1)), .val (.long pj), .second, .val (.int (i11 + (1 : Int32))), .val (.int ww), .val (.int (Int32.ofNat ((ii + j) * bb % 64)))] [(.long (pj + (xb.toInt64)))])
      refine Dn.st (fun t q => XS.lstore X4.here hx rfl (hb hby d7_97) rfl (l' := #[.val (.ref a1), .val (.int x1), .val (.int x2), .val (.ref a3), .val (.ref ar), .val (.int xb), .val (.long ym), .second, .val (.int (x2 - x1)), .val (.long (pj + (xb.toInt64))), .second, .val (.int (i11 + (1 : Int32))), .val (.int ww), .val (.int (Int32.ofNat ((ii + j) * bb % 64)))]) rfl q) ?_
      show Dn p e below s _ _ _ T4 (mkF m 99 #[.val (.ref a1), .val (.int x1), .val (.int x2), .val (.ref a3), .val (.ref ar), .val (.int xb), .val (.long ym), .second, .val (.int (x2 - x1)), .val (.long (pj + (xb.toInt64))), .second, .val (.int (i11 + (1 : Int32))), .val (.int ww), .val (.int (Int32.ofNat ((ii + j) * bb % 64)))] [])
      refine Dn.st (fun t q => XS.goto X4.here hx rfl (pc0 := 99) (pc' := 34) rfl (hb hby d7_99) (by decide) (by decide) q) ?_
      show Dn p e below s _ _ _ T4 (mkF m 34 #[.val (.ref a1), .val (.int x1), .val (.int x2), .val (.ref a3), .val (.ref ar), .val (.int xb), .val (.long ym), .second, .val (.int (x2 - x1)), .val (.long (pj + (xb.toInt64))), .second, .val (.int (i11 + (1 : Int32))), .val (.int ww), .val (.int (Int32.ofNat ((ii + j) * bb % 64)))] [])
      exact ih (j + 1) (pj + (xb.toInt64)) (i11 + (1 : Int32)) (.val (.int ww)) (.val (.int (Int32.ofNat ((ii + j) * bb % 64)))) _ _ X4 _ e4 N0 Z0 K0 F_bits F_mask F_words A B (One.val rfl) (One.val rfl) (own_ix hj (i := 1) rfl (by omega)) (by omega) (own_posn hpj hxb hb2 (by omega))
  exact lp q1 0 pp (0 : Int32) .unset .unset _ _ X3 _ e3 N0 Z0 K0 F_bits F_mask F_words A B One.u One.u rfl (Nat.zero_add _) hp
theorem d8_0 : decode method_2_code 0 = .ok (.iload_n 2, 1) := by decide +kernel
theorem d8_1 : decode method_2_code 1 = .ok (.iload 4, 2) := by decide +kernel
theorem d8_3 : decode method_2_code 3 = .ok (.if_icmp .ge 21, 3) := by decide +kernel
theorem d8_6 : decode method_2_code 6 = .ok (.aload_n 0, 1) := by decide +kernel
theorem d8_7 : decode method_2_code 7 = .ok (.iload_n 2, 1) := by decide +kernel
theorem d8_8 : decode method_2_code 8 = .ok (.laload, 1) := by decide +kernel
theorem d8_9 : decode method_2_code 9 = .ok (.aload_n 1, 1) := by decide +kernel
theorem d8_10 : decode method_2_code 10 = .ok (.iload_n 3, 1) := by decide +kernel
theorem d8_11 : decode method_2_code 11 = .ok (.iload_n 2, 1) := by decide +kernel
theorem d8_12 : decode method_2_code 12 = .ok (.iadd, 1) := by decide +kernel
theorem d8_13 : decode method_2_code 13 = .ok (.laload, 1) := by decide +kernel
theorem d8_14 : decode method_2_code 14 = .ok (.lcmp, 1) := by decide +kernel
theorem d8_15 : decode method_2_code 15 = .ok (.ifCond .ne 7, 3) := by decide +kernel
theorem d8_18 : decode method_2_code 18 = .ok (.iconst 1, 1) := by decide +kernel
theorem d8_19 : decode method_2_code 19 = .ok (.goto 4, 3) := by decide +kernel
theorem d8_23 : decode method_2_code 23 = .ok (.ireturn, 1) := by decide +kernel
theorem d8_24 : decode method_2_code 24 = .ok (.aload_n 0, 1) := by decide +kernel
theorem d8_25 : decode method_2_code 25 = .ok (.iload_n 2, 1) := by decide +kernel
theorem d8_26 : decode method_2_code 26 = .ok (.laload, 1) := by decide +kernel
theorem d8_27 : decode method_2_code 27 = .ok (.lload 5, 2) := by decide +kernel
theorem d8_29 : decode method_2_code 29 = .ok (.lcmp, 1) := by decide +kernel
theorem d8_30 : decode method_2_code 30 = .ok (.ifCond .ne 7, 3) := by decide +kernel
theorem d8_33 : decode method_2_code 33 = .ok (.iconst 1, 1) := by decide +kernel
theorem d8_34 : decode method_2_code 34 = .ok (.goto 4, 3) := by decide +kernel
theorem d8_38 : decode method_2_code 38 = .ok (.ireturn, 1) := by decide +kernel
theorem pn_1 : plainName "com/example/hindcut/hindcut/PackedNumbersUnpackPinLaw" = true := by first | (simp [plainName, overriddenIn]; done) | decide +kernel
theorem ef_rm8 (m : MethodId) (x0 : Addr) (x1 : Addr) (x2 : Int32) (x3 : Int32) (x4 : Int32) (x5 : Int64) : entryFrame m #[(.ref x0), (.ref x1), (.int x2), (.int x3), (.int x4), (.long x5)] 7 = mkF m 0 #[.val (.ref x0), .val (.ref x1), .val (.int x2), .val (.int x3), .val (.int x4), .val (.long x5), .second] [] := by first | (simp [entryFrame, mkF, argsToLocals, Value.category]; done) | rfl
def Q8 (Z : State) (a1 : Addr) (a2 : Addr) (x1 : Int32) (x2 : Int32) (x3 : Int32) (y1 : Int64) (g1 : Nat → Int64) (g2 : Nat → Int64) (i1 : Nat) (o1 : Nat) (k1 : Nat) (h0 : Heap) (n0 : Nat) (v : Option Value) (h : Heap) (L : List Loc) : Prop := v = some (.int 1) ∧ Fr n0 L ∧ h = h0
set_option maxRecDepth 65536 in
set_option maxHeartbeats 40000000 in
theorem rm8 (l : Launch) (Z : State) (a0 : Array Value) (hw : ∀ d ∈ tables_1, d.before a0 Z = true) (ws : List Jvm.Cond) (a1 : Addr) (a2 : Addr) (x1 : Int32) (x2 : Int32) (x3 : Int32) (y1 : Int64) (g1 : Nat → Int64) (g2 : Nat → Int64) (i1 : Nat) (o1 : Nat) (k1 : Nat) (h0 : Heap) (n0 : Nat) (Z0 : n0 ≤ h0.size) (A : Ary Z h0 a1 .long 4 (fun x => .long (g1 x))) (B : Ary Z h0 a2 .long 3 (fun x => .long (g2 x))) (hx1 : x1.toInt = (i1 : Int)) (hx2 : x2.toInt = (o1 : Int)) (hx3 : x3.toInt = (k1 : Int)) (hi4 : i1 < 4) (hon : o1 + k1 ≤ 3) (h1 : i1 < k1 → g1 i1 = g2 (o1 + i1)) (h2 : ¬ (i1 < k1) → g1 i1 = y1) :
    MetFree l (⟨"com/example/hindcut/hindcut/PackedNumbersUnpackPinLaw", "slot", "([J[JIIIJ)Z"⟩ : MethodName) (head1 (Jvm.Cond.code (⟨"com/example/hindcut/hindcut/PackedNumbersUnpackPinLaw", "slot", "([J[JIIIJ)Z"⟩ : MethodName) method_2_code 7 (some .boolean) :: ws) ({ frames := 0, cells := 0, slots := 0, locals := 0 } : Room)) (fun a U => a = #[(.ref a1), (.ref a2), (.int x1), (.int x2), (.int x3), (.long y1)] ∧ Z.Warmed39 U.vm ∧ U.heap = h0) (fun _ _ _ _ _ => True) (fun _ U o U' => ∃ v L, o = .returned v ∧ Q8 Z a1 a2 x1 x2 x3 y1 g1 g2 i1 o1 k1 h0 n0 v U'.heap L ∧ FrameEnd U o U' L ({ frames := 0, cells := 0, slots := 0, locals := 0 } : Room).cells ({ frames := 0, cells := 0, slots := 0, locals := 0 } : Room).slots) := by
  refine MetFree.of_bodySF (plainFor_of_name pn_1) hisR ?_
  intro p e s m args below meth c s₁ Bd hml0 hP hK
  obtain ⟨rfl, hZ, hh⟩ := hP
  have hx := Bd.exec
  have hby := Bd.bytes
  have hml : c.maxLocals = 7 := hml0
  have hown : s.vm.findClass "com/example/hindcut/hindcut/PackedNumbersUnpackPinLaw" = some m.cls := findClass_of_methodNamed Bd.named
  have hnm := (name_of_methodNamed Bd.named Bd.method).1
  have X0 : Stand p l e ({ frames := 0, cells := 0, slots := 0, locals := 0 } : Room) s m #[(.ref a1), (.ref a2), (.int x1), (.int x2), (.int x3), (.long y1)] below meth c s₁ [] 0 0 := Stand.of_body Bd
  have e0 : s₁.heap = h0 := by rw [← hh, Bd.state]; rfl
  have N0 := Fr.nil n0
  have K0 := Keep.refl h0 []
  suffices hD : Dn p e below s (Q8 Z a1 a2 x1 x2 x3 y1 g1 g2 i1 o1 k1 h0 n0) ({ frames := 0, cells := 0, slots := 0, locals := 0 } : Room).cells ({ frames := 0, cells := 0, slots := 0, locals := 0 } : Room).slots s₁ (mkF m 0 #[.val (.ref a1), .val (.ref a2), .val (.int x1), .val (.int x2), .val (.int x3), .val (.long y1), .second] []) from by
    obtain ⟨s₂, o, q1, q2⟩ := hD
    exact ⟨s₂, o, castTop (ef_rm8 m a1 a2 x1 x2 x3 y1) q1, q2⟩
  refine Dn.st (fun t q => XS.iloadN X0.here hx rfl (hb hby d8_0) rfl  q) ?_
  show Dn p e below s _ _ _ s₁ (mkF m 1 #[.val (.ref a1), .val (.ref a2), .val (.int x1), .val (.int x2), .val (.int x3), .val (.long y1), .second] [(.int x1)])
  refine Dn.st (fun t q => XS.iload X0.here hx rfl (hb hby d8_1) rfl  q) ?_
  show Dn p e below s _ _ _ s₁ (mkF m 3 #[.val (.ref a1), .val (.ref a2), .val (.int x1), .val (.int x2), .val (.int x3), .val (.long y1), .second] [(.int x3), (.int x1)])
  by_cases hin : x1 < x3
  · refine Dn.st (fun t q => XS.icmpNo X0.here hx rfl (hb hby d8_3) rfl (tlt hin).2.1 q) ?_
    show Dn p e below s _ _ _ s₁ (mkF m 6 #[.val (.ref a1), .val (.ref a2), .val (.int x1), .val (.int x2), .val (.int x3), .val (.long y1), .second] [])
    refine Dn.st (fun t q => XS.aloadN X0.here hx rfl (hb hby d8_6) rfl rfl  q) ?_
    show Dn p e below s _ _ _ s₁ (mkF m 7 #[.val (.ref a1), .val (.ref a2), .val (.int x1), .val (.int x2), .val (.int x3), .val (.long y1), .second] [(.ref a1)])
    refine Dn.st (fun t q => XS.iloadN X0.here hx rfl (hb hby d8_7) rfl  q) ?_
    show Dn p e below s _ _ _ s₁ (mkF m 8 #[.val (.ref a1), .val (.ref a2), .val (.int x1), .val (.int x2), .val (.int x3), .val (.long y1), .second] [(.int x1), (.ref a1)])
    refine Dn.st (aLoadJ (w := g1) X0 hx hZ e0 A (i := i1) hx1 hi4 (g := (mkF m 8 #[.val (.ref a1), .val (.ref a2), .val (.int x1), .val (.int x2), .val (.int x3), .val (.long y1), .second] [(.int x1), (.ref a1)])) rfl rfl (hb hby d8_8)) ?_
    show Dn p e below s _ _ _ s₁ (mkF m 9 #[.val (.ref a1), .val (.ref a2), .val (.int x1), .val (.int x2), .val (.int x3), .val (.long y1), .second] [(.long (g1 i1))])
    refine Dn.st (fun t q => XS.aloadN X0.here hx rfl (hb hby d8_9) rfl rfl  q) ?_
    show Dn p e below s _ _ _ s₁ (mkF m 10 #[.val (.ref a1), .val (.ref a2), .val (.int x1), .val (.int x2), .val (.int x3), .val (.long y1), .second] [(.ref a2), (.long (g1 i1))])
    refine Dn.st (fun t q => XS.iloadN X0.here hx rfl (hb hby d8_10) rfl  q) ?_
    show Dn p e below s _ _ _ s₁ (mkF m 11 #[.val (.ref a1), .val (.ref a2), .val (.int x1), .val (.int x2), .val (.int x3), .val (.long y1), .second] [(.int x2), (.ref a2), (.long (g1 i1))])
    refine Dn.st (fun t q => XS.iloadN X0.here hx rfl (hb hby d8_11) rfl  q) ?_
    show Dn p e below s _ _ _ s₁ (mkF m 12 #[.val (.ref a1), .val (.ref a2), .val (.int x1), .val (.int x2), .val (.int x3), .val (.long y1), .second] [(.int x1), (.int x2), (.ref a2), (.long (g1 i1))])
    refine Dn.st (fun t q => XS.iadd X0.here hx rfl (hb hby d8_12) rfl q) ?_
    show Dn p e below s _ _ _ s₁ (mkF m 13 #[.val (.ref a1), .val (.ref a2), .val (.int x1), .val (.int x2), .val (.int x3), .val (.long y1), .second] [(.int (x2 + x1)), (.ref a2), (.long (g1 i1))])
    refine Dn.st (aLoadJ (w := g2) X0 hx hZ e0 B (i := (o1 + i1)) (own_ix hx2 hx1 (by omega)) (own_slotb hx1 hx3 hon hin) (g := (mkF m 13 #[.val (.ref a1), .val (.ref a2), .val (.int x1), .val (.int x2), .val (.int x3), .val (.long y1), .second] [(.int (x2 + x1)), (.ref a2), (.long (g1 i1))])) rfl rfl (hb hby d8_13)) ?_
    show Dn p e below s _ _ _ s₁ (mkF m 14 #[.val (.ref a1), .val (.ref a2), .val (.int x1), .val (.int x2), .val (.int x3), .val (.long y1), .second] [(.long (g2 (o1 + i1))), (.long (g1 i1))])
    refine Dn.st (fun t q => XS.lcmp X0.here hx rfl (hb hby d8_14) rfl q) ?_
    show Dn p e below s _ _ _ s₁ (mkF m 15 #[.val (.ref a1), .val (.ref a2), .val (.int x1), .val (.int x2), .val (.int x3), .val (.long y1), .second] [(.int (lcmpW (g1 i1) (g2 (o1 + i1))))])
    refine Dn.st (fun t q => XS.ifNo X0.here hx rfl (hb hby d8_15) rfl ((if0 _ _).trans (teq ((lw_eq _ _).mpr (h1 (own_slotl hx1 hx3 hin)))).2) q) ?_
    show Dn p e below s _ _ _ s₁ (mkF m 18 #[.val (.ref a1), .val (.ref a2), .val (.int x1), .val (.int x2), .val (.int x3), .val (.long y1), .second] [])
    refine Dn.st (fun t q => XS.iconst X0.here hx rfl (hb hby d8_18) q) ?_
    show Dn p e below s _ _ _ s₁ (mkF m 19 #[.val (.ref a1), .val (.ref a2), .val (.int x1), .val (.int x2), .val (.int x3), .val (.long y1), .second] [(.int (1 : Int32))])
    refine Dn.st (fun t q => XS.goto X0.here hx rfl (pc0 := 19) (pc' := 23) rfl (hb hby d8_19) (by decide) (by decide) q) ?_
    show Dn p e below s _ _ _ s₁ (mkF m 23 #[.val (.ref a1), .val (.ref a2), .val (.int x1), .val (.int x2), .val (.int x3), .val (.long y1), .second] [(.int (1 : Int32))])
    exact Dn.retZ X0 hx Bd.notSynchronized (t := .boolean) Bd.returns (by simp) (hb hby d8_23) (by rw [e0]; exact ⟨rfl, N0, rfl⟩) (by decide) (by decide)
  · refine Dn.st (fun t q => XS.icmpYes X0.here hx rfl (pc0 := 3) (pc' := 24) rfl (hb hby d8_3) rfl (flt hin).2.1 (by decide) (by decide) q) ?_
    show Dn p e below s _ _ _ s₁ (mkF m 24 #[.val (.ref a1), .val (.ref a2), .val (.int x1), .val (.int x2), .val (.int x3), .val (.long y1), .second] [])
    refine Dn.st (fun t q => XS.aloadN X0.here hx rfl (hb hby d8_24) rfl rfl  q) ?_
    show Dn p e below s _ _ _ s₁ (mkF m 25 #[.val (.ref a1), .val (.ref a2), .val (.int x1), .val (.int x2), .val (.int x3), .val (.long y1), .second] [(.ref a1)])
    refine Dn.st (fun t q => XS.iloadN X0.here hx rfl (hb hby d8_25) rfl  q) ?_
    show Dn p e below s _ _ _ s₁ (mkF m 26 #[.val (.ref a1), .val (.ref a2), .val (.int x1), .val (.int x2), .val (.int x3), .val (.long y1), .second] [(.int x1), (.ref a1)])
    refine Dn.st (aLoadJ (w := g1) X0 hx hZ e0 A (i := i1) hx1 hi4 (g := (mkF m 26 #[.val (.ref a1), .val (.ref a2), .val (.int x1), .val (.int x2), .val (.int x3), .val (.long y1), .second] [(.int x1), (.ref a1)])) rfl rfl (hb hby d8_26)) ?_
    show Dn p e below s _ _ _ s₁ (mkF m 27 #[.val (.ref a1), .val (.ref a2), .val (.int x1), .val (.int x2), .val (.int x3), .val (.long y1), .second] [(.long (g1 i1))])
    refine Dn.st (fun t q => XS.lload X0.here hx rfl (hb hby d8_27) rfl  q) ?_
    show Dn p e below s _ _ _ s₁ (mkF m 29 #[.val (.ref a1), .val (.ref a2), .val (.int x1), .val (.int x2), .val (.int x3), .val (.long y1), .second] [(.long y1), (.long (g1 i1))])
    refine Dn.st (fun t q => XS.lcmp X0.here hx rfl (hb hby d8_29) rfl q) ?_
    show Dn p e below s _ _ _ s₁ (mkF m 30 #[.val (.ref a1), .val (.ref a2), .val (.int x1), .val (.int x2), .val (.int x3), .val (.long y1), .second] [(.int (lcmpW (g1 i1) y1))])
    refine Dn.st (fun t q => XS.ifNo X0.here hx rfl (hb hby d8_30) rfl ((if0 _ _).trans (teq ((lw_eq _ _).mpr (h2 (own_slotg hx1 hx3 hin)))).2) q) ?_
    show Dn p e below s _ _ _ s₁ (mkF m 33 #[.val (.ref a1), .val (.ref a2), .val (.int x1), .val (.int x2), .val (.int x3), .val (.long y1), .second] [])
    refine Dn.st (fun t q => XS.iconst X0.here hx rfl (hb hby d8_33) q) ?_
    show Dn p e below s _ _ _ s₁ (mkF m 34 #[.val (.ref a1), .val (.ref a2), .val (.int x1), .val (.int x2), .val (.int x3), .val (.long y1), .second] [(.int (1 : Int32))])
    refine Dn.st (fun t q => XS.goto X0.here hx rfl (pc0 := 34) (pc' := 38) rfl (hb hby d8_34) (by decide) (by decide) q) ?_
    show Dn p e below s _ _ _ s₁ (mkF m 38 #[.val (.ref a1), .val (.ref a2), .val (.int x1), .val (.int x2), .val (.int x3), .val (.long y1), .second] [(.int (1 : Int32))])
    exact Dn.retZ X0 hx Bd.notSynchronized (t := .boolean) Bd.returns (by simp) (hb hby d8_38) (by rw [e0]; exact ⟨rfl, N0, rfl⟩) (by decide) (by decide)
theorem pd_2 : parseMethodDescriptor "(II)I" = some ⟨[.int, .int], some .int⟩ := by decide +kernel
theorem pd_3 : parseMethodDescriptor "(II)V" = some ⟨[.int, .int], none⟩ := by decide +kernel
theorem pd_4 : parseMethodDescriptor "(IJ)Lcom/example/hindcut/hindcut/PackedNumbers;" = some ⟨[.int, .long], some (.object "com/example/hindcut/hindcut/PackedNumbers")⟩ := by decide +kernel
theorem pd_5 : parseMethodDescriptor "(II[J)V" = some ⟨[.int, .int, (.array .long)], none⟩ := by decide +kernel
theorem pd_6 : parseMethodDescriptor "([J[JIIIJ)Z" = some ⟨[(.array .long), (.array .long), .int, .int, .int, .long], some .boolean⟩ := by decide +kernel
theorem ef_rm0 (m : MethodId) (x0 : Int32) (x1 : Int32) (x2 : Int32) (x3 : Int64) (x4 : Int64) (x5 : Int64) : entryFrame m #[(.int x0), (.int x1), (.int x2), (.long x3), (.long x4), (.long x5)] maxLocals = mkF m 0 #[.val (.int x0), .val (.int x1), .val (.int x2), .val (.long x3), .second, .val (.long x4), .second, .val (.long x5), .second, .unset, .unset, .unset, .unset, .unset, .unset, .unset, .unset, .unset, .unset, .unset] [] := by first | (simp [entryFrame, mkF, argsToLocals, Value.category, maxLocals]; done) | rfl
def Q0 (Z : State) (x0 : Int32) (x1 : Int32) (x2 : Int32) (y3 : Int64) (y4 : Int64) (y5 : Int64) (h0 : Heap) (n0 : Nat) (v : Option Value) (h : Heap) (L : List Loc) : Prop := v = some (.int 1) ∧ Fr n0 L
set_option maxRecDepth 65536 in
set_option maxHeartbeats 40000000 in
theorem rm0 (l : Launch) (Z : State) (a0 : Array Value) (hw : ∀ d ∈ tables_1, d.before a0 Z = true) (ws : List Jvm.Cond) (x0 : Int32) (x1 : Int32) (x2 : Int32) (y3 : Int64) (y4 : Int64) (y5 : Int64) (h0 : Heap) (n0 : Nat) (Z0 : n0 ≤ h0.size) :
    MetFree l x (head1 (Jvm.Cond.code x code maxLocals ret :: ws) room_1) (fun a U => a = #[(.int x0), (.int x1), (.int x2), (.long y3), (.long y4), (.long y5)] ∧ Z.Warmed39 U.vm ∧ U.heap = h0) (fun _ _ _ _ _ => True) (fun _ U o U' => ∃ v L, o = .returned v ∧ Q0 Z x0 x1 x2 y3 y4 y5 h0 n0 v U'.heap L ∧ FrameEnd U o U' L 4 78) := by
  refine MetFree.of_bodySF (plainFor_of_name pn_1) hisR ?_
  intro p e s m args below meth c s₁ Bd hml0 hP hK
  obtain ⟨rfl, hZ, hh⟩ := hP
  have hx := Bd.exec
  have hby := Bd.bytes
  have hml : c.maxLocals = 20 := hml0
  have hown : s.vm.findClass "com/example/hindcut/hindcut/PackedNumbersUnpackPinLaw" = some m.cls := findClass_of_methodNamed Bd.named
  have hnm := (name_of_methodNamed Bd.named Bd.method).1
  have X0 : Stand p l e room_1 s m #[(.int x0), (.int x1), (.int x2), (.long y3), (.long y4), (.long y5)] below meth c s₁ [] 0 0 := Stand.of_body Bd
  have e0 : s₁.heap = h0 := by rw [← hh, Bd.state]; rfl
  have N0 := Fr.nil n0
  have K0 := Keep.refl h0 []
  suffices hD : Dn p e below s (Q0 Z x0 x1 x2 y3 y4 y5 h0 n0) 4 78 s₁ (mkF m 0 #[.val (.int x0), .val (.int x1), .val (.int x2), .val (.long y3), .second, .val (.long y4), .second, .val (.long y5), .second, .unset, .unset, .unset, .unset, .unset, .unset, .unset, .unset, .unset, .unset, .unset] []) from by
    obtain ⟨s₂, o, q1, q2⟩ := hD
    exact ⟨s₂, o, castTop (ef_rm0 m x0 x1 x2 y3 y4 y5) q1, q2⟩
  refine Dn.st (fun t q => XS.iloadN X0.here hx rfl (hb hby at_0) rfl  q) ?_
  show Dn p e below s _ _ _ s₁ (mkF m 1 #[.val (.int x0), .val (.int x1), .val (.int x2), .val (.long y3), .second, .val (.long y4), .second, .val (.long y5), .second, .unset, .unset, .unset, .unset, .unset, .unset, .unset, .unset, .unset, .unset, .unset] [(.int x0)])
  refine Dn.st (fun t q => XS.bipush X0.here hx rfl (hb hby at_1) q) ?_
  show Dn p e below s _ _ _ s₁ (mkF m 3 #[.val (.int x0), .val (.int x1), .val (.int x2), .val (.long y3), .second, .val (.long y4), .second, .val (.long y5), .second, .unset, .unset, .unset, .unset, .unset, .unset, .unset, .unset, .unset, .unset, .unset] [(.int (63 : Int32)), (.int x0)])
  refine Dn.st (fun t q => XS.iand X0.here hx rfl (hb hby at_3) rfl q) ?_
  show Dn p e below s _ _ _ s₁ (mkF m 4 #[.val (.int x0), .val (.int x1), .val (.int x2), .val (.long y3), .second, .val (.long y4), .second, .val (.long y5), .second, .unset, .unset, .unset, .unset, .unset, .unset, .unset, .unset, .unset, .unset, .unset] [(.int (x0 &&& (63 : Int32)))])
  refine Dn.st (fun t q => XS.iconst X0.here hx rfl (hb hby at_4) q) ?_
  show Dn p e below s _ _ _ s₁ (mkF m 5 #[.val (.int x0), .val (.int x1), .val (.int x2), .val (.long y3), .second, .val (.long y4), .second, .val (.long y5), .second, .unset, .unset, .unset, .unset, .unset, .unset, .unset, .unset, .unset, .unset, .unset] [(.int (1 : Int32)), (.int (x0 &&& (63 : Int32)))])
  refine Dn.st (fun t q => XS.iadd X0.here hx rfl (hb hby at_5) rfl q) ?_
  show Dn p e below s _ _ _ s₁ (mkF m 6 #[.val (.int x0), .val (.int x1), .val (.int x2), .val (.long y3), .second, .val (.long y4), .second, .val (.long y5), .second, .unset, .unset, .unset, .unset, .unset, .unset, .unset, .unset, .unset, .unset, .unset] [(.int ((x0 &&& (63 : Int32)) + (1 : Int32)))])
  generalize hbt : ((x0 &&& (63 : Int32)) + (1 : Int32)) = bt
  show Dn p e below s _ _ _ s₁ (mkF m 6 #[.val (.int x0), .val (.int x1), .val (.int x2), .val (.long y3), .second, .val (.long y4), .second, .val (.long y5), .second, .unset, .unset, .unset, .unset, .unset, .unset, .unset, .unset, .unset, .unset, .unset] [(.int bt)])
  obtain ⟨bb, hxb, hb1, hb2⟩ := own_bits hbt
  refine Dn.st (fun t q => XS.istore X0.here hx rfl (hb hby at_6) rfl (l' := #[.val (.int x0), .val (.int x1), .val (.int x2), .val (.long y3), .second, .val (.long y4), .second, .val (.long y5), .second, .val (.int bt), .unset, .unset, .unset, .unset, .unset, .unset, .unset, .unset, .unset, .unset]) rfl q) ?_
  show Dn p e below s _ _ _ s₁ (mkF m 8 #[.val (.int x0), .val (.int x1), .val (.int x2), .val (.long y3), .second, .val (.long y4), .second, .val (.long y5), .second, .val (.int bt), .unset, .unset, .unset, .unset, .unset, .unset, .unset, .unset, .unset, .unset] [])
  refine Dn.st (X0.ldc2Long hx hown (mvT hZ (hw _ (List.mem_of_getElem? (i := 0) rfl))) (g := (mkF m 8 #[.val (.int x0), .val (.int x1), .val (.int x2), .val (.long y3), .second, .val (.long y4), .second, .val (.long y5), .second, .val (.int bt), .unset, .unset, .unset, .unset, .unset, .unset, .unset, .unset, .unset, .unset] [])) rfl (hb hby at_8)) ?_
  show Dn p e below s _ _ _ s₁ (mkF m 11 #[.val (.int x0), .val (.int x1), .val (.int x2), .val (.long y3), .second, .val (.long y4), .second, .val (.long y5), .second, .val (.int bt), .unset, .unset, .unset, .unset, .unset, .unset, .unset, .unset, .unset, .unset] [(.long (-1 : Int64))])
  refine Dn.st (fun t q => XS.bipush X0.here hx rfl (hb hby at_11) q) ?_
  show Dn p e below s _ _ _ s₁ (mkF m 13 #[.val (.int x0), .val (.int x1), .val (.int x2), .val (.long y3), .second, .val (.long y4), .second, .val (.long y5), .second, .val (.int bt), .unset, .unset, .unset, .unset, .unset, .unset, .unset, .unset, .unset, .unset] [(.int (64 : Int32)), (.long (-1 : Int64))])
  refine Dn.st (fun t q => XS.iload X0.here hx rfl (hb hby at_13) rfl  q) ?_
  show Dn p e below s _ _ _ s₁ (mkF m 15 #[.val (.int x0), .val (.int x1), .val (.int x2), .val (.long y3), .second, .val (.long y4), .second, .val (.long y5), .second, .val (.int bt), .unset, .unset, .unset, .unset, .unset, .unset, .unset, .unset, .unset, .unset] [(.int bt), (.int (64 : Int32)), (.long (-1 : Int64))])
  refine Dn.st (fun t q => XS.isub X0.here hx rfl (hb hby at_15) rfl q) ?_
  show Dn p e below s _ _ _ s₁ (mkF m 16 #[.val (.int x0), .val (.int x1), .val (.int x2), .val (.long y3), .second, .val (.long y4), .second, .val (.long y5), .second, .val (.int bt), .unset, .unset, .unset, .unset, .unset, .unset, .unset, .unset, .unset, .unset] [(.int ((64 : Int32) - bt)), (.long (-1 : Int64))])
  refine Dn.st (fun t q => XS.lushr X0.here hx rfl (hb hby at_16) rfl q) ?_
  show Dn p e below s _ _ _ s₁ (mkF m 17 #[.val (.int x0), .val (.int x1), .val (.int x2), .val (.long y3), .second, .val (.long y4), .second, .val (.long y5), .second, .val (.int bt), .unset, .unset, .unset, .unset, .unset, .unset, .unset, .unset, .unset, .unset] [(.long (((-1 : Int64).toUInt64 >>> (((64 : Int32) - bt) &&& 0x3f).toInt64.toUInt64).toInt64))])
  rw [show (((-1 : Int64).toUInt64 >>> (((64 : Int32) - bt) &&& 0x3f).toInt64.toUInt64).toInt64) = (own_mask bt) from rfl]
  show Dn p e below s _ _ _ s₁ (mkF m 17 #[.val (.int x0), .val (.int x1), .val (.int x2), .val (.long y3), .second, .val (.long y4), .second, .val (.long y5), .second, .val (.int bt), .unset, .unset, .unset, .unset, .unset, .unset, .unset, .unset, .unset, .unset] [(.long (own_mask bt))])
  refine Dn.st (fun t q => XS.lstore X0.here hx rfl (hb hby at_17) rfl (l' := #[.val (.int x0), .val (.int x1), .val (.int x2), .val (.long y3), .second, .val (.long y4), .second, .val (.long y5), .second, .val (.int bt), .val (.long (own_mask bt)), .second, .unset, .unset, .unset, .unset, .unset, .unset, .unset, .unset]) rfl q) ?_
  show Dn p e below s _ _ _ s₁ (mkF m 19 #[.val (.int x0), .val (.int x1), .val (.int x2), .val (.long y3), .second, .val (.long y4), .second, .val (.long y5), .second, .val (.int bt), .val (.long (own_mask bt)), .second, .unset, .unset, .unset, .unset, .unset, .unset, .unset, .unset] [])
  refine Dn.st (fun t q => XS.iloadN X0.here hx rfl (hb hby at_19) rfl  q) ?_
  show Dn p e below s _ _ _ s₁ (mkF m 20 #[.val (.int x0), .val (.int x1), .val (.int x2), .val (.long y3), .second, .val (.long y4), .second, .val (.long y5), .second, .val (.int bt), .val (.long (own_mask bt)), .second, .unset, .unset, .unset, .unset, .unset, .unset, .unset, .unset] [(.int x1)])
  refine Dn.st (fun t q => XS.bipush X0.here hx rfl (hb hby at_20) q) ?_
  show Dn p e below s _ _ _ s₁ (mkF m 22 #[.val (.int x0), .val (.int x1), .val (.int x2), .val (.long y3), .second, .val (.long y4), .second, .val (.long y5), .second, .val (.int bt), .val (.long (own_mask bt)), .second, .unset, .unset, .unset, .unset, .unset, .unset, .unset, .unset] [(.int (63 : Int32)), (.int x1)])
  refine Dn.st (fun t q => XS.iand X0.here hx rfl (hb hby at_22) rfl q) ?_
  show Dn p e below s _ _ _ s₁ (mkF m 23 #[.val (.int x0), .val (.int x1), .val (.int x2), .val (.long y3), .second, .val (.long y4), .second, .val (.long y5), .second, .val (.int bt), .val (.long (own_mask bt)), .second, .unset, .unset, .unset, .unset, .unset, .unset, .unset, .unset] [(.int (x1 &&& (63 : Int32)))])
  generalize hkk : (x1 &&& (63 : Int32)) = kk
  show Dn p e below s _ _ _ s₁ (mkF m 23 #[.val (.int x0), .val (.int x1), .val (.int x2), .val (.long y3), .second, .val (.long y4), .second, .val (.long y5), .second, .val (.int bt), .val (.long (own_mask bt)), .second, .unset, .unset, .unset, .unset, .unset, .unset, .unset, .unset] [(.int kk)])
  obtain ⟨kn, hkn, hk63⟩ := own_and63 hkk
  refine Dn.st (fun t q => XS.istore X0.here hx rfl (hb hby at_23) rfl (l' := #[.val (.int x0), .val (.int x1), .val (.int x2), .val (.long y3), .second, .val (.long y4), .second, .val (.long y5), .second, .val (.int bt), .val (.long (own_mask bt)), .second, .val (.int kk), .unset, .unset, .unset, .unset, .unset, .unset, .unset]) rfl q) ?_
  show Dn p e below s _ _ _ s₁ (mkF m 25 #[.val (.int x0), .val (.int x1), .val (.int x2), .val (.long y3), .second, .val (.long y4), .second, .val (.long y5), .second, .val (.int bt), .val (.long (own_mask bt)), .second, .val (.int kk), .unset, .unset, .unset, .unset, .unset, .unset, .unset] [])
  refine Dn.st (fun t q => XS.iconst X0.here hx rfl (hb hby at_25) q) ?_
  show Dn p e below s _ _ _ s₁ (mkF m 26 #[.val (.int x0), .val (.int x1), .val (.int x2), .val (.long y3), .second, .val (.long y4), .second, .val (.long y5), .second, .val (.int bt), .val (.long (own_mask bt)), .second, .val (.int kk), .unset, .unset, .unset, .unset, .unset, .unset, .unset] [(.int (3 : Int32))])
  obtain ⟨T1, h1, k1, X1, e1, E1, A1, st1⟩ := newP X0 hx hZ (hw _ (List.mem_of_getElem? (i := 1) rfl)) e0 (g := (mkF m 26 #[.val (.int x0), .val (.int x1), .val (.int x2), .val (.long y3), .second, .val (.long y4), .second, .val (.long y5), .second, .val (.int bt), .val (.long (own_mask bt)), .second, .val (.int kk), .unset, .unset, .unset, .unset, .unset, .unset, .unset] [(.int (3 : Int32))])) rfl (hb hby at_26) rfl (by decide) (cap := 3) (by decide) (by decide) (by decide) (by decide)
  obtain ⟨b1, g1⟩ : ∃ z, z = h0.size := ⟨_, rfl⟩
  rw [← g1] at A1 st1
  have g_b1 : n0 ≤ b1 := Nat.le_trans Z0 (Nat.le_of_eq g1.symm)
  have sz_b1 : h0.size ≤ b1 := Nat.le_trans K0.1 (Nat.le_of_eq g1.symm)
  have Z0 := Nat.le_trans Z0 E1.1
  have K0 := K0.ext E1
  have A_b1 : Ary Z h1 b1 .long 3 (fun _ => (.long (0 : Int64))) := Ary.new A1 (by decide)
  refine Dn.st st1 ?_
  show Dn p e below s _ _ _ T1 (mkF m 28 #[.val (.int x0), .val (.int x1), .val (.int x2), .val (.long y3), .second, .val (.long y4), .second, .val (.long y5), .second, .val (.int bt), .val (.long (own_mask bt)), .second, .val (.int kk), .unset, .unset, .unset, .unset, .unset, .unset, .unset] [(.ref b1)])
  refine Dn.st (fun t q => XS.astore X1.here hx rfl (hb hby at_28) rfl rfl (l' := #[.val (.int x0), .val (.int x1), .val (.int x2), .val (.long y3), .second, .val (.long y4), .second, .val (.long y5), .second, .val (.int bt), .val (.long (own_mask bt)), .second, .val (.int kk), .val (.ref b1), .unset, .unset, .unset, .unset, .unset, .unset]) rfl q) ?_
  show Dn p e below s _ _ _ T1 (mkF m 30 #[.val (.int x0), .val (.int x1), .val (.int x2), .val (.long y3), .second, .val (.long y4), .second, .val (.long y5), .second, .val (.int bt), .val (.long (own_mask bt)), .second, .val (.int kk), .val (.ref b1), .unset, .unset, .unset, .unset, .unset, .unset] [])
  refine Dn.st (fun t q => XS.aload X1.here hx rfl (hb hby at_30) rfl rfl  q) ?_
  show Dn p e below s _ _ _ T1 (mkF m 32 #[.val (.int x0), .val (.int x1), .val (.int x2), .val (.long y3), .second, .val (.long y4), .second, .val (.long y5), .second, .val (.int bt), .val (.long (own_mask bt)), .second, .val (.int kk), .val (.ref b1), .unset, .unset, .unset, .unset, .unset, .unset] [(.ref b1)])
  refine Dn.st (fun t q => XS.iconst X1.here hx rfl (hb hby at_32) q) ?_
  show Dn p e below s _ _ _ T1 (mkF m 33 #[.val (.int x0), .val (.int x1), .val (.int x2), .val (.long y3), .second, .val (.long y4), .second, .val (.long y5), .second, .val (.int bt), .val (.long (own_mask bt)), .second, .val (.int kk), .val (.ref b1), .unset, .unset, .unset, .unset, .unset, .unset] [(.int (0 : Int32)), (.ref b1)])
  refine Dn.st (fun t q => XS.lloadN X1.here hx rfl (hb hby at_33) rfl  q) ?_
  show Dn p e below s _ _ _ T1 (mkF m 34 #[.val (.int x0), .val (.int x1), .val (.int x2), .val (.long y3), .second, .val (.long y4), .second, .val (.long y5), .second, .val (.int bt), .val (.long (own_mask bt)), .second, .val (.int kk), .val (.ref b1), .unset, .unset, .unset, .unset, .unset, .unset] [(.long y3), (.int (0 : Int32)), (.ref b1)])
  refine Dn.st (fun t q => XS.lload X1.here hx rfl (hb hby at_34) rfl  q) ?_
  show Dn p e below s _ _ _ T1 (mkF m 36 #[.val (.int x0), .val (.int x1), .val (.int x2), .val (.long y3), .second, .val (.long y4), .second, .val (.long y5), .second, .val (.int bt), .val (.long (own_mask bt)), .second, .val (.int kk), .val (.ref b1), .unset, .unset, .unset, .unset, .unset, .unset] [(.long (own_mask bt)), (.long y3), (.int (0 : Int32)), (.ref b1)])
  refine Dn.st (fun t q => XS.land X1.here hx rfl (hb hby at_36) rfl q) ?_
  show Dn p e below s _ _ _ T1 (mkF m 37 #[.val (.int x0), .val (.int x1), .val (.int x2), .val (.long y3), .second, .val (.long y4), .second, .val (.long y5), .second, .val (.int bt), .val (.long (own_mask bt)), .second, .val (.int kk), .val (.ref b1), .unset, .unset, .unset, .unset, .unset, .unset] [(.long (y3 &&& (own_mask bt))), (.int (0 : Int32)), (.ref b1)])
  obtain ⟨T2, h2, X2, e2, W2, B2, st2⟩ := aStoJ X1 hx hZ e1 A_b1 (i := 0) rfl (by decide) (g := (mkF m 37 #[.val (.int x0), .val (.int x1), .val (.int x2), .val (.long y3), .second, .val (.long y4), .second, .val (.long y5), .second, .val (.int bt), .val (.long (own_mask bt)), .second, .val (.int kk), .val (.ref b1), .unset, .unset, .unset, .unset, .unset, .unset] [(.long (y3 &&& (own_mask bt))), (.int (0 : Int32)), (.ref b1)])) rfl rfl (hb hby at_37)
  have N0 := Fr.snoc X2 N0 g_b1
  have Z0 := Nat.le_trans Z0 (Keep.of_wr W2).1
  have K0 := K0.wr W2 (Or.inr sz_b1)
  have A_b1 : Ary Z h2 b1 .long 3 (fun x => .long (if x = 0 then (y3 &&& (own_mask bt)) else (0 : Int64))) := B2.congr (fun j _ => own_itej)
  refine Dn.st st2 ?_
  show Dn p e below s _ _ _ T2 (mkF m 38 #[.val (.int x0), .val (.int x1), .val (.int x2), .val (.long y3), .second, .val (.long y4), .second, .val (.long y5), .second, .val (.int bt), .val (.long (own_mask bt)), .second, .val (.int kk), .val (.ref b1), .unset, .unset, .unset, .unset, .unset, .unset] [])
  refine Dn.st (fun t q => XS.aload X2.here hx rfl (hb hby at_38) rfl rfl  q) ?_
  show Dn p e below s _ _ _ T2 (mkF m 40 #[.val (.int x0), .val (.int x1), .val (.int x2), .val (.long y3), .second, .val (.long y4), .second, .val (.long y5), .second, .val (.int bt), .val (.long (own_mask bt)), .second, .val (.int kk), .val (.ref b1), .unset, .unset, .unset, .unset, .unset, .unset] [(.ref b1)])
  refine Dn.st (fun t q => XS.iconst X2.here hx rfl (hb hby at_40) q) ?_
  show Dn p e below s _ _ _ T2 (mkF m 41 #[.val (.int x0), .val (.int x1), .val (.int x2), .val (.long y3), .second, .val (.long y4), .second, .val (.long y5), .second, .val (.int bt), .val (.long (own_mask bt)), .second, .val (.int kk), .val (.ref b1), .unset, .unset, .unset, .unset, .unset, .unset] [(.int (1 : Int32)), (.ref b1)])
  refine Dn.st (fun t q => XS.lload X2.here hx rfl (hb hby at_41) rfl  q) ?_
  show Dn p e below s _ _ _ T2 (mkF m 43 #[.val (.int x0), .val (.int x1), .val (.int x2), .val (.long y3), .second, .val (.long y4), .second, .val (.long y5), .second, .val (.int bt), .val (.long (own_mask bt)), .second, .val (.int kk), .val (.ref b1), .unset, .unset, .unset, .unset, .unset, .unset] [(.long y4), (.int (1 : Int32)), (.ref b1)])
  refine Dn.st (fun t q => XS.lload X2.here hx rfl (hb hby at_43) rfl  q) ?_
  show Dn p e below s _ _ _ T2 (mkF m 45 #[.val (.int x0), .val (.int x1), .val (.int x2), .val (.long y3), .second, .val (.long y4), .second, .val (.long y5), .second, .val (.int bt), .val (.long (own_mask bt)), .second, .val (.int kk), .val (.ref b1), .unset, .unset, .unset, .unset, .unset, .unset] [(.long (own_mask bt)), (.long y4), (.int (1 : Int32)), (.ref b1)])
  refine Dn.st (fun t q => XS.land X2.here hx rfl (hb hby at_45) rfl q) ?_
  show Dn p e below s _ _ _ T2 (mkF m 46 #[.val (.int x0), .val (.int x1), .val (.int x2), .val (.long y3), .second, .val (.long y4), .second, .val (.long y5), .second, .val (.int bt), .val (.long (own_mask bt)), .second, .val (.int kk), .val (.ref b1), .unset, .unset, .unset, .unset, .unset, .unset] [(.long (y4 &&& (own_mask bt))), (.int (1 : Int32)), (.ref b1)])
  obtain ⟨T3, h3, X3, e3, W3, B3, st3⟩ := aStoJ X2 hx hZ e2 A_b1 (i := 1) rfl (by decide) (g := (mkF m 46 #[.val (.int x0), .val (.int x1), .val (.int x2), .val (.long y3), .second, .val (.long y4), .second, .val (.long y5), .second, .val (.int bt), .val (.long (own_mask bt)), .second, .val (.int kk), .val (.ref b1), .unset, .unset, .unset, .unset, .unset, .unset] [(.long (y4 &&& (own_mask bt))), (.int (1 : Int32)), (.ref b1)])) rfl rfl (hb hby at_46)
  have N0 := Fr.snoc X3 N0 g_b1
  have Z0 := Nat.le_trans Z0 (Keep.of_wr W3).1
  have K0 := K0.wr W3 (Or.inr sz_b1)
  have A_b1 : Ary Z h3 b1 .long 3 (fun x => .long (if x = 1 then (y4 &&& (own_mask bt)) else (if x = 0 then (y3 &&& (own_mask bt)) else (0 : Int64)))) := B3.congr (fun j _ => own_itej)
  refine Dn.st st3 ?_
  show Dn p e below s _ _ _ T3 (mkF m 47 #[.val (.int x0), .val (.int x1), .val (.int x2), .val (.long y3), .second, .val (.long y4), .second, .val (.long y5), .second, .val (.int bt), .val (.long (own_mask bt)), .second, .val (.int kk), .val (.ref b1), .unset, .unset, .unset, .unset, .unset, .unset] [])
  refine Dn.st (fun t q => XS.aload X3.here hx rfl (hb hby at_47) rfl rfl  q) ?_
  show Dn p e below s _ _ _ T3 (mkF m 49 #[.val (.int x0), .val (.int x1), .val (.int x2), .val (.long y3), .second, .val (.long y4), .second, .val (.long y5), .second, .val (.int bt), .val (.long (own_mask bt)), .second, .val (.int kk), .val (.ref b1), .unset, .unset, .unset, .unset, .unset, .unset] [(.ref b1)])
  refine Dn.st (fun t q => XS.iconst X3.here hx rfl (hb hby at_49) q) ?_
  show Dn p e below s _ _ _ T3 (mkF m 50 #[.val (.int x0), .val (.int x1), .val (.int x2), .val (.long y3), .second, .val (.long y4), .second, .val (.long y5), .second, .val (.int bt), .val (.long (own_mask bt)), .second, .val (.int kk), .val (.ref b1), .unset, .unset, .unset, .unset, .unset, .unset] [(.int (2 : Int32)), (.ref b1)])
  refine Dn.st (fun t q => XS.lload X3.here hx rfl (hb hby at_50) rfl  q) ?_
  show Dn p e below s _ _ _ T3 (mkF m 52 #[.val (.int x0), .val (.int x1), .val (.int x2), .val (.long y3), .second, .val (.long y4), .second, .val (.long y5), .second, .val (.int bt), .val (.long (own_mask bt)), .second, .val (.int kk), .val (.ref b1), .unset, .unset, .unset, .unset, .unset, .unset] [(.long y5), (.int (2 : Int32)), (.ref b1)])
  refine Dn.st (fun t q => XS.lload X3.here hx rfl (hb hby at_52) rfl  q) ?_
  show Dn p e below s _ _ _ T3 (mkF m 54 #[.val (.int x0), .val (.int x1), .val (.int x2), .val (.long y3), .second, .val (.long y4), .second, .val (.long y5), .second, .val (.int bt), .val (.long (own_mask bt)), .second, .val (.int kk), .val (.ref b1), .unset, .unset, .unset, .unset, .unset, .unset] [(.long (own_mask bt)), (.long y5), (.int (2 : Int32)), (.ref b1)])
  refine Dn.st (fun t q => XS.land X3.here hx rfl (hb hby at_54) rfl q) ?_
  show Dn p e below s _ _ _ T3 (mkF m 55 #[.val (.int x0), .val (.int x1), .val (.int x2), .val (.long y3), .second, .val (.long y4), .second, .val (.long y5), .second, .val (.int bt), .val (.long (own_mask bt)), .second, .val (.int kk), .val (.ref b1), .unset, .unset, .unset, .unset, .unset, .unset] [(.long (y5 &&& (own_mask bt))), (.int (2 : Int32)), (.ref b1)])
  obtain ⟨T4, h4, X4, e4, W4, B4, st4⟩ := aStoJ X3 hx hZ e3 A_b1 (i := 2) rfl (by decide) (g := (mkF m 55 #[.val (.int x0), .val (.int x1), .val (.int x2), .val (.long y3), .second, .val (.long y4), .second, .val (.long y5), .second, .val (.int bt), .val (.long (own_mask bt)), .second, .val (.int kk), .val (.ref b1), .unset, .unset, .unset, .unset, .unset, .unset] [(.long (y5 &&& (own_mask bt))), (.int (2 : Int32)), (.ref b1)])) rfl rfl (hb hby at_55)
  have N0 := Fr.snoc X4 N0 g_b1
  have Z0 := Nat.le_trans Z0 (Keep.of_wr W4).1
  have K0 := K0.wr W4 (Or.inr sz_b1)
  have A_b1 : Ary Z h4 b1 .long 3 (fun x => .long (if x = 2 then (y5 &&& (own_mask bt)) else (if x = 1 then (y4 &&& (own_mask bt)) else (if x = 0 then (y3 &&& (own_mask bt)) else (0 : Int64))))) := B4.congr (fun j _ => own_itej)
  refine Dn.st st4 ?_
  show Dn p e below s _ _ _ T4 (mkF m 56 #[.val (.int x0), .val (.int x1), .val (.int x2), .val (.long y3), .second, .val (.long y4), .second, .val (.long y5), .second, .val (.int bt), .val (.long (own_mask bt)), .second, .val (.int kk), .val (.ref b1), .unset, .unset, .unset, .unset, .unset, .unset] [])
  refine Dn.st (X4.ldc2Long hx hown (mvT hZ (hw _ (List.mem_of_getElem? (i := 2) rfl))) (g := (mkF m 56 #[.val (.int x0), .val (.int x1), .val (.int x2), .val (.long y3), .second, .val (.long y4), .second, .val (.long y5), .second, .val (.int bt), .val (.long (own_mask bt)), .second, .val (.int kk), .val (.ref b1), .unset, .unset, .unset, .unset, .unset, .unset] [])) rfl (hb hby at_56)) ?_
  show Dn p e below s _ _ _ T4 (mkF m 59 #[.val (.int x0), .val (.int x1), .val (.int x2), .val (.long y3), .second, .val (.long y4), .second, .val (.long y5), .second, .val (.int bt), .val (.long (own_mask bt)), .second, .val (.int kk), .val (.ref b1), .unset, .unset, .unset, .unset, .unset, .unset] [(.long (6510615555426900571 : Int64))])
  refine Dn.st (fun t q => XS.lstore X4.here hx rfl (hb hby at_59) rfl (l' := #[.val (.int x0), .val (.int x1), .val (.int x2), .val (.long y3), .second, .val (.long y4), .second, .val (.long y5), .second, .val (.int bt), .val (.long (own_mask bt)), .second, .val (.int kk), .val (.ref b1), .val (.long (6510615555426900571 : Int64)), .second, .unset, .unset, .unset, .unset]) rfl q) ?_
  show Dn p e below s _ _ _ T4 (mkF m 61 #[.val (.int x0), .val (.int x1), .val (.int x2), .val (.long y3), .second, .val (.long y4), .second, .val (.long y5), .second, .val (.int bt), .val (.long (own_mask bt)), .second, .val (.int kk), .val (.ref b1), .val (.long (6510615555426900571 : Int64)), .second, .unset, .unset, .unset, .unset] [])
  refine Dn.st (fun t q => XS.iconst X4.here hx rfl (hb hby at_61) q) ?_
  show Dn p e below s _ _ _ T4 (mkF m 62 #[.val (.int x0), .val (.int x1), .val (.int x2), .val (.long y3), .second, .val (.long y4), .second, .val (.long y5), .second, .val (.int bt), .val (.long (own_mask bt)), .second, .val (.int kk), .val (.ref b1), .val (.long (6510615555426900571 : Int64)), .second, .unset, .unset, .unset, .unset] [(.int (4 : Int32))])
  obtain ⟨T5, h5, k5, X5, e5, E5, A5, st5⟩ := newP X4 hx hZ (hw _ (List.mem_of_getElem? (i := 1) rfl)) e4 (g := (mkF m 62 #[.val (.int x0), .val (.int x1), .val (.int x2), .val (.long y3), .second, .val (.long y4), .second, .val (.long y5), .second, .val (.int bt), .val (.long (own_mask bt)), .second, .val (.int kk), .val (.ref b1), .val (.long (6510615555426900571 : Int64)), .second, .unset, .unset, .unset, .unset] [(.int (4 : Int32))])) rfl (hb hby at_62) rfl (by decide) (cap := 4) (by decide) (by decide) (by decide) (by decide)
  obtain ⟨b2, g5⟩ : ∃ z, z = h4.size := ⟨_, rfl⟩
  rw [← g5] at A5 st5
  have ne_b1_b2 : b1 ≠ b2 := own_ne A_b1.lt g5
  have g_b2 : n0 ≤ b2 := Nat.le_trans Z0 (Nat.le_of_eq g5.symm)
  have sz_b2 : h0.size ≤ b2 := Nat.le_trans K0.1 (Nat.le_of_eq g5.symm)
  have Z0 := Nat.le_trans Z0 E5.1
  have K0 := K0.ext E5
  have A_b1 := A_b1.ext E5
  have A_b2 : Ary Z h5 b2 .long 4 (fun _ => (.long (0 : Int64))) := Ary.new A5 (by decide)
  refine Dn.st st5 ?_
  show Dn p e below s _ _ _ T5 (mkF m 64 #[.val (.int x0), .val (.int x1), .val (.int x2), .val (.long y3), .second, .val (.long y4), .second, .val (.long y5), .second, .val (.int bt), .val (.long (own_mask bt)), .second, .val (.int kk), .val (.ref b1), .val (.long (6510615555426900571 : Int64)), .second, .unset, .unset, .unset, .unset] [(.ref b2)])
  refine Dn.st (fun t q => XS.astore X5.here hx rfl (hb hby at_64) rfl rfl (l' := #[.val (.int x0), .val (.int x1), .val (.int x2), .val (.long y3), .second, .val (.long y4), .second, .val (.long y5), .second, .val (.int bt), .val (.long (own_mask bt)), .second, .val (.int kk), .val (.ref b1), .val (.long (6510615555426900571 : Int64)), .second, .val (.ref b2), .unset, .unset, .unset]) rfl q) ?_
  show Dn p e below s _ _ _ T5 (mkF m 66 #[.val (.int x0), .val (.int x1), .val (.int x2), .val (.long y3), .second, .val (.long y4), .second, .val (.long y5), .second, .val (.int bt), .val (.long (own_mask bt)), .second, .val (.int kk), .val (.ref b1), .val (.long (6510615555426900571 : Int64)), .second, .val (.ref b2), .unset, .unset, .unset] [])
  refine Dn.st (fun t q => XS.aload X5.here hx rfl (hb hby at_66) rfl rfl  q) ?_
  show Dn p e below s _ _ _ T5 (mkF m 68 #[.val (.int x0), .val (.int x1), .val (.int x2), .val (.long y3), .second, .val (.long y4), .second, .val (.long y5), .second, .val (.int bt), .val (.long (own_mask bt)), .second, .val (.int kk), .val (.ref b1), .val (.long (6510615555426900571 : Int64)), .second, .val (.ref b2), .unset, .unset, .unset] [(.ref b2)])
  refine Dn.st (fun t q => XS.iconst X5.here hx rfl (hb hby at_68) q) ?_
  show Dn p e below s _ _ _ T5 (mkF m 69 #[.val (.int x0), .val (.int x1), .val (.int x2), .val (.long y3), .second, .val (.long y4), .second, .val (.long y5), .second, .val (.int bt), .val (.long (own_mask bt)), .second, .val (.int kk), .val (.ref b1), .val (.long (6510615555426900571 : Int64)), .second, .val (.ref b2), .unset, .unset, .unset] [(.int (0 : Int32)), (.ref b2)])
  refine Dn.st (fun t q => XS.lload X5.here hx rfl (hb hby at_69) rfl  q) ?_
  show Dn p e below s _ _ _ T5 (mkF m 71 #[.val (.int x0), .val (.int x1), .val (.int x2), .val (.long y3), .second, .val (.long y4), .second, .val (.long y5), .second, .val (.int bt), .val (.long (own_mask bt)), .second, .val (.int kk), .val (.ref b1), .val (.long (6510615555426900571 : Int64)), .second, .val (.ref b2), .unset, .unset, .unset] [(.long (6510615555426900571 : Int64)), (.int (0 : Int32)), (.ref b2)])
  obtain ⟨T6, h6, X6, e6, W6, B6, st6⟩ := aStoJ X5 hx hZ e5 A_b2 (i := 0) rfl (by decide) (g := (mkF m 71 #[.val (.int x0), .val (.int x1), .val (.int x2), .val (.long y3), .second, .val (.long y4), .second, .val (.long y5), .second, .val (.int bt), .val (.long (own_mask bt)), .second, .val (.int kk), .val (.ref b1), .val (.long (6510615555426900571 : Int64)), .second, .val (.ref b2), .unset, .unset, .unset] [(.long (6510615555426900571 : Int64)), (.int (0 : Int32)), (.ref b2)])) rfl rfl (hb hby at_71)
  have N0 := Fr.snoc X6 N0 g_b2
  have Z0 := Nat.le_trans Z0 (Keep.of_wr W6).1
  have K0 := K0.wr W6 (Or.inr sz_b2)
  have A_b1 := A_b1.other W6 ne_b1_b2
  have A_b2 : Ary Z h6 b2 .long 4 (fun x => .long (if x = 0 then (6510615555426900571 : Int64) else (0 : Int64))) := B6.congr (fun j _ => own_itej)
  refine Dn.st st6 ?_
  show Dn p e below s _ _ _ T6 (mkF m 72 #[.val (.int x0), .val (.int x1), .val (.int x2), .val (.long y3), .second, .val (.long y4), .second, .val (.long y5), .second, .val (.int bt), .val (.long (own_mask bt)), .second, .val (.int kk), .val (.ref b1), .val (.long (6510615555426900571 : Int64)), .second, .val (.ref b2), .unset, .unset, .unset] [])
  refine Dn.st (fun t q => XS.aload X6.here hx rfl (hb hby at_72) rfl rfl  q) ?_
  show Dn p e below s _ _ _ T6 (mkF m 74 #[.val (.int x0), .val (.int x1), .val (.int x2), .val (.long y3), .second, .val (.long y4), .second, .val (.long y5), .second, .val (.int bt), .val (.long (own_mask bt)), .second, .val (.int kk), .val (.ref b1), .val (.long (6510615555426900571 : Int64)), .second, .val (.ref b2), .unset, .unset, .unset] [(.ref b2)])
  refine Dn.st (fun t q => XS.iconst X6.here hx rfl (hb hby at_74) q) ?_
  show Dn p e below s _ _ _ T6 (mkF m 75 #[.val (.int x0), .val (.int x1), .val (.int x2), .val (.long y3), .second, .val (.long y4), .second, .val (.long y5), .second, .val (.int bt), .val (.long (own_mask bt)), .second, .val (.int kk), .val (.ref b1), .val (.long (6510615555426900571 : Int64)), .second, .val (.ref b2), .unset, .unset, .unset] [(.int (1 : Int32)), (.ref b2)])
  refine Dn.st (fun t q => XS.lload X6.here hx rfl (hb hby at_75) rfl  q) ?_
  show Dn p e below s _ _ _ T6 (mkF m 77 #[.val (.int x0), .val (.int x1), .val (.int x2), .val (.long y3), .second, .val (.long y4), .second, .val (.long y5), .second, .val (.int bt), .val (.long (own_mask bt)), .second, .val (.int kk), .val (.ref b1), .val (.long (6510615555426900571 : Int64)), .second, .val (.ref b2), .unset, .unset, .unset] [(.long (6510615555426900571 : Int64)), (.int (1 : Int32)), (.ref b2)])
  obtain ⟨T7, h7, X7, e7, W7, B7, st7⟩ := aStoJ X6 hx hZ e6 A_b2 (i := 1) rfl (by decide) (g := (mkF m 77 #[.val (.int x0), .val (.int x1), .val (.int x2), .val (.long y3), .second, .val (.long y4), .second, .val (.long y5), .second, .val (.int bt), .val (.long (own_mask bt)), .second, .val (.int kk), .val (.ref b1), .val (.long (6510615555426900571 : Int64)), .second, .val (.ref b2), .unset, .unset, .unset] [(.long (6510615555426900571 : Int64)), (.int (1 : Int32)), (.ref b2)])) rfl rfl (hb hby at_77)
  have N0 := Fr.snoc X7 N0 g_b2
  have Z0 := Nat.le_trans Z0 (Keep.of_wr W7).1
  have K0 := K0.wr W7 (Or.inr sz_b2)
  have A_b1 := A_b1.other W7 ne_b1_b2
  have A_b2 : Ary Z h7 b2 .long 4 (fun x => .long (if x = 1 then (6510615555426900571 : Int64) else (if x = 0 then (6510615555426900571 : Int64) else (0 : Int64)))) := B7.congr (fun j _ => own_itej)
  refine Dn.st st7 ?_
  show Dn p e below s _ _ _ T7 (mkF m 78 #[.val (.int x0), .val (.int x1), .val (.int x2), .val (.long y3), .second, .val (.long y4), .second, .val (.long y5), .second, .val (.int bt), .val (.long (own_mask bt)), .second, .val (.int kk), .val (.ref b1), .val (.long (6510615555426900571 : Int64)), .second, .val (.ref b2), .unset, .unset, .unset] [])
  refine Dn.st (fun t q => XS.aload X7.here hx rfl (hb hby at_78) rfl rfl  q) ?_
  show Dn p e below s _ _ _ T7 (mkF m 80 #[.val (.int x0), .val (.int x1), .val (.int x2), .val (.long y3), .second, .val (.long y4), .second, .val (.long y5), .second, .val (.int bt), .val (.long (own_mask bt)), .second, .val (.int kk), .val (.ref b1), .val (.long (6510615555426900571 : Int64)), .second, .val (.ref b2), .unset, .unset, .unset] [(.ref b2)])
  refine Dn.st (fun t q => XS.iconst X7.here hx rfl (hb hby at_80) q) ?_
  show Dn p e below s _ _ _ T7 (mkF m 81 #[.val (.int x0), .val (.int x1), .val (.int x2), .val (.long y3), .second, .val (.long y4), .second, .val (.long y5), .second, .val (.int bt), .val (.long (own_mask bt)), .second, .val (.int kk), .val (.ref b1), .val (.long (6510615555426900571 : Int64)), .second, .val (.ref b2), .unset, .unset, .unset] [(.int (2 : Int32)), (.ref b2)])
  refine Dn.st (fun t q => XS.lload X7.here hx rfl (hb hby at_81) rfl  q) ?_
  show Dn p e below s _ _ _ T7 (mkF m 83 #[.val (.int x0), .val (.int x1), .val (.int x2), .val (.long y3), .second, .val (.long y4), .second, .val (.long y5), .second, .val (.int bt), .val (.long (own_mask bt)), .second, .val (.int kk), .val (.ref b1), .val (.long (6510615555426900571 : Int64)), .second, .val (.ref b2), .unset, .unset, .unset] [(.long (6510615555426900571 : Int64)), (.int (2 : Int32)), (.ref b2)])
  obtain ⟨T8, h8, X8, e8, W8, B8, st8⟩ := aStoJ X7 hx hZ e7 A_b2 (i := 2) rfl (by decide) (g := (mkF m 83 #[.val (.int x0), .val (.int x1), .val (.int x2), .val (.long y3), .second, .val (.long y4), .second, .val (.long y5), .second, .val (.int bt), .val (.long (own_mask bt)), .second, .val (.int kk), .val (.ref b1), .val (.long (6510615555426900571 : Int64)), .second, .val (.ref b2), .unset, .unset, .unset] [(.long (6510615555426900571 : Int64)), (.int (2 : Int32)), (.ref b2)])) rfl rfl (hb hby at_83)
  have N0 := Fr.snoc X8 N0 g_b2
  have Z0 := Nat.le_trans Z0 (Keep.of_wr W8).1
  have K0 := K0.wr W8 (Or.inr sz_b2)
  have A_b1 := A_b1.other W8 ne_b1_b2
  have A_b2 : Ary Z h8 b2 .long 4 (fun x => .long (if x = 2 then (6510615555426900571 : Int64) else (if x = 1 then (6510615555426900571 : Int64) else (if x = 0 then (6510615555426900571 : Int64) else (0 : Int64))))) := B8.congr (fun j _ => own_itej)
  refine Dn.st st8 ?_
  show Dn p e below s _ _ _ T8 (mkF m 84 #[.val (.int x0), .val (.int x1), .val (.int x2), .val (.long y3), .second, .val (.long y4), .second, .val (.long y5), .second, .val (.int bt), .val (.long (own_mask bt)), .second, .val (.int kk), .val (.ref b1), .val (.long (6510615555426900571 : Int64)), .second, .val (.ref b2), .unset, .unset, .unset] [])
  refine Dn.st (fun t q => XS.aload X8.here hx rfl (hb hby at_84) rfl rfl  q) ?_
  show Dn p e below s _ _ _ T8 (mkF m 86 #[.val (.int x0), .val (.int x1), .val (.int x2), .val (.long y3), .second, .val (.long y4), .second, .val (.long y5), .second, .val (.int bt), .val (.long (own_mask bt)), .second, .val (.int kk), .val (.ref b1), .val (.long (6510615555426900571 : Int64)), .second, .val (.ref b2), .unset, .unset, .unset] [(.ref b2)])
  refine Dn.st (fun t q => XS.iconst X8.here hx rfl (hb hby at_86) q) ?_
  show Dn p e below s _ _ _ T8 (mkF m 87 #[.val (.int x0), .val (.int x1), .val (.int x2), .val (.long y3), .second, .val (.long y4), .second, .val (.long y5), .second, .val (.int bt), .val (.long (own_mask bt)), .second, .val (.int kk), .val (.ref b1), .val (.long (6510615555426900571 : Int64)), .second, .val (.ref b2), .unset, .unset, .unset] [(.int (3 : Int32)), (.ref b2)])
  refine Dn.st (fun t q => XS.lload X8.here hx rfl (hb hby at_87) rfl  q) ?_
  show Dn p e below s _ _ _ T8 (mkF m 89 #[.val (.int x0), .val (.int x1), .val (.int x2), .val (.long y3), .second, .val (.long y4), .second, .val (.long y5), .second, .val (.int bt), .val (.long (own_mask bt)), .second, .val (.int kk), .val (.ref b1), .val (.long (6510615555426900571 : Int64)), .second, .val (.ref b2), .unset, .unset, .unset] [(.long (6510615555426900571 : Int64)), (.int (3 : Int32)), (.ref b2)])
  obtain ⟨T9, h9, X9, e9, W9, B9, st9⟩ := aStoJ X8 hx hZ e8 A_b2 (i := 3) rfl (by decide) (g := (mkF m 89 #[.val (.int x0), .val (.int x1), .val (.int x2), .val (.long y3), .second, .val (.long y4), .second, .val (.long y5), .second, .val (.int bt), .val (.long (own_mask bt)), .second, .val (.int kk), .val (.ref b1), .val (.long (6510615555426900571 : Int64)), .second, .val (.ref b2), .unset, .unset, .unset] [(.long (6510615555426900571 : Int64)), (.int (3 : Int32)), (.ref b2)])) rfl rfl (hb hby at_89)
  have N0 := Fr.snoc X9 N0 g_b2
  have Z0 := Nat.le_trans Z0 (Keep.of_wr W9).1
  have K0 := K0.wr W9 (Or.inr sz_b2)
  have A_b1 := A_b1.other W9 ne_b1_b2
  have A_b2 : Ary Z h9 b2 .long 4 (fun x => .long (if x = 3 then (6510615555426900571 : Int64) else (if x = 2 then (6510615555426900571 : Int64) else (if x = 1 then (6510615555426900571 : Int64) else (if x = 0 then (6510615555426900571 : Int64) else (0 : Int64)))))) := B9.congr (fun j _ => own_itej)
  refine Dn.st st9 ?_
  show Dn p e below s _ _ _ T9 (mkF m 90 #[.val (.int x0), .val (.int x1), .val (.int x2), .val (.long y3), .second, .val (.long y4), .second, .val (.long y5), .second, .val (.int bt), .val (.long (own_mask bt)), .second, .val (.int kk), .val (.ref b1), .val (.long (6510615555426900571 : Int64)), .second, .val (.ref b2), .unset, .unset, .unset] [])
  have A_b1 : Ary Z h9 b1 .long 3 (fun x => .long ((own_v3 (y3 &&& (own_mask bt)) (y4 &&& (own_mask bt)) (y5 &&& (own_mask bt))) x)) := A_b1
  have A_b2 : Ary Z h9 b2 .long 4 (fun x => .long ((own_v4 (6510615555426900571 : Int64)) x)) := A_b2
  refine Dn.st (fun t q => XS.iloadN X9.here hx rfl (hb hby at_90) rfl  q) ?_
  show Dn p e below s _ _ _ T9 (mkF m 91 #[.val (.int x0), .val (.int x1), .val (.int x2), .val (.long y3), .second, .val (.long y4), .second, .val (.long y5), .second, .val (.int bt), .val (.long (own_mask bt)), .second, .val (.int kk), .val (.ref b1), .val (.long (6510615555426900571 : Int64)), .second, .val (.ref b2), .unset, .unset, .unset] [(.int x2)])
  refine Dn.st (fun t q => XS.iconst X9.here hx rfl (hb hby at_91) q) ?_
  show Dn p e below s _ _ _ T9 (mkF m 92 #[.val (.int x0), .val (.int x1), .val (.int x2), .val (.long y3), .second, .val (.long y4), .second, .val (.long y5), .second, .val (.int bt), .val (.long (own_mask bt)), .second, .val (.int kk), .val (.ref b1), .val (.long (6510615555426900571 : Int64)), .second, .val (.ref b2), .unset, .unset, .unset] [(.int (3 : Int32)), (.int x2)])
  refine Dn.st (fun t q => XS.iand X9.here hx rfl (hb hby at_92) rfl q) ?_
  show Dn p e below s _ _ _ T9 (mkF m 93 #[.val (.int x0), .val (.int x1), .val (.int x2), .val (.long y3), .second, .val (.long y4), .second, .val (.long y5), .second, .val (.int bt), .val (.long (own_mask bt)), .second, .val (.int kk), .val (.ref b1), .val (.long (6510615555426900571 : Int64)), .second, .val (.ref b2), .unset, .unset, .unset] [(.int (x2 &&& (3 : Int32)))])
  refine Dn.st (fun t q => XS.iconst X9.here hx rfl (hb hby at_93) q) ?_
  show Dn p e below s _ _ _ T9 (mkF m 94 #[.val (.int x0), .val (.int x1), .val (.int x2), .val (.long y3), .second, .val (.long y4), .second, .val (.long y5), .second, .val (.int bt), .val (.long (own_mask bt)), .second, .val (.int kk), .val (.ref b1), .val (.long (6510615555426900571 : Int64)), .second, .val (.ref b2), .unset, .unset, .unset] [(.int (3 : Int32)), (.int (x2 &&& (3 : Int32)))])
  refine Dn.st (fun t q => iremM X9 hx rfl (hb hby at_94) rfl (by decide) q) ?_
  show Dn p e below s _ _ _ T9 (mkF m 95 #[.val (.int x0), .val (.int x1), .val (.int x2), .val (.long y3), .second, .val (.long y4), .second, .val (.long y5), .second, .val (.int bt), .val (.long (own_mask bt)), .second, .val (.int kk), .val (.ref b1), .val (.long (6510615555426900571 : Int64)), .second, .val (.ref b2), .unset, .unset, .unset] [(.int ((x2 &&& (3 : Int32)) % (3 : Int32)))])
  generalize hof : ((x2 &&& (3 : Int32)) % (3 : Int32)) = of
  show Dn p e below s _ _ _ T9 (mkF m 95 #[.val (.int x0), .val (.int x1), .val (.int x2), .val (.long y3), .second, .val (.long y4), .second, .val (.long y5), .second, .val (.int bt), .val (.long (own_mask bt)), .second, .val (.int kk), .val (.ref b1), .val (.long (6510615555426900571 : Int64)), .second, .val (.ref b2), .unset, .unset, .unset] [(.int of)])
  obtain ⟨o1, ho1, ho3⟩ := own_off hof
  refine Dn.st (fun t q => XS.istore X9.here hx rfl (hb hby at_95) rfl (l' := #[.val (.int x0), .val (.int x1), .val (.int x2), .val (.long y3), .second, .val (.long y4), .second, .val (.long y5), .second, .val (.int bt), .val (.long (own_mask bt)), .second, .val (.int kk), .val (.ref b1), .val (.long (6510615555426900571 : Int64)), .second, .val (.ref b2), .val (.int of), .unset, .unset]) rfl q) ?_
  show Dn p e below s _ _ _ T9 (mkF m 97 #[.val (.int x0), .val (.int x1), .val (.int x2), .val (.long y3), .second, .val (.long y4), .second, .val (.long y5), .second, .val (.int bt), .val (.long (own_mask bt)), .second, .val (.int kk), .val (.ref b1), .val (.long (6510615555426900571 : Int64)), .second, .val (.ref b2), .val (.int of), .unset, .unset] [])
  refine Dn.st (fun t q => XS.iloadN X9.here hx rfl (hb hby at_97) rfl  q) ?_
  show Dn p e below s _ _ _ T9 (mkF m 98 #[.val (.int x0), .val (.int x1), .val (.int x2), .val (.long y3), .second, .val (.long y4), .second, .val (.long y5), .second, .val (.int bt), .val (.long (own_mask bt)), .second, .val (.int kk), .val (.ref b1), .val (.long (6510615555426900571 : Int64)), .second, .val (.ref b2), .val (.int of), .unset, .unset] [(.int x2)])
  refine Dn.st (fun t q => XS.iconst X9.here hx rfl (hb hby at_98) q) ?_
  show Dn p e below s _ _ _ T9 (mkF m 99 #[.val (.int x0), .val (.int x1), .val (.int x2), .val (.long y3), .second, .val (.long y4), .second, .val (.long y5), .second, .val (.int bt), .val (.long (own_mask bt)), .second, .val (.int kk), .val (.ref b1), .val (.long (6510615555426900571 : Int64)), .second, .val (.ref b2), .val (.int of), .unset, .unset] [(.int (2 : Int32)), (.int x2)])
  refine Dn.st (fun t q => XS.iushr X9.here hx rfl (hb hby at_99) rfl q) ?_
  show Dn p e below s _ _ _ T9 (mkF m 100 #[.val (.int x0), .val (.int x1), .val (.int x2), .val (.long y3), .second, .val (.long y4), .second, .val (.long y5), .second, .val (.int bt), .val (.long (own_mask bt)), .second, .val (.int kk), .val (.ref b1), .val (.long (6510615555426900571 : Int64)), .second, .val (.ref b2), .val (.int of), .unset, .unset] [(.int ((x2.toUInt32 >>> ((2 : Int32) &&& 31).toUInt32).toInt32))])
  refine Dn.st (fun t q => XS.iconst X9.here hx rfl (hb hby at_100) q) ?_
  show Dn p e below s _ _ _ T9 (mkF m 101 #[.val (.int x0), .val (.int x1), .val (.int x2), .val (.long y3), .second, .val (.long y4), .second, .val (.long y5), .second, .val (.int bt), .val (.long (own_mask bt)), .second, .val (.int kk), .val (.ref b1), .val (.long (6510615555426900571 : Int64)), .second, .val (.ref b2), .val (.int of), .unset, .unset] [(.int (3 : Int32)), (.int ((x2.toUInt32 >>> ((2 : Int32) &&& 31).toUInt32).toInt32))])
  refine Dn.st (fun t q => XS.iand X9.here hx rfl (hb hby at_101) rfl q) ?_
  show Dn p e below s _ _ _ T9 (mkF m 102 #[.val (.int x0), .val (.int x1), .val (.int x2), .val (.long y3), .second, .val (.long y4), .second, .val (.long y5), .second, .val (.int bt), .val (.long (own_mask bt)), .second, .val (.int kk), .val (.ref b1), .val (.long (6510615555426900571 : Int64)), .second, .val (.ref b2), .val (.int of), .unset, .unset] [(.int (((x2.toUInt32 >>> ((2 : Int32) &&& 31).toUInt32).toInt32) &&& (3 : Int32)))])
  refine Dn.st (fun t q => XS.iconst X9.here hx rfl (hb hby at_102) q) ?_
  show Dn p e below s _ _ _ T9 (mkF m 103 #[.val (.int x0), .val (.int x1), .val (.int x2), .val (.long y3), .second, .val (.long y4), .second, .val (.long y5), .second, .val (.int bt), .val (.long (own_mask bt)), .second, .val (.int kk), .val (.ref b1), .val (.long (6510615555426900571 : Int64)), .second, .val (.ref b2), .val (.int of), .unset, .unset] [(.int (3 : Int32)), (.int (((x2.toUInt32 >>> ((2 : Int32) &&& 31).toUInt32).toInt32) &&& (3 : Int32)))])
  refine Dn.st (fun t q => XS.iload X9.here hx rfl (hb hby at_103) rfl  q) ?_
  show Dn p e below s _ _ _ T9 (mkF m 105 #[.val (.int x0), .val (.int x1), .val (.int x2), .val (.long y3), .second, .val (.long y4), .second, .val (.long y5), .second, .val (.int bt), .val (.long (own_mask bt)), .second, .val (.int kk), .val (.ref b1), .val (.long (6510615555426900571 : Int64)), .second, .val (.ref b2), .val (.int of), .unset, .unset] [(.int of), (.int (3 : Int32)), (.int (((x2.toUInt32 >>> ((2 : Int32) &&& 31).toUInt32).toInt32) &&& (3 : Int32)))])
  refine Dn.st (fun t q => XS.isub X9.here hx rfl (hb hby at_105) rfl q) ?_
  show Dn p e below s _ _ _ T9 (mkF m 106 #[.val (.int x0), .val (.int x1), .val (.int x2), .val (.long y3), .second, .val (.long y4), .second, .val (.long y5), .second, .val (.int bt), .val (.long (own_mask bt)), .second, .val (.int kk), .val (.ref b1), .val (.long (6510615555426900571 : Int64)), .second, .val (.ref b2), .val (.int of), .unset, .unset] [(.int ((3 : Int32) - of)), (.int (((x2.toUInt32 >>> ((2 : Int32) &&& 31).toUInt32).toInt32) &&& (3 : Int32)))])
  obtain ⟨_, _, ⟨T10, Lq10, kq_10, nq_10⟩, -, X10, ⟨Lc10, hQ10, lq10, yq10, zq10⟩, st10⟩ := Jvm.LawKit.callS X9 hx (y := (⟨"java/lang/Math", "min", "(II)I"⟩ : MethodName)) hown (mvT hZ (hw _ (List.mem_of_getElem? (i := 3) rfl))) (mvT hZ (hw _ (List.mem_of_getElem? (i := 4) rfl))) (mvT hZ (hw _ (List.mem_of_getElem? (i := 5) rfl))) (mvT hZ (hw _ (List.mem_of_getElem? (i := 6) rfl))) (by decide) (backOf (W := 0) (rm1 l Z a0 hw [] (((x2.toUInt32 >>> ((2 : Int32) &&& 31).toUInt32).toInt32) &&& (3 : Int32)) ((3 : Int32) - of)  h9 n0 Z0 ) hZ (hw _ (List.mem_of_getElem? (i := 6) rfl)) (hw _ (List.mem_of_getElem? (i := 5) rfl)) (by decide) (by decide)) (g := (mkF m 106 #[.val (.int x0), .val (.int x1), .val (.int x2), .val (.long y3), .second, .val (.long y4), .second, .val (.long y5), .second, .val (.int bt), .val (.long (own_mask bt)), .second, .val (.int kk), .val (.ref b1), .val (.long (6510615555426900571 : Int64)), .second, .val (.ref b2), .val (.int of), .unset, .unset] [(.int ((3 : Int32) - of)), (.int (((x2.toUInt32 >>> ((2 : Int32) &&& 31).toUInt32).toInt32) &&& (3 : Int32)))])) rfl (by rw [hml]; rfl) (argsL := [(.int (((x2.toUInt32 >>> ((2 : Int32) &&& 31).toUInt32).toInt32) &&& (3 : Int32))), (.int ((3 : Int32) - of))]) (rest := []) (lenOf pd_2 rfl) rfl (by show 2 * 0 + _ ≤ _; exact Nat.le_of_eq rfl) (hb hby at_106) (fun _ _ => ⟨rfl, e9, (by decide : 2 + 0 ≤ _), (by decide : 7 + 0 ≤ _)⟩)
  dsimp only [Pt.U, Pt.locs, Pt.cells, Pt.slots] at X10 lq10 yq10 zq10 st10 hQ10
  subst lq10 yq10 zq10
  obtain ⟨rfl, N10q, hq10⟩ := hQ10
  have N0 := Fr.app N0 N10q
  have e10 : T10.heap = h9 := hq10
  refine Dn.st st10 ?_
  show Dn p e below s _ _ _ T10 (mkF m 109 #[.val (.int x0), .val (.int x1), .val (.int x2), .val (.long y3), .second, .val (.long y4), .second, .val (.long y5), .second, .val (.int bt), .val (.long (own_mask bt)), .second, .val (.int kk), .val (.ref b1), .val (.long (6510615555426900571 : Int64)), .second, .val (.ref b2), .val (.int of), .unset, .unset] [(.int (own_min (((x2.toUInt32 >>> ((2 : Int32) &&& 31).toUInt32).toInt32) &&& (3 : Int32)) ((3 : Int32) - of)))])
  generalize hnq : (own_min (((x2.toUInt32 >>> ((2 : Int32) &&& 31).toUInt32).toInt32) &&& (3 : Int32)) ((3 : Int32) - of)) = nq
  show Dn p e below s _ _ _ T10 (mkF m 109 #[.val (.int x0), .val (.int x1), .val (.int x2), .val (.long y3), .second, .val (.long y4), .second, .val (.long y5), .second, .val (.int bt), .val (.long (own_mask bt)), .second, .val (.int kk), .val (.ref b1), .val (.long (6510615555426900571 : Int64)), .second, .val (.ref b2), .val (.int of), .unset, .unset] [(.int nq)])
  obtain ⟨q1, hq1, hq3⟩ := own_cnt ho1 ho3 hnq
  refine Dn.st (fun t q => XS.istore X10.here hx rfl (hb hby at_109) rfl (l' := #[.val (.int x0), .val (.int x1), .val (.int x2), .val (.long y3), .second, .val (.long y4), .second, .val (.long y5), .second, .val (.int bt), .val (.long (own_mask bt)), .second, .val (.int kk), .val (.ref b1), .val (.long (6510615555426900571 : Int64)), .second, .val (.ref b2), .val (.int of), .val (.int nq), .unset]) rfl q) ?_
  show Dn p e below s _ _ _ T10 (mkF m 111 #[.val (.int x0), .val (.int x1), .val (.int x2), .val (.long y3), .second, .val (.long y4), .second, .val (.long y5), .second, .val (.int bt), .val (.long (own_mask bt)), .second, .val (.int kk), .val (.ref b1), .val (.long (6510615555426900571 : Int64)), .second, .val (.ref b2), .val (.int of), .val (.int nq), .unset] [])
  obtain ⟨T11, h11, X11, e11, E11, A11, D11, -, st11⟩ := newO X10 hx hZ hown (hw _ (List.mem_of_getElem? (i := 7) rfl)) (hw _ (List.mem_of_getElem? (i := 8) rfl)) (hw _ (List.mem_of_getElem? (i := 9) rfl)) e10 (g := (mkF m 111 #[.val (.int x0), .val (.int x1), .val (.int x2), .val (.long y3), .second, .val (.long y4), .second, .val (.long y5), .second, .val (.int bt), .val (.long (own_mask bt)), .second, .val (.int kk), .val (.ref b1), .val (.long (6510615555426900571 : Int64)), .second, .val (.ref b2), .val (.int of), .val (.int nq), .unset] [])) rfl (hb hby at_111) (by decide) (by decide)
  obtain ⟨b3, g11⟩ : ∃ z, z = h9.size := ⟨_, rfl⟩
  rw [← g11] at A11 D11 st11
  have ne_b1_b3 : b1 ≠ b3 := own_ne A_b1.lt g11
  have ne_b2_b3 : b2 ≠ b3 := own_ne A_b2.lt g11
  have g_b3 : n0 ≤ b3 := Nat.le_trans Z0 (Nat.le_of_eq g11.symm)
  have sz_b3 : h0.size ≤ b3 := Nat.le_trans K0.1 (Nat.le_of_eq g11.symm)
  have Z0 := Nat.le_trans Z0 E11.1
  have K0 := K0.ext E11
  have A_b1 := A_b1.ext E11
  have A_b2 := A_b2.ext E11
  have E_b3 := A11
  have F_count_b3 : Fld Z h11 b3 "com/example/hindcut/hindcut/PackedNumbers" "count" "I" (.int (0 : Int32)) := D11 (Or.inr (hw _ (List.mem_of_getElem? (i := 17) rfl))) (ty := .int) (by decide)
  have F_bits_b3 : Fld Z h11 b3 "com/example/hindcut/hindcut/PackedNumbers" "bits" "I" (.int (0 : Int32)) := D11 (Or.inr (hw _ (List.mem_of_getElem? (i := 19) rfl))) (ty := .int) (by decide)
  have F_mask_b3 : Fld Z h11 b3 "com/example/hindcut/hindcut/PackedNumbers" "mask" "J" (.long (0 : Int64)) := D11 (Or.inr (hw _ (List.mem_of_getElem? (i := 22) rfl))) (ty := .long) (by decide)
  have F_words_b3 : Fld Z h11 b3 "com/example/hindcut/hindcut/PackedNumbers" "words" "[J" .null := D11 (Or.inr (hw _ (List.mem_of_getElem? (i := 25) rfl))) (ty := (.array .long)) (by decide)
  refine Dn.st st11 ?_
  show Dn p e below s _ _ _ T11 (mkF m 114 #[.val (.int x0), .val (.int x1), .val (.int x2), .val (.long y3), .second, .val (.long y4), .second, .val (.long y5), .second, .val (.int bt), .val (.long (own_mask bt)), .second, .val (.int kk), .val (.ref b1), .val (.long (6510615555426900571 : Int64)), .second, .val (.ref b2), .val (.int of), .val (.int nq), .unset] [(.ref b3)])
  refine Dn.st (fun t q => XS.dup X11.here hx rfl (hb hby at_114) rfl rfl q) ?_
  show Dn p e below s _ _ _ T11 (mkF m 115 #[.val (.int x0), .val (.int x1), .val (.int x2), .val (.long y3), .second, .val (.long y4), .second, .val (.long y5), .second, .val (.int bt), .val (.long (own_mask bt)), .second, .val (.int kk), .val (.ref b1), .val (.long (6510615555426900571 : Int64)), .second, .val (.ref b2), .val (.int of), .val (.int nq), .unset] [(.ref b3), (.ref b3)])
  refine Dn.st (fun t q => XS.iload X11.here hx rfl (hb hby at_115) rfl  q) ?_
  show Dn p e below s _ _ _ T11 (mkF m 117 #[.val (.int x0), .val (.int x1), .val (.int x2), .val (.long y3), .second, .val (.long y4), .second, .val (.long y5), .second, .val (.int bt), .val (.long (own_mask bt)), .second, .val (.int kk), .val (.ref b1), .val (.long (6510615555426900571 : Int64)), .second, .val (.ref b2), .val (.int of), .val (.int nq), .unset] [(.int kk), (.ref b3), (.ref b3)])
  refine Dn.st (fun t q => XS.iconst X11.here hx rfl (hb hby at_117) q) ?_
  show Dn p e below s _ _ _ T11 (mkF m 118 #[.val (.int x0), .val (.int x1), .val (.int x2), .val (.long y3), .second, .val (.long y4), .second, .val (.long y5), .second, .val (.int bt), .val (.long (own_mask bt)), .second, .val (.int kk), .val (.ref b1), .val (.long (6510615555426900571 : Int64)), .second, .val (.ref b2), .val (.int of), .val (.int nq), .unset] [(.int (3 : Int32)), (.int kk), (.ref b3), (.ref b3)])
  refine Dn.st (fun t q => XS.iadd X11.here hx rfl (hb hby at_118) rfl q) ?_
  show Dn p e below s _ _ _ T11 (mkF m 119 #[.val (.int x0), .val (.int x1), .val (.int x2), .val (.long y3), .second, .val (.long y4), .second, .val (.long y5), .second, .val (.int bt), .val (.long (own_mask bt)), .second, .val (.int kk), .val (.ref b1), .val (.long (6510615555426900571 : Int64)), .second, .val (.ref b2), .val (.int of), .val (.int nq), .unset] [(.int (kk + (3 : Int32))), (.ref b3), (.ref b3)])
  refine Dn.st (fun t q => XS.iload X11.here hx rfl (hb hby at_119) rfl  q) ?_
  show Dn p e below s _ _ _ T11 (mkF m 121 #[.val (.int x0), .val (.int x1), .val (.int x2), .val (.long y3), .second, .val (.long y4), .second, .val (.long y5), .second, .val (.int bt), .val (.long (own_mask bt)), .second, .val (.int kk), .val (.ref b1), .val (.long (6510615555426900571 : Int64)), .second, .val (.ref b2), .val (.int of), .val (.int nq), .unset] [(.int bt), (.int (kk + (3 : Int32))), (.ref b3), (.ref b3)])
  have Zq12 := Z0
  have Kq12 := K0
  have lt_b1_12 : b1 < h11.size := A_b1.lt
  have lt_b2_12 : b2 < h11.size := A_b2.lt
  have lt_b3_12 : b3 < h11.size := E_b3.lt
  obtain ⟨_, _, ⟨T12, Lq12, kq_12, nq_12⟩, -, X12, ⟨Lc12, hQ12, lq12, yq12, zq12⟩, st12⟩ := X11.specialBack hx (y := (⟨"com/example/hindcut/hindcut/PackedNumbers", "<init>", "(II)V"⟩ : MethodName)) rfl hown (mvT hZ (hw _ (List.mem_of_getElem? (i := 10) rfl))) (mvT hZ (hw _ (List.mem_of_getElem? (i := 11) rfl))) (mvT hZ (hw _ (List.mem_of_getElem? (i := 12) rfl))) (by decide) (backOf (W := 1) (rm2 l Z a0 hw [] b3 (kk + (3 : Int32)) bt (.int (0 : Int32)) (.int (0 : Int32)) (.long (0 : Int64)) .null (kn + 3) bb h11 n0 Z0 E_b3 F_count_b3 F_bits_b3 F_mask_b3 F_words_b3 g_b3 (own_ix hkn (i := 3) rfl (by omega)) hxb hb1 hb2 (by omega)) hZ (hw _ (List.mem_of_getElem? (i := 12) rfl)) (hw _ (List.mem_of_getElem? (i := 9) rfl)) (by decide) (by decide)) (g := (mkF m 121 #[.val (.int x0), .val (.int x1), .val (.int x2), .val (.long y3), .second, .val (.long y4), .second, .val (.long y5), .second, .val (.int bt), .val (.long (own_mask bt)), .second, .val (.int kk), .val (.ref b1), .val (.long (6510615555426900571 : Int64)), .second, .val (.ref b2), .val (.int of), .val (.int nq), .unset] [(.int bt), (.int (kk + (3 : Int32))), (.ref b3), (.ref b3)])) rfl (by rw [hml]; rfl) (Steps.refl _) (a := b3) (argsL := [(.int (kk + (3 : Int32))), (.int bt)]) (rest := [(.ref b3)]) (lenOf pd_3 rfl) rfl (by show 2 * 0 + _ ≤ _; exact Nat.le_of_eq rfl) (hb hby at_121) (fun _ _ => ⟨rfl, e11, (by decide : 3 + 1 ≤ _), (by decide : 11 + 67 ≤ _)⟩)
  dsimp only [Pt.U, Pt.locs, Pt.cells, Pt.slots] at X12 lq12 yq12 zq12 st12 hQ12
  subst lq12 yq12 zq12
  obtain ⟨rfl, N12q, K12, F_bits, F_mask, ar, le12, F_words, A⟩ := hQ12
  have N0 := Fr.app N0 N12q
  have Z0 := Nat.le_trans Z0 K12.1
  have K0 := K0.trans K12 (allS (Or.inr sz_b3) all0)
  have A_b1 := A_b1.keep K12 (ninS ne_b1_b3 nin0)
  have A_b2 := A_b2.keep K12 (ninS ne_b2_b3 nin0)
  have E_b3 := E_b3.keep K12
  have ne_b1_ar : b1 ≠ ar := own_ne' lt_b1_12 le12
  have ne_b2_ar : b2 ≠ ar := own_ne' lt_b2_12 le12
  have ne_b3_ar : b3 ≠ ar := own_ne' lt_b3_12 le12
  have g_ar : n0 ≤ ar := Nat.le_trans Zq12 le12
  have sz_ar : h0.size ≤ ar := Nat.le_trans Kq12.1 le12
  refine Dn.tr st12 ?_
  show Dn p e below s _ _ _ T12 (mkF m 124 #[.val (.int x0), .val (.int x1), .val (.int x2), .val (.long y3), .second, .val (.long y4), .second, .val (.long y5), .second, .val (.int bt), .val (.long (own_mask bt)), .second, .val (.int kk), .val (.ref b1), .val (.long (6510615555426900571 : Int64)), .second, .val (.ref b2), .val (.int of), .val (.int nq), .unset] [(.ref b3)])
  refine Dn.st (fun t q => XS.astore X12.here hx rfl (hb hby at_124) rfl rfl (l' := #[.val (.int x0), .val (.int x1), .val (.int x2), .val (.long y3), .second, .val (.long y4), .second, .val (.long y5), .second, .val (.int bt), .val (.long (own_mask bt)), .second, .val (.int kk), .val (.ref b1), .val (.long (6510615555426900571 : Int64)), .second, .val (.ref b2), .val (.int of), .val (.int nq), .val (.ref b3)]) rfl q) ?_
  show Dn p e below s _ _ _ T12 (mkF m 126 #[.val (.int x0), .val (.int x1), .val (.int x2), .val (.long y3), .second, .val (.long y4), .second, .val (.long y5), .second, .val (.int bt), .val (.long (own_mask bt)), .second, .val (.int kk), .val (.ref b1), .val (.long (6510615555426900571 : Int64)), .second, .val (.ref b2), .val (.int of), .val (.int nq), .val (.ref b3)] [])
  refine Dn.st (fun t q => XS.aload X12.here hx rfl (hb hby at_126) rfl rfl  q) ?_
  show Dn p e below s _ _ _ T12 (mkF m 128 #[.val (.int x0), .val (.int x1), .val (.int x2), .val (.long y3), .second, .val (.long y4), .second, .val (.long y5), .second, .val (.int bt), .val (.long (own_mask bt)), .second, .val (.int kk), .val (.ref b1), .val (.long (6510615555426900571 : Int64)), .second, .val (.ref b2), .val (.int of), .val (.int nq), .val (.ref b3)] [(.ref b3)])
  refine Dn.st (fun t q => XS.iload X12.here hx rfl (hb hby at_128) rfl  q) ?_
  show Dn p e below s _ _ _ T12 (mkF m 130 #[.val (.int x0), .val (.int x1), .val (.int x2), .val (.long y3), .second, .val (.long y4), .second, .val (.long y5), .second, .val (.int bt), .val (.long (own_mask bt)), .second, .val (.int kk), .val (.ref b1), .val (.long (6510615555426900571 : Int64)), .second, .val (.ref b2), .val (.int of), .val (.int nq), .val (.ref b3)] [(.int kk), (.ref b3)])
  refine Dn.st (fun t q => XS.aload X12.here hx rfl (hb hby at_130) rfl rfl  q) ?_
  show Dn p e below s _ _ _ T12 (mkF m 132 #[.val (.int x0), .val (.int x1), .val (.int x2), .val (.long y3), .second, .val (.long y4), .second, .val (.long y5), .second, .val (.int bt), .val (.long (own_mask bt)), .second, .val (.int kk), .val (.ref b1), .val (.long (6510615555426900571 : Int64)), .second, .val (.ref b2), .val (.int of), .val (.int nq), .val (.ref b3)] [(.ref b1), (.int kk), (.ref b3)])
  refine Dn.st (fun t q => XS.iconst X12.here hx rfl (hb hby at_132) q) ?_
  show Dn p e below s _ _ _ T12 (mkF m 133 #[.val (.int x0), .val (.int x1), .val (.int x2), .val (.long y3), .second, .val (.long y4), .second, .val (.long y5), .second, .val (.int bt), .val (.long (own_mask bt)), .second, .val (.int kk), .val (.ref b1), .val (.long (6510615555426900571 : Int64)), .second, .val (.ref b2), .val (.int of), .val (.int nq), .val (.ref b3)] [(.int (0 : Int32)), (.ref b1), (.int kk), (.ref b3)])
  refine Dn.st (aLoadJ (w := (fun x => ((own_v3 (y3 &&& (own_mask bt)) (y4 &&& (own_mask bt)) (y5 &&& (own_mask bt))) x))) X12 hx hZ rfl A_b1 (i := 0) rfl (by decide) (g := (mkF m 133 #[.val (.int x0), .val (.int x1), .val (.int x2), .val (.long y3), .second, .val (.long y4), .second, .val (.long y5), .second, .val (.int bt), .val (.long (own_mask bt)), .second, .val (.int kk), .val (.ref b1), .val (.long (6510615555426900571 : Int64)), .second, .val (.ref b2), .val (.int of), .val (.int nq), .val (.ref b3)] [(.int (0 : Int32)), (.ref b1), (.int kk), (.ref b3)])) rfl rfl (hb hby at_133)) ?_
  show Dn p e below s _ _ _ T12 (mkF m 134 #[.val (.int x0), .val (.int x1), .val (.int x2), .val (.long y3), .second, .val (.long y4), .second, .val (.long y5), .second, .val (.int bt), .val (.long (own_mask bt)), .second, .val (.int kk), .val (.ref b1), .val (.long (6510615555426900571 : Int64)), .second, .val (.ref b2), .val (.int of), .val (.int nq), .val (.ref b3)] [(.long (y3 &&& (own_mask bt))), (.int kk), (.ref b3)])
  obtain ⟨cq13, kq13, q13a, q13b, q13c⟩ := isOf hZ rfl E_b3
  obtain ⟨_, _, ⟨T13, Lq13, kq_13, nq_13⟩, -, X13, ⟨Lc13, hQ13, lq13, yq13, zq13⟩, st13⟩ := X12.virtualBack hx (y := (⟨"com/example/hindcut/hindcut/PackedNumbers", "with", "(IJ)Lcom/example/hindcut/hindcut/PackedNumbers;"⟩ : MethodName)) (z := (⟨"com/example/hindcut/hindcut/PackedNumbers", "with", "(IJ)Lcom/example/hindcut/hindcut/PackedNumbers;"⟩ : MethodName)) hown (mvT hZ (hw _ (List.mem_of_getElem? (i := 26) rfl))) (mvT hZ (hw _ (List.mem_of_getElem? (i := 27) rfl))) (notFace_of_selects (args := #[]) (mvT hZ (hw _ (List.mem_of_getElem? (i := 29) rfl)))) (mvT hZ (hw _ (List.mem_of_getElem? (i := 29) rfl))) (mvT hZ (hw _ (List.mem_of_getElem? (i := 28) rfl))) (by decide) (backOf (W := 0) (rm4 l Z a0 hw [] b3 kk (y3 &&& (own_mask bt)) bt (own_mask bt) ar (own_len (kn + 3) bb) (fun _ => (0 : Int64)) kn bb T12.heap n0 Z0 E_b3 F_bits F_mask F_words A hkn hxb hb2 (by omega) (own_room1 hb1 (by omega)) ne_b3_ar g_ar (own_hold hxb hb1 hb2 _)) hZ (hw _ (List.mem_of_getElem? (i := 30) rfl)) (hw _ (List.mem_of_getElem? (i := 9) rfl)) (by decide) (by decide)) q13a q13c (g := (mkF m 134 #[.val (.int x0), .val (.int x1), .val (.int x2), .val (.long y3), .second, .val (.long y4), .second, .val (.long y5), .second, .val (.int bt), .val (.long (own_mask bt)), .second, .val (.int kk), .val (.ref b1), .val (.long (6510615555426900571 : Int64)), .second, .val (.ref b2), .val (.int of), .val (.int nq), .val (.ref b3)] [(.long (y3 &&& (own_mask bt))), (.int kk), (.ref b3)])) rfl (by rw [hml]; rfl) (Steps.refl _) (argsL := [(.int kk), (.long (y3 &&& (own_mask bt)))]) (rest := []) (lenOf pd_4 rfl) rfl (by show 2 * 0 + _ ≤ _; exact Nat.le_of_eq rfl) (hb hby at_134) (fun _ _ => ⟨rfl, rfl, (by decide : 4 + 0 ≤ _), (by decide : 78 + 0 ≤ _)⟩)
  dsimp only [Pt.U, Pt.locs, Pt.cells, Pt.slots] at X13 lq13 yq13 zq13 st13 hQ13
  subst lq13 yq13 zq13
  obtain ⟨rfl, N13q, K13, A⟩ := hQ13
  have N0 := Fr.app N0 N13q
  have Z0 := Nat.le_trans Z0 K13.1
  have K0 := K0.trans K13 (allS (Or.inr sz_ar) all0)
  have A_b1 := A_b1.keep K13 (ninS ne_b1_ar nin0)
  have A_b2 := A_b2.keep K13 (ninS ne_b2_ar nin0)
  have E_b3 := E_b3.keep K13
  have F_bits := F_bits.keep K13 (ninS ne_b3_ar nin0)
  have F_mask := F_mask.keep K13 (ninS ne_b3_ar nin0)
  have F_words := F_words.keep K13 (ninS ne_b3_ar nin0)
  refine Dn.tr st13 ?_
  show Dn p e below s _ _ _ T13 (mkF m 137 #[.val (.int x0), .val (.int x1), .val (.int x2), .val (.long y3), .second, .val (.long y4), .second, .val (.long y5), .second, .val (.int bt), .val (.long (own_mask bt)), .second, .val (.int kk), .val (.ref b1), .val (.long (6510615555426900571 : Int64)), .second, .val (.ref b2), .val (.int of), .val (.int nq), .val (.ref b3)] [(.ref b3)])
  refine Dn.st (fun t q => XS.astore X13.here hx rfl (hb hby at_137) rfl rfl (l' := #[.val (.int x0), .val (.int x1), .val (.int x2), .val (.long y3), .second, .val (.long y4), .second, .val (.long y5), .second, .val (.int bt), .val (.long (own_mask bt)), .second, .val (.int kk), .val (.ref b1), .val (.long (6510615555426900571 : Int64)), .second, .val (.ref b2), .val (.int of), .val (.int nq), .val (.ref b3)]) rfl q) ?_
  show Dn p e below s _ _ _ T13 (mkF m 139 #[.val (.int x0), .val (.int x1), .val (.int x2), .val (.long y3), .second, .val (.long y4), .second, .val (.long y5), .second, .val (.int bt), .val (.long (own_mask bt)), .second, .val (.int kk), .val (.ref b1), .val (.long (6510615555426900571 : Int64)), .second, .val (.ref b2), .val (.int of), .val (.int nq), .val (.ref b3)] [])
  refine Dn.st (fun t q => XS.aload X13.here hx rfl (hb hby at_139) rfl rfl  q) ?_
  show Dn p e below s _ _ _ T13 (mkF m 141 #[.val (.int x0), .val (.int x1), .val (.int x2), .val (.long y3), .second, .val (.long y4), .second, .val (.long y5), .second, .val (.int bt), .val (.long (own_mask bt)), .second, .val (.int kk), .val (.ref b1), .val (.long (6510615555426900571 : Int64)), .second, .val (.ref b2), .val (.int of), .val (.int nq), .val (.ref b3)] [(.ref b3)])
  refine Dn.st (fun t q => XS.iload X13.here hx rfl (hb hby at_141) rfl  q) ?_
  show Dn p e below s _ _ _ T13 (mkF m 143 #[.val (.int x0), .val (.int x1), .val (.int x2), .val (.long y3), .second, .val (.long y4), .second, .val (.long y5), .second, .val (.int bt), .val (.long (own_mask bt)), .second, .val (.int kk), .val (.ref b1), .val (.long (6510615555426900571 : Int64)), .second, .val (.ref b2), .val (.int of), .val (.int nq), .val (.ref b3)] [(.int kk), (.ref b3)])
  refine Dn.st (fun t q => XS.iconst X13.here hx rfl (hb hby at_143) q) ?_
  show Dn p e below s _ _ _ T13 (mkF m 144 #[.val (.int x0), .val (.int x1), .val (.int x2), .val (.long y3), .second, .val (.long y4), .second, .val (.long y5), .second, .val (.int bt), .val (.long (own_mask bt)), .second, .val (.int kk), .val (.ref b1), .val (.long (6510615555426900571 : Int64)), .second, .val (.ref b2), .val (.int of), .val (.int nq), .val (.ref b3)] [(.int (1 : Int32)), (.int kk), (.ref b3)])
  refine Dn.st (fun t q => XS.iadd X13.here hx rfl (hb hby at_144) rfl q) ?_
  show Dn p e below s _ _ _ T13 (mkF m 145 #[.val (.int x0), .val (.int x1), .val (.int x2), .val (.long y3), .second, .val (.long y4), .second, .val (.long y5), .second, .val (.int bt), .val (.long (own_mask bt)), .second, .val (.int kk), .val (.ref b1), .val (.long (6510615555426900571 : Int64)), .second, .val (.ref b2), .val (.int of), .val (.int nq), .val (.ref b3)] [(.int (kk + (1 : Int32))), (.ref b3)])
  refine Dn.st (fun t q => XS.aload X13.here hx rfl (hb hby at_145) rfl rfl  q) ?_
  show Dn p e below s _ _ _ T13 (mkF m 147 #[.val (.int x0), .val (.int x1), .val (.int x2), .val (.long y3), .second, .val (.long y4), .second, .val (.long y5), .second, .val (.int bt), .val (.long (own_mask bt)), .second, .val (.int kk), .val (.ref b1), .val (.long (6510615555426900571 : Int64)), .second, .val (.ref b2), .val (.int of), .val (.int nq), .val (.ref b3)] [(.ref b1), (.int (kk + (1 : Int32))), (.ref b3)])
  refine Dn.st (fun t q => XS.iconst X13.here hx rfl (hb hby at_147) q) ?_
  show Dn p e below s _ _ _ T13 (mkF m 148 #[.val (.int x0), .val (.int x1), .val (.int x2), .val (.long y3), .second, .val (.long y4), .second, .val (.long y5), .second, .val (.int bt), .val (.long (own_mask bt)), .second, .val (.int kk), .val (.ref b1), .val (.long (6510615555426900571 : Int64)), .second, .val (.ref b2), .val (.int of), .val (.int nq), .val (.ref b3)] [(.int (1 : Int32)), (.ref b1), (.int (kk + (1 : Int32))), (.ref b3)])
  refine Dn.st (aLoadJ (w := (fun x => ((own_v3 (y3 &&& (own_mask bt)) (y4 &&& (own_mask bt)) (y5 &&& (own_mask bt))) x))) X13 hx hZ rfl A_b1 (i := 1) rfl (by decide) (g := (mkF m 148 #[.val (.int x0), .val (.int x1), .val (.int x2), .val (.long y3), .second, .val (.long y4), .second, .val (.long y5), .second, .val (.int bt), .val (.long (own_mask bt)), .second, .val (.int kk), .val (.ref b1), .val (.long (6510615555426900571 : Int64)), .second, .val (.ref b2), .val (.int of), .val (.int nq), .val (.ref b3)] [(.int (1 : Int32)), (.ref b1), (.int (kk + (1 : Int32))), (.ref b3)])) rfl rfl (hb hby at_148)) ?_
  show Dn p e below s _ _ _ T13 (mkF m 149 #[.val (.int x0), .val (.int x1), .val (.int x2), .val (.long y3), .second, .val (.long y4), .second, .val (.long y5), .second, .val (.int bt), .val (.long (own_mask bt)), .second, .val (.int kk), .val (.ref b1), .val (.long (6510615555426900571 : Int64)), .second, .val (.ref b2), .val (.int of), .val (.int nq), .val (.ref b3)] [(.long (y4 &&& (own_mask bt))), (.int (kk + (1 : Int32))), (.ref b3)])
  obtain ⟨cq14, kq14, q14a, q14b, q14c⟩ := isOf hZ rfl E_b3
  obtain ⟨_, _, ⟨T14, Lq14, kq_14, nq_14⟩, -, X14, ⟨Lc14, hQ14, lq14, yq14, zq14⟩, st14⟩ := X13.virtualBack hx (y := (⟨"com/example/hindcut/hindcut/PackedNumbers", "with", "(IJ)Lcom/example/hindcut/hindcut/PackedNumbers;"⟩ : MethodName)) (z := (⟨"com/example/hindcut/hindcut/PackedNumbers", "with", "(IJ)Lcom/example/hindcut/hindcut/PackedNumbers;"⟩ : MethodName)) hown (mvT hZ (hw _ (List.mem_of_getElem? (i := 26) rfl))) (mvT hZ (hw _ (List.mem_of_getElem? (i := 27) rfl))) (notFace_of_selects (args := #[]) (mvT hZ (hw _ (List.mem_of_getElem? (i := 29) rfl)))) (mvT hZ (hw _ (List.mem_of_getElem? (i := 29) rfl))) (mvT hZ (hw _ (List.mem_of_getElem? (i := 28) rfl))) (by decide) (backOf (W := 0) (rm4 l Z a0 hw [] b3 (kk + (1 : Int32)) (y4 &&& (own_mask bt)) bt (own_mask bt) ar (own_len (kn + 3) bb) (own_set (fun _ => (0 : Int64)) kn bb (own_mask bt) (y3 &&& (own_mask bt))) (kn + 1) bb T13.heap n0 Z0 E_b3 F_bits F_mask F_words A (own_ix hkn (i := 1) rfl (by omega)) hxb hb2 (by omega) (own_room1 hb1 (by omega)) ne_b3_ar g_ar (own_hold hxb hb1 hb2 _)) hZ (hw _ (List.mem_of_getElem? (i := 30) rfl)) (hw _ (List.mem_of_getElem? (i := 9) rfl)) (by decide) (by decide)) q14a q14c (g := (mkF m 149 #[.val (.int x0), .val (.int x1), .val (.int x2), .val (.long y3), .second, .val (.long y4), .second, .val (.long y5), .second, .val (.int bt), .val (.long (own_mask bt)), .second, .val (.int kk), .val (.ref b1), .val (.long (6510615555426900571 : Int64)), .second, .val (.ref b2), .val (.int of), .val (.int nq), .val (.ref b3)] [(.long (y4 &&& (own_mask bt))), (.int (kk + (1 : Int32))), (.ref b3)])) rfl (by rw [hml]; rfl) (Steps.refl _) (argsL := [(.int (kk + (1 : Int32))), (.long (y4 &&& (own_mask bt)))]) (rest := []) (lenOf pd_4 rfl) rfl (by show 2 * 0 + _ ≤ _; exact Nat.le_of_eq rfl) (hb hby at_149) (fun _ _ => ⟨rfl, rfl, (by decide : 4 + 0 ≤ _), (by decide : 78 + 0 ≤ _)⟩)
  dsimp only [Pt.U, Pt.locs, Pt.cells, Pt.slots] at X14 lq14 yq14 zq14 st14 hQ14
  subst lq14 yq14 zq14
  obtain ⟨rfl, N14q, K14, A⟩ := hQ14
  have N0 := Fr.app N0 N14q
  have Z0 := Nat.le_trans Z0 K14.1
  have K0 := K0.trans K14 (allS (Or.inr sz_ar) all0)
  have A_b1 := A_b1.keep K14 (ninS ne_b1_ar nin0)
  have A_b2 := A_b2.keep K14 (ninS ne_b2_ar nin0)
  have E_b3 := E_b3.keep K14
  have F_bits := F_bits.keep K14 (ninS ne_b3_ar nin0)
  have F_mask := F_mask.keep K14 (ninS ne_b3_ar nin0)
  have F_words := F_words.keep K14 (ninS ne_b3_ar nin0)
  refine Dn.tr st14 ?_
  show Dn p e below s _ _ _ T14 (mkF m 152 #[.val (.int x0), .val (.int x1), .val (.int x2), .val (.long y3), .second, .val (.long y4), .second, .val (.long y5), .second, .val (.int bt), .val (.long (own_mask bt)), .second, .val (.int kk), .val (.ref b1), .val (.long (6510615555426900571 : Int64)), .second, .val (.ref b2), .val (.int of), .val (.int nq), .val (.ref b3)] [(.ref b3)])
  refine Dn.st (fun t q => XS.astore X14.here hx rfl (hb hby at_152) rfl rfl (l' := #[.val (.int x0), .val (.int x1), .val (.int x2), .val (.long y3), .second, .val (.long y4), .second, .val (.long y5), .second, .val (.int bt), .val (.long (own_mask bt)), .second, .val (.int kk), .val (.ref b1), .val (.long (6510615555426900571 : Int64)), .second, .val (.ref b2), .val (.int of), .val (.int nq), .val (.ref b3)]) rfl q) ?_
  show Dn p e below s _ _ _ T14 (mkF m 154 #[.val (.int x0), .val (.int x1), .val (.int x2), .val (.long y3), .second, .val (.long y4), .second, .val (.long y5), .second, .val (.int bt), .val (.long (own_mask bt)), .second, .val (.int kk), .val (.ref b1), .val (.long (6510615555426900571 : Int64)), .second, .val (.ref b2), .val (.int of), .val (.int nq), .val (.ref b3)] [])
  refine Dn.st (fun t q => XS.aload X14.here hx rfl (hb hby at_154) rfl rfl  q) ?_
  show Dn p e below s _ _ _ T14 (mkF m 156 #[.val (.int x0), .val (.int x1), .val (.int x2), .val (.long y3), .second, .val (.long y4), .second, .val (.long y5), .second, .val (.int bt), .val (.long (own_mask bt)), .second, .val (.int kk), .val (.ref b1), .val (.long (6510615555426900571 : Int64)), .second, .val (.ref b2), .val (.int of), .val (.int nq), .val (.ref b3)] [(.ref b3)])
  refine Dn.st (fun t q => XS.iload X14.here hx rfl (hb hby at_156) rfl  q) ?_
  show Dn p e below s _ _ _ T14 (mkF m 158 #[.val (.int x0), .val (.int x1), .val (.int x2), .val (.long y3), .second, .val (.long y4), .second, .val (.long y5), .second, .val (.int bt), .val (.long (own_mask bt)), .second, .val (.int kk), .val (.ref b1), .val (.long (6510615555426900571 : Int64)), .second, .val (.ref b2), .val (.int of), .val (.int nq), .val (.ref b3)] [(.int kk), (.ref b3)])
  refine Dn.st (fun t q => XS.iconst X14.here hx rfl (hb hby at_158) q) ?_
  show Dn p e below s _ _ _ T14 (mkF m 159 #[.val (.int x0), .val (.int x1), .val (.int x2), .val (.long y3), .second, .val (.long y4), .second, .val (.long y5), .second, .val (.int bt), .val (.long (own_mask bt)), .second, .val (.int kk), .val (.ref b1), .val (.long (6510615555426900571 : Int64)), .second, .val (.ref b2), .val (.int of), .val (.int nq), .val (.ref b3)] [(.int (2 : Int32)), (.int kk), (.ref b3)])
  refine Dn.st (fun t q => XS.iadd X14.here hx rfl (hb hby at_159) rfl q) ?_
  show Dn p e below s _ _ _ T14 (mkF m 160 #[.val (.int x0), .val (.int x1), .val (.int x2), .val (.long y3), .second, .val (.long y4), .second, .val (.long y5), .second, .val (.int bt), .val (.long (own_mask bt)), .second, .val (.int kk), .val (.ref b1), .val (.long (6510615555426900571 : Int64)), .second, .val (.ref b2), .val (.int of), .val (.int nq), .val (.ref b3)] [(.int (kk + (2 : Int32))), (.ref b3)])
  refine Dn.st (fun t q => XS.aload X14.here hx rfl (hb hby at_160) rfl rfl  q) ?_
  show Dn p e below s _ _ _ T14 (mkF m 162 #[.val (.int x0), .val (.int x1), .val (.int x2), .val (.long y3), .second, .val (.long y4), .second, .val (.long y5), .second, .val (.int bt), .val (.long (own_mask bt)), .second, .val (.int kk), .val (.ref b1), .val (.long (6510615555426900571 : Int64)), .second, .val (.ref b2), .val (.int of), .val (.int nq), .val (.ref b3)] [(.ref b1), (.int (kk + (2 : Int32))), (.ref b3)])
  refine Dn.st (fun t q => XS.iconst X14.here hx rfl (hb hby at_162) q) ?_
  show Dn p e below s _ _ _ T14 (mkF m 163 #[.val (.int x0), .val (.int x1), .val (.int x2), .val (.long y3), .second, .val (.long y4), .second, .val (.long y5), .second, .val (.int bt), .val (.long (own_mask bt)), .second, .val (.int kk), .val (.ref b1), .val (.long (6510615555426900571 : Int64)), .second, .val (.ref b2), .val (.int of), .val (.int nq), .val (.ref b3)] [(.int (2 : Int32)), (.ref b1), (.int (kk + (2 : Int32))), (.ref b3)])
  refine Dn.st (aLoadJ (w := (fun x => ((own_v3 (y3 &&& (own_mask bt)) (y4 &&& (own_mask bt)) (y5 &&& (own_mask bt))) x))) X14 hx hZ rfl A_b1 (i := 2) rfl (by decide) (g := (mkF m 163 #[.val (.int x0), .val (.int x1), .val (.int x2), .val (.long y3), .second, .val (.long y4), .second, .val (.long y5), .second, .val (.int bt), .val (.long (own_mask bt)), .second, .val (.int kk), .val (.ref b1), .val (.long (6510615555426900571 : Int64)), .second, .val (.ref b2), .val (.int of), .val (.int nq), .val (.ref b3)] [(.int (2 : Int32)), (.ref b1), (.int (kk + (2 : Int32))), (.ref b3)])) rfl rfl (hb hby at_163)) ?_
  show Dn p e below s _ _ _ T14 (mkF m 164 #[.val (.int x0), .val (.int x1), .val (.int x2), .val (.long y3), .second, .val (.long y4), .second, .val (.long y5), .second, .val (.int bt), .val (.long (own_mask bt)), .second, .val (.int kk), .val (.ref b1), .val (.long (6510615555426900571 : Int64)), .second, .val (.ref b2), .val (.int of), .val (.int nq), .val (.ref b3)] [(.long (y5 &&& (own_mask bt))), (.int (kk + (2 : Int32))), (.ref b3)])
  obtain ⟨cq15, kq15, q15a, q15b, q15c⟩ := isOf hZ rfl E_b3
  obtain ⟨_, _, ⟨T15, Lq15, kq_15, nq_15⟩, -, X15, ⟨Lc15, hQ15, lq15, yq15, zq15⟩, st15⟩ := X14.virtualBack hx (y := (⟨"com/example/hindcut/hindcut/PackedNumbers", "with", "(IJ)Lcom/example/hindcut/hindcut/PackedNumbers;"⟩ : MethodName)) (z := (⟨"com/example/hindcut/hindcut/PackedNumbers", "with", "(IJ)Lcom/example/hindcut/hindcut/PackedNumbers;"⟩ : MethodName)) hown (mvT hZ (hw _ (List.mem_of_getElem? (i := 26) rfl))) (mvT hZ (hw _ (List.mem_of_getElem? (i := 27) rfl))) (notFace_of_selects (args := #[]) (mvT hZ (hw _ (List.mem_of_getElem? (i := 29) rfl)))) (mvT hZ (hw _ (List.mem_of_getElem? (i := 29) rfl))) (mvT hZ (hw _ (List.mem_of_getElem? (i := 28) rfl))) (by decide) (backOf (W := 0) (rm4 l Z a0 hw [] b3 (kk + (2 : Int32)) (y5 &&& (own_mask bt)) bt (own_mask bt) ar (own_len (kn + 3) bb) (own_set (own_set (fun _ => (0 : Int64)) kn bb (own_mask bt) (y3 &&& (own_mask bt))) (kn + 1) bb (own_mask bt) (y4 &&& (own_mask bt))) (kn + 2) bb T14.heap n0 Z0 E_b3 F_bits F_mask F_words A (own_ix hkn (i := 2) rfl (by omega)) hxb hb2 (by omega) (own_room1 hb1 (by omega)) ne_b3_ar g_ar (own_hold hxb hb1 hb2 _)) hZ (hw _ (List.mem_of_getElem? (i := 30) rfl)) (hw _ (List.mem_of_getElem? (i := 9) rfl)) (by decide) (by decide)) q15a q15c (g := (mkF m 164 #[.val (.int x0), .val (.int x1), .val (.int x2), .val (.long y3), .second, .val (.long y4), .second, .val (.long y5), .second, .val (.int bt), .val (.long (own_mask bt)), .second, .val (.int kk), .val (.ref b1), .val (.long (6510615555426900571 : Int64)), .second, .val (.ref b2), .val (.int of), .val (.int nq), .val (.ref b3)] [(.long (y5 &&& (own_mask bt))), (.int (kk + (2 : Int32))), (.ref b3)])) rfl (by rw [hml]; rfl) (Steps.refl _) (argsL := [(.int (kk + (2 : Int32))), (.long (y5 &&& (own_mask bt)))]) (rest := []) (lenOf pd_4 rfl) rfl (by show 2 * 0 + _ ≤ _; exact Nat.le_of_eq rfl) (hb hby at_164) (fun _ _ => ⟨rfl, rfl, (by decide : 4 + 0 ≤ _), (by decide : 78 + 0 ≤ _)⟩)
  dsimp only [Pt.U, Pt.locs, Pt.cells, Pt.slots] at X15 lq15 yq15 zq15 st15 hQ15
  subst lq15 yq15 zq15
  obtain ⟨rfl, N15q, K15, A⟩ := hQ15
  have N0 := Fr.app N0 N15q
  have Z0 := Nat.le_trans Z0 K15.1
  have K0 := K0.trans K15 (allS (Or.inr sz_ar) all0)
  have A_b1 := A_b1.keep K15 (ninS ne_b1_ar nin0)
  have A_b2 := A_b2.keep K15 (ninS ne_b2_ar nin0)
  have E_b3 := E_b3.keep K15
  have F_bits := F_bits.keep K15 (ninS ne_b3_ar nin0)
  have F_mask := F_mask.keep K15 (ninS ne_b3_ar nin0)
  have F_words := F_words.keep K15 (ninS ne_b3_ar nin0)
  refine Dn.tr st15 ?_
  show Dn p e below s _ _ _ T15 (mkF m 167 #[.val (.int x0), .val (.int x1), .val (.int x2), .val (.long y3), .second, .val (.long y4), .second, .val (.long y5), .second, .val (.int bt), .val (.long (own_mask bt)), .second, .val (.int kk), .val (.ref b1), .val (.long (6510615555426900571 : Int64)), .second, .val (.ref b2), .val (.int of), .val (.int nq), .val (.ref b3)] [(.ref b3)])
  refine Dn.st (fun t q => XS.astore X15.here hx rfl (hb hby at_167) rfl rfl (l' := #[.val (.int x0), .val (.int x1), .val (.int x2), .val (.long y3), .second, .val (.long y4), .second, .val (.long y5), .second, .val (.int bt), .val (.long (own_mask bt)), .second, .val (.int kk), .val (.ref b1), .val (.long (6510615555426900571 : Int64)), .second, .val (.ref b2), .val (.int of), .val (.int nq), .val (.ref b3)]) rfl q) ?_
  show Dn p e below s _ _ _ T15 (mkF m 169 #[.val (.int x0), .val (.int x1), .val (.int x2), .val (.long y3), .second, .val (.long y4), .second, .val (.long y5), .second, .val (.int bt), .val (.long (own_mask bt)), .second, .val (.int kk), .val (.ref b1), .val (.long (6510615555426900571 : Int64)), .second, .val (.ref b2), .val (.int of), .val (.int nq), .val (.ref b3)] [])
  refine Dn.st (fun t q => XS.aload X15.here hx rfl (hb hby at_169) rfl rfl  q) ?_
  show Dn p e below s _ _ _ T15 (mkF m 171 #[.val (.int x0), .val (.int x1), .val (.int x2), .val (.long y3), .second, .val (.long y4), .second, .val (.long y5), .second, .val (.int bt), .val (.long (own_mask bt)), .second, .val (.int kk), .val (.ref b1), .val (.long (6510615555426900571 : Int64)), .second, .val (.ref b2), .val (.int of), .val (.int nq), .val (.ref b3)] [(.ref b3)])
  refine Dn.st (fun t q => XS.iload X15.here hx rfl (hb hby at_171) rfl  q) ?_
  show Dn p e below s _ _ _ T15 (mkF m 173 #[.val (.int x0), .val (.int x1), .val (.int x2), .val (.long y3), .second, .val (.long y4), .second, .val (.long y5), .second, .val (.int bt), .val (.long (own_mask bt)), .second, .val (.int kk), .val (.ref b1), .val (.long (6510615555426900571 : Int64)), .second, .val (.ref b2), .val (.int of), .val (.int nq), .val (.ref b3)] [(.int kk), (.ref b3)])
  refine Dn.st (fun t q => XS.iload X15.here hx rfl (hb hby at_173) rfl  q) ?_
  show Dn p e below s _ _ _ T15 (mkF m 175 #[.val (.int x0), .val (.int x1), .val (.int x2), .val (.long y3), .second, .val (.long y4), .second, .val (.long y5), .second, .val (.int bt), .val (.long (own_mask bt)), .second, .val (.int kk), .val (.ref b1), .val (.long (6510615555426900571 : Int64)), .second, .val (.ref b2), .val (.int of), .val (.int nq), .val (.ref b3)] [(.int of), (.int kk), (.ref b3)])
  refine Dn.st (fun t q => XS.iadd X15.here hx rfl (hb hby at_175) rfl q) ?_
  show Dn p e below s _ _ _ T15 (mkF m 176 #[.val (.int x0), .val (.int x1), .val (.int x2), .val (.long y3), .second, .val (.long y4), .second, .val (.long y5), .second, .val (.int bt), .val (.long (own_mask bt)), .second, .val (.int kk), .val (.ref b1), .val (.long (6510615555426900571 : Int64)), .second, .val (.ref b2), .val (.int of), .val (.int nq), .val (.ref b3)] [(.int (kk + of)), (.ref b3)])
  refine Dn.st (fun t q => XS.iload X15.here hx rfl (hb hby at_176) rfl  q) ?_
  show Dn p e below s _ _ _ T15 (mkF m 178 #[.val (.int x0), .val (.int x1), .val (.int x2), .val (.long y3), .second, .val (.long y4), .second, .val (.long y5), .second, .val (.int bt), .val (.long (own_mask bt)), .second, .val (.int kk), .val (.ref b1), .val (.long (6510615555426900571 : Int64)), .second, .val (.ref b2), .val (.int of), .val (.int nq), .val (.ref b3)] [(.int kk), (.int (kk + of)), (.ref b3)])
  refine Dn.st (fun t q => XS.iload X15.here hx rfl (hb hby at_178) rfl  q) ?_
  show Dn p e below s _ _ _ T15 (mkF m 180 #[.val (.int x0), .val (.int x1), .val (.int x2), .val (.long y3), .second, .val (.long y4), .second, .val (.long y5), .second, .val (.int bt), .val (.long (own_mask bt)), .second, .val (.int kk), .val (.ref b1), .val (.long (6510615555426900571 : Int64)), .second, .val (.ref b2), .val (.int of), .val (.int nq), .val (.ref b3)] [(.int of), (.int kk), (.int (kk + of)), (.ref b3)])
  refine Dn.st (fun t q => XS.iadd X15.here hx rfl (hb hby at_180) rfl q) ?_
  show Dn p e below s _ _ _ T15 (mkF m 181 #[.val (.int x0), .val (.int x1), .val (.int x2), .val (.long y3), .second, .val (.long y4), .second, .val (.long y5), .second, .val (.int bt), .val (.long (own_mask bt)), .second, .val (.int kk), .val (.ref b1), .val (.long (6510615555426900571 : Int64)), .second, .val (.ref b2), .val (.int of), .val (.int nq), .val (.ref b3)] [(.int (kk + of)), (.int (kk + of)), (.ref b3)])
  refine Dn.st (fun t q => XS.iload X15.here hx rfl (hb hby at_181) rfl  q) ?_
  show Dn p e below s _ _ _ T15 (mkF m 183 #[.val (.int x0), .val (.int x1), .val (.int x2), .val (.long y3), .second, .val (.long y4), .second, .val (.long y5), .second, .val (.int bt), .val (.long (own_mask bt)), .second, .val (.int kk), .val (.ref b1), .val (.long (6510615555426900571 : Int64)), .second, .val (.ref b2), .val (.int of), .val (.int nq), .val (.ref b3)] [(.int nq), (.int (kk + of)), (.int (kk + of)), (.ref b3)])
  refine Dn.st (fun t q => XS.iadd X15.here hx rfl (hb hby at_183) rfl q) ?_
  show Dn p e below s _ _ _ T15 (mkF m 184 #[.val (.int x0), .val (.int x1), .val (.int x2), .val (.long y3), .second, .val (.long y4), .second, .val (.long y5), .second, .val (.int bt), .val (.long (own_mask bt)), .second, .val (.int kk), .val (.ref b1), .val (.long (6510615555426900571 : Int64)), .second, .val (.ref b2), .val (.int of), .val (.int nq), .val (.ref b3)] [(.int ((kk + of) + nq)), (.int (kk + of)), (.ref b3)])
  refine Dn.st (fun t q => XS.aload X15.here hx rfl (hb hby at_184) rfl rfl  q) ?_
  show Dn p e below s _ _ _ T15 (mkF m 186 #[.val (.int x0), .val (.int x1), .val (.int x2), .val (.long y3), .second, .val (.long y4), .second, .val (.long y5), .second, .val (.int bt), .val (.long (own_mask bt)), .second, .val (.int kk), .val (.ref b1), .val (.long (6510615555426900571 : Int64)), .second, .val (.ref b2), .val (.int of), .val (.int nq), .val (.ref b3)] [(.ref b2), (.int ((kk + of) + nq)), (.int (kk + of)), (.ref b3)])
  obtain ⟨cq16, kq16, q16a, q16b, q16c⟩ := isOf hZ rfl E_b3
  obtain ⟨_, _, ⟨T16, Lq16, kq_16, nq_16⟩, -, X16, ⟨Lc16, hQ16, lq16, yq16, zq16⟩, st16⟩ := X15.virtualBack hx (y := (⟨"com/example/hindcut/hindcut/PackedNumbers", "unpack", "(II[J)V"⟩ : MethodName)) (z := (⟨"com/example/hindcut/hindcut/PackedNumbers", "unpack", "(II[J)V"⟩ : MethodName)) hown (mvT hZ (hw _ (List.mem_of_getElem? (i := 40) rfl))) (mvT hZ (hw _ (List.mem_of_getElem? (i := 41) rfl))) (notFace_of_selects (args := #[]) (mvT hZ (hw _ (List.mem_of_getElem? (i := 43) rfl)))) (mvT hZ (hw _ (List.mem_of_getElem? (i := 43) rfl))) (mvT hZ (hw _ (List.mem_of_getElem? (i := 42) rfl))) (by decide) (backOf (W := 0) (rm7 l Z a0 hw [] b3 (kk + of) ((kk + of) + nq) b2 bt (own_mask bt) ar (own_len (kn + 3) bb) (own_set (own_set (own_set (fun _ => (0 : Int64)) kn bb (own_mask bt) (y3 &&& (own_mask bt))) (kn + 1) bb (own_mask bt) (y4 &&& (own_mask bt))) (kn + 2) bb (own_mask bt) (y5 &&& (own_mask bt))) (own_v4 (6510615555426900571 : Int64)) (kn + o1) q1 bb T15.heap n0 Z0 F_bits F_mask F_words A A_b2 (own_ix hkn ho1 (by omega)) (own_ix (own_ix hkn ho1 (by omega)) hq1 (by omega)) hxb hb2 (by omega) (by omega) (fun i hi => own_room1 hb1 (by omega)) (Ne.symm ne_b2_b3) (Ne.symm ne_b2_ar) g_b2) hZ (hw _ (List.mem_of_getElem? (i := 44) rfl)) (hw _ (List.mem_of_getElem? (i := 9) rfl)) (by decide) (by decide)) q16a q16c (g := (mkF m 186 #[.val (.int x0), .val (.int x1), .val (.int x2), .val (.long y3), .second, .val (.long y4), .second, .val (.long y5), .second, .val (.int bt), .val (.long (own_mask bt)), .second, .val (.int kk), .val (.ref b1), .val (.long (6510615555426900571 : Int64)), .second, .val (.ref b2), .val (.int of), .val (.int nq), .val (.ref b3)] [(.ref b2), (.int ((kk + of) + nq)), (.int (kk + of)), (.ref b3)])) rfl (by rw [hml]; rfl) (Steps.refl _) (argsL := [(.int (kk + of)), (.int ((kk + of) + nq)), (.ref b2)]) (rest := []) (lenOf pd_5 rfl) rfl (by show 2 * 0 + _ ≤ _; exact Nat.le_of_eq rfl) (hb hby at_186) (fun _ _ => ⟨rfl, rfl, (by decide : 4 + 0 ≤ _), (by decide : 78 + 0 ≤ _)⟩)
  dsimp only [Pt.U, Pt.locs, Pt.cells, Pt.slots] at X16 lq16 yq16 zq16 st16 hQ16
  subst lq16 yq16 zq16
  obtain ⟨rfl, N16q, K16, A_b2⟩ := hQ16
  have N0 := Fr.app N0 N16q
  have Z0 := Nat.le_trans Z0 K16.1
  have K0 := K0.trans K16 (allS (Or.inr sz_b2) all0)
  have A_b1 := A_b1.keep K16 (ninS ne_b1_b2 nin0)
  have E_b3 := E_b3.keep K16
  have F_bits := F_bits.keep K16 (ninS (Ne.symm ne_b2_b3) nin0)
  have F_mask := F_mask.keep K16 (ninS (Ne.symm ne_b2_b3) nin0)
  have F_words := F_words.keep K16 (ninS (Ne.symm ne_b2_b3) nin0)
  have A := A.keep K16 (ninS (Ne.symm ne_b2_ar) nin0)
  refine Dn.tr st16 ?_
  show Dn p e below s _ _ _ T16 (mkF m 189 #[.val (.int x0), .val (.int x1), .val (.int x2), .val (.long y3), .second, .val (.long y4), .second, .val (.long y5), .second, .val (.int bt), .val (.long (own_mask bt)), .second, .val (.int kk), .val (.ref b1), .val (.long (6510615555426900571 : Int64)), .second, .val (.ref b2), .val (.int of), .val (.int nq), .val (.ref b3)] [])
  refine Dn.st (fun t q => XS.aload X16.here hx rfl (hb hby at_189) rfl rfl  q) ?_
  show Dn p e below s _ _ _ T16 (mkF m 191 #[.val (.int x0), .val (.int x1), .val (.int x2), .val (.long y3), .second, .val (.long y4), .second, .val (.long y5), .second, .val (.int bt), .val (.long (own_mask bt)), .second, .val (.int kk), .val (.ref b1), .val (.long (6510615555426900571 : Int64)), .second, .val (.ref b2), .val (.int of), .val (.int nq), .val (.ref b3)] [(.ref b2)])
  refine Dn.st (fun t q => XS.aload X16.here hx rfl (hb hby at_191) rfl rfl  q) ?_
  show Dn p e below s _ _ _ T16 (mkF m 193 #[.val (.int x0), .val (.int x1), .val (.int x2), .val (.long y3), .second, .val (.long y4), .second, .val (.long y5), .second, .val (.int bt), .val (.long (own_mask bt)), .second, .val (.int kk), .val (.ref b1), .val (.long (6510615555426900571 : Int64)), .second, .val (.ref b2), .val (.int of), .val (.int nq), .val (.ref b3)] [(.ref b1), (.ref b2)])
  refine Dn.st (fun t q => XS.iconst X16.here hx rfl (hb hby at_193) q) ?_
  show Dn p e below s _ _ _ T16 (mkF m 194 #[.val (.int x0), .val (.int x1), .val (.int x2), .val (.long y3), .second, .val (.long y4), .second, .val (.long y5), .second, .val (.int bt), .val (.long (own_mask bt)), .second, .val (.int kk), .val (.ref b1), .val (.long (6510615555426900571 : Int64)), .second, .val (.ref b2), .val (.int of), .val (.int nq), .val (.ref b3)] [(.int (0 : Int32)), (.ref b1), (.ref b2)])
  refine Dn.st (fun t q => XS.iload X16.here hx rfl (hb hby at_194) rfl  q) ?_
  show Dn p e below s _ _ _ T16 (mkF m 196 #[.val (.int x0), .val (.int x1), .val (.int x2), .val (.long y3), .second, .val (.long y4), .second, .val (.long y5), .second, .val (.int bt), .val (.long (own_mask bt)), .second, .val (.int kk), .val (.ref b1), .val (.long (6510615555426900571 : Int64)), .second, .val (.ref b2), .val (.int of), .val (.int nq), .val (.ref b3)] [(.int of), (.int (0 : Int32)), (.ref b1), (.ref b2)])
  refine Dn.st (fun t q => XS.iload X16.here hx rfl (hb hby at_196) rfl  q) ?_
  show Dn p e below s _ _ _ T16 (mkF m 198 #[.val (.int x0), .val (.int x1), .val (.int x2), .val (.long y3), .second, .val (.long y4), .second, .val (.long y5), .second, .val (.int bt), .val (.long (own_mask bt)), .second, .val (.int kk), .val (.ref b1), .val (.long (6510615555426900571 : Int64)), .second, .val (.ref b2), .val (.int of), .val (.int nq), .val (.ref b3)] [(.int nq), (.int of), (.int (0 : Int32)), (.ref b1), (.ref b2)])
  refine Dn.st (fun t q => XS.lload X16.here hx rfl (hb hby at_198) rfl  q) ?_
  show Dn p e below s _ _ _ T16 (mkF m 200 #[.val (.int x0), .val (.int x1), .val (.int x2), .val (.long y3), .second, .val (.long y4), .second, .val (.long y5), .second, .val (.int bt), .val (.long (own_mask bt)), .second, .val (.int kk), .val (.ref b1), .val (.long (6510615555426900571 : Int64)), .second, .val (.ref b2), .val (.int of), .val (.int nq), .val (.ref b3)] [(.long (6510615555426900571 : Int64)), (.int nq), (.int of), (.int (0 : Int32)), (.ref b1), (.ref b2)])
  obtain ⟨_, _, ⟨T17, Lq17, kq_17, nq_17⟩, -, X17, ⟨Lc17, hQ17, lq17, yq17, zq17⟩, st17⟩ := Jvm.LawKit.callS X16 hx (y := (⟨"com/example/hindcut/hindcut/PackedNumbersUnpackPinLaw", "slot", "([J[JIIIJ)Z"⟩ : MethodName)) hown (mvT hZ (hw _ (List.mem_of_getElem? (i := 45) rfl))) (mvT hZ (hw _ (List.mem_of_getElem? (i := 46) rfl))) (mvT hZ (hw _ (List.mem_of_getElem? (i := 47) rfl))) (mvT hZ (hw _ (List.mem_of_getElem? (i := 48) rfl))) (by decide) (backOf (W := 0) (rm8 l Z a0 hw [] b2 b1 (0 : Int32) of nq (6510615555426900571 : Int64) (own_un (own_set (own_set (own_set (fun _ => (0 : Int64)) kn bb (own_mask bt) (y3 &&& (own_mask bt))) (kn + 1) bb (own_mask bt) (y4 &&& (own_mask bt))) (kn + 2) bb (own_mask bt) (y5 &&& (own_mask bt))) (kn + o1) bb (own_mask bt) (own_v4 (6510615555426900571 : Int64)) q1) (own_v3 (y3 &&& (own_mask bt)) (y4 &&& (own_mask bt)) (y5 &&& (own_mask bt))) 0 o1 q1 T16.heap n0 Z0 A_b2 A_b1 rfl ho1 hq1 (by decide) (by omega) (own_s1 hxb hb1 hb2 kn o1 q1 (by omega)) (own_s2 0 (by decide))) hZ (hw _ (List.mem_of_getElem? (i := 48) rfl)) (hw _ (List.mem_of_getElem? (i := 47) rfl)) (by decide) (by decide)) (g := (mkF m 200 #[.val (.int x0), .val (.int x1), .val (.int x2), .val (.long y3), .second, .val (.long y4), .second, .val (.long y5), .second, .val (.int bt), .val (.long (own_mask bt)), .second, .val (.int kk), .val (.ref b1), .val (.long (6510615555426900571 : Int64)), .second, .val (.ref b2), .val (.int of), .val (.int nq), .val (.ref b3)] [(.long (6510615555426900571 : Int64)), (.int nq), (.int of), (.int (0 : Int32)), (.ref b1), (.ref b2)])) rfl (by rw [hml]; rfl) (argsL := [(.ref b2), (.ref b1), (.int (0 : Int32)), (.int of), (.int nq), (.long (6510615555426900571 : Int64))]) (rest := []) (lenOf pd_6 rfl) rfl (by show 2 * 0 + _ ≤ _; exact Nat.le_of_eq rfl) (hb hby at_200) (fun _ _ => ⟨rfl, rfl, (by decide : 4 + 0 ≤ _), (by decide : 78 + 0 ≤ _)⟩)
  dsimp only [Pt.U, Pt.locs, Pt.cells, Pt.slots] at X17 lq17 yq17 zq17 st17 hQ17
  subst lq17 yq17 zq17
  obtain ⟨rfl, N17q, hq17⟩ := hQ17
  have N0 := Fr.app N0 N17q
  have e17 : T17.heap = T16.heap := hq17
  refine Dn.st st17 ?_
  show Dn p e below s _ _ _ T17 (mkF m 203 #[.val (.int x0), .val (.int x1), .val (.int x2), .val (.long y3), .second, .val (.long y4), .second, .val (.long y5), .second, .val (.int bt), .val (.long (own_mask bt)), .second, .val (.int kk), .val (.ref b1), .val (.long (6510615555426900571 : Int64)), .second, .val (.ref b2), .val (.int of), .val (.int nq), .val (.ref b3)] [(.int (1 : Int32))])
  refine Dn.st (fun t q => XS.ifNo X17.here hx rfl (hb hby at_203) rfl ((if0 _ _).trans (feq (by decide)).1) q) ?_
  show Dn p e below s _ _ _ T17 (mkF m 206 #[.val (.int x0), .val (.int x1), .val (.int x2), .val (.long y3), .second, .val (.long y4), .second, .val (.long y5), .second, .val (.int bt), .val (.long (own_mask bt)), .second, .val (.int kk), .val (.ref b1), .val (.long (6510615555426900571 : Int64)), .second, .val (.ref b2), .val (.int of), .val (.int nq), .val (.ref b3)] [])
  refine Dn.st (fun t q => XS.aload X17.here hx rfl (hb hby at_206) rfl rfl  q) ?_
  show Dn p e below s _ _ _ T17 (mkF m 208 #[.val (.int x0), .val (.int x1), .val (.int x2), .val (.long y3), .second, .val (.long y4), .second, .val (.long y5), .second, .val (.int bt), .val (.long (own_mask bt)), .second, .val (.int kk), .val (.ref b1), .val (.long (6510615555426900571 : Int64)), .second, .val (.ref b2), .val (.int of), .val (.int nq), .val (.ref b3)] [(.ref b2)])
  refine Dn.st (fun t q => XS.aload X17.here hx rfl (hb hby at_208) rfl rfl  q) ?_
  show Dn p e below s _ _ _ T17 (mkF m 210 #[.val (.int x0), .val (.int x1), .val (.int x2), .val (.long y3), .second, .val (.long y4), .second, .val (.long y5), .second, .val (.int bt), .val (.long (own_mask bt)), .second, .val (.int kk), .val (.ref b1), .val (.long (6510615555426900571 : Int64)), .second, .val (.ref b2), .val (.int of), .val (.int nq), .val (.ref b3)] [(.ref b1), (.ref b2)])
  refine Dn.st (fun t q => XS.iconst X17.here hx rfl (hb hby at_210) q) ?_
  show Dn p e below s _ _ _ T17 (mkF m 211 #[.val (.int x0), .val (.int x1), .val (.int x2), .val (.long y3), .second, .val (.long y4), .second, .val (.long y5), .second, .val (.int bt), .val (.long (own_mask bt)), .second, .val (.int kk), .val (.ref b1), .val (.long (6510615555426900571 : Int64)), .second, .val (.ref b2), .val (.int of), .val (.int nq), .val (.ref b3)] [(.int (1 : Int32)), (.ref b1), (.ref b2)])
  refine Dn.st (fun t q => XS.iload X17.here hx rfl (hb hby at_211) rfl  q) ?_
  show Dn p e below s _ _ _ T17 (mkF m 213 #[.val (.int x0), .val (.int x1), .val (.int x2), .val (.long y3), .second, .val (.long y4), .second, .val (.long y5), .second, .val (.int bt), .val (.long (own_mask bt)), .second, .val (.int kk), .val (.ref b1), .val (.long (6510615555426900571 : Int64)), .second, .val (.ref b2), .val (.int of), .val (.int nq), .val (.ref b3)] [(.int of), (.int (1 : Int32)), (.ref b1), (.ref b2)])
  refine Dn.st (fun t q => XS.iload X17.here hx rfl (hb hby at_213) rfl  q) ?_
  show Dn p e below s _ _ _ T17 (mkF m 215 #[.val (.int x0), .val (.int x1), .val (.int x2), .val (.long y3), .second, .val (.long y4), .second, .val (.long y5), .second, .val (.int bt), .val (.long (own_mask bt)), .second, .val (.int kk), .val (.ref b1), .val (.long (6510615555426900571 : Int64)), .second, .val (.ref b2), .val (.int of), .val (.int nq), .val (.ref b3)] [(.int nq), (.int of), (.int (1 : Int32)), (.ref b1), (.ref b2)])
  refine Dn.st (fun t q => XS.lload X17.here hx rfl (hb hby at_215) rfl  q) ?_
  show Dn p e below s _ _ _ T17 (mkF m 217 #[.val (.int x0), .val (.int x1), .val (.int x2), .val (.long y3), .second, .val (.long y4), .second, .val (.long y5), .second, .val (.int bt), .val (.long (own_mask bt)), .second, .val (.int kk), .val (.ref b1), .val (.long (6510615555426900571 : Int64)), .second, .val (.ref b2), .val (.int of), .val (.int nq), .val (.ref b3)] [(.long (6510615555426900571 : Int64)), (.int nq), (.int of), (.int (1 : Int32)), (.ref b1), (.ref b2)])
  obtain ⟨_, _, ⟨T18, Lq18, kq_18, nq_18⟩, -, X18, ⟨Lc18, hQ18, lq18, yq18, zq18⟩, st18⟩ := Jvm.LawKit.callS X17 hx (y := (⟨"com/example/hindcut/hindcut/PackedNumbersUnpackPinLaw", "slot", "([J[JIIIJ)Z"⟩ : MethodName)) hown (mvT hZ (hw _ (List.mem_of_getElem? (i := 45) rfl))) (mvT hZ (hw _ (List.mem_of_getElem? (i := 46) rfl))) (mvT hZ (hw _ (List.mem_of_getElem? (i := 47) rfl))) (mvT hZ (hw _ (List.mem_of_getElem? (i := 48) rfl))) (by decide) (backOf (W := 0) (rm8 l Z a0 hw [] b2 b1 (1 : Int32) of nq (6510615555426900571 : Int64) (own_un (own_set (own_set (own_set (fun _ => (0 : Int64)) kn bb (own_mask bt) (y3 &&& (own_mask bt))) (kn + 1) bb (own_mask bt) (y4 &&& (own_mask bt))) (kn + 2) bb (own_mask bt) (y5 &&& (own_mask bt))) (kn + o1) bb (own_mask bt) (own_v4 (6510615555426900571 : Int64)) q1) (own_v3 (y3 &&& (own_mask bt)) (y4 &&& (own_mask bt)) (y5 &&& (own_mask bt))) 1 o1 q1 T16.heap n0 Z0 A_b2 A_b1 rfl ho1 hq1 (by decide) (by omega) (own_s1 hxb hb1 hb2 kn o1 q1 (by omega)) (own_s2 1 (by decide))) hZ (hw _ (List.mem_of_getElem? (i := 48) rfl)) (hw _ (List.mem_of_getElem? (i := 47) rfl)) (by decide) (by decide)) (g := (mkF m 217 #[.val (.int x0), .val (.int x1), .val (.int x2), .val (.long y3), .second, .val (.long y4), .second, .val (.long y5), .second, .val (.int bt), .val (.long (own_mask bt)), .second, .val (.int kk), .val (.ref b1), .val (.long (6510615555426900571 : Int64)), .second, .val (.ref b2), .val (.int of), .val (.int nq), .val (.ref b3)] [(.long (6510615555426900571 : Int64)), (.int nq), (.int of), (.int (1 : Int32)), (.ref b1), (.ref b2)])) rfl (by rw [hml]; rfl) (argsL := [(.ref b2), (.ref b1), (.int (1 : Int32)), (.int of), (.int nq), (.long (6510615555426900571 : Int64))]) (rest := []) (lenOf pd_6 rfl) rfl (by show 2 * 0 + _ ≤ _; exact Nat.le_of_eq rfl) (hb hby at_217) (fun _ _ => ⟨rfl, e17, (by decide : 4 + 0 ≤ _), (by decide : 78 + 0 ≤ _)⟩)
  dsimp only [Pt.U, Pt.locs, Pt.cells, Pt.slots] at X18 lq18 yq18 zq18 st18 hQ18
  subst lq18 yq18 zq18
  obtain ⟨rfl, N18q, hq18⟩ := hQ18
  have N0 := Fr.app N0 N18q
  have e18 : T18.heap = T16.heap := hq18
  refine Dn.st st18 ?_
  show Dn p e below s _ _ _ T18 (mkF m 220 #[.val (.int x0), .val (.int x1), .val (.int x2), .val (.long y3), .second, .val (.long y4), .second, .val (.long y5), .second, .val (.int bt), .val (.long (own_mask bt)), .second, .val (.int kk), .val (.ref b1), .val (.long (6510615555426900571 : Int64)), .second, .val (.ref b2), .val (.int of), .val (.int nq), .val (.ref b3)] [(.int (1 : Int32))])
  refine Dn.st (fun t q => XS.ifNo X18.here hx rfl (hb hby at_220) rfl ((if0 _ _).trans (feq (by decide)).1) q) ?_
  show Dn p e below s _ _ _ T18 (mkF m 223 #[.val (.int x0), .val (.int x1), .val (.int x2), .val (.long y3), .second, .val (.long y4), .second, .val (.long y5), .second, .val (.int bt), .val (.long (own_mask bt)), .second, .val (.int kk), .val (.ref b1), .val (.long (6510615555426900571 : Int64)), .second, .val (.ref b2), .val (.int of), .val (.int nq), .val (.ref b3)] [])
  refine Dn.st (fun t q => XS.aload X18.here hx rfl (hb hby at_223) rfl rfl  q) ?_
  show Dn p e below s _ _ _ T18 (mkF m 225 #[.val (.int x0), .val (.int x1), .val (.int x2), .val (.long y3), .second, .val (.long y4), .second, .val (.long y5), .second, .val (.int bt), .val (.long (own_mask bt)), .second, .val (.int kk), .val (.ref b1), .val (.long (6510615555426900571 : Int64)), .second, .val (.ref b2), .val (.int of), .val (.int nq), .val (.ref b3)] [(.ref b2)])
  refine Dn.st (fun t q => XS.aload X18.here hx rfl (hb hby at_225) rfl rfl  q) ?_
  show Dn p e below s _ _ _ T18 (mkF m 227 #[.val (.int x0), .val (.int x1), .val (.int x2), .val (.long y3), .second, .val (.long y4), .second, .val (.long y5), .second, .val (.int bt), .val (.long (own_mask bt)), .second, .val (.int kk), .val (.ref b1), .val (.long (6510615555426900571 : Int64)), .second, .val (.ref b2), .val (.int of), .val (.int nq), .val (.ref b3)] [(.ref b1), (.ref b2)])
  refine Dn.st (fun t q => XS.iconst X18.here hx rfl (hb hby at_227) q) ?_
  show Dn p e below s _ _ _ T18 (mkF m 228 #[.val (.int x0), .val (.int x1), .val (.int x2), .val (.long y3), .second, .val (.long y4), .second, .val (.long y5), .second, .val (.int bt), .val (.long (own_mask bt)), .second, .val (.int kk), .val (.ref b1), .val (.long (6510615555426900571 : Int64)), .second, .val (.ref b2), .val (.int of), .val (.int nq), .val (.ref b3)] [(.int (2 : Int32)), (.ref b1), (.ref b2)])
  refine Dn.st (fun t q => XS.iload X18.here hx rfl (hb hby at_228) rfl  q) ?_
  show Dn p e below s _ _ _ T18 (mkF m 230 #[.val (.int x0), .val (.int x1), .val (.int x2), .val (.long y3), .second, .val (.long y4), .second, .val (.long y5), .second, .val (.int bt), .val (.long (own_mask bt)), .second, .val (.int kk), .val (.ref b1), .val (.long (6510615555426900571 : Int64)), .second, .val (.ref b2), .val (.int of), .val (.int nq), .val (.ref b3)] [(.int of), (.int (2 : Int32)), (.ref b1), (.ref b2)])
  refine Dn.st (fun t q => XS.iload X18.here hx rfl (hb hby at_230) rfl  q) ?_
  show Dn p e below s _ _ _ T18 (mkF m 232 #[.val (.int x0), .val (.int x1), .val (.int x2), .val (.long y3), .second, .val (.long y4), .second, .val (.long y5), .second, .val (.int bt), .val (.long (own_mask bt)), .second, .val (.int kk), .val (.ref b1), .val (.long (6510615555426900571 : Int64)), .second, .val (.ref b2), .val (.int of), .val (.int nq), .val (.ref b3)] [(.int nq), (.int of), (.int (2 : Int32)), (.ref b1), (.ref b2)])
  refine Dn.st (fun t q => XS.lload X18.here hx rfl (hb hby at_232) rfl  q) ?_
  show Dn p e below s _ _ _ T18 (mkF m 234 #[.val (.int x0), .val (.int x1), .val (.int x2), .val (.long y3), .second, .val (.long y4), .second, .val (.long y5), .second, .val (.int bt), .val (.long (own_mask bt)), .second, .val (.int kk), .val (.ref b1), .val (.long (6510615555426900571 : Int64)), .second, .val (.ref b2), .val (.int of), .val (.int nq), .val (.ref b3)] [(.long (6510615555426900571 : Int64)), (.int nq), (.int of), (.int (2 : Int32)), (.ref b1), (.ref b2)])
  obtain ⟨_, _, ⟨T19, Lq19, kq_19, nq_19⟩, -, X19, ⟨Lc19, hQ19, lq19, yq19, zq19⟩, st19⟩ := Jvm.LawKit.callS X18 hx (y := (⟨"com/example/hindcut/hindcut/PackedNumbersUnpackPinLaw", "slot", "([J[JIIIJ)Z"⟩ : MethodName)) hown (mvT hZ (hw _ (List.mem_of_getElem? (i := 45) rfl))) (mvT hZ (hw _ (List.mem_of_getElem? (i := 46) rfl))) (mvT hZ (hw _ (List.mem_of_getElem? (i := 47) rfl))) (mvT hZ (hw _ (List.mem_of_getElem? (i := 48) rfl))) (by decide) (backOf (W := 0) (rm8 l Z a0 hw [] b2 b1 (2 : Int32) of nq (6510615555426900571 : Int64) (own_un (own_set (own_set (own_set (fun _ => (0 : Int64)) kn bb (own_mask bt) (y3 &&& (own_mask bt))) (kn + 1) bb (own_mask bt) (y4 &&& (own_mask bt))) (kn + 2) bb (own_mask bt) (y5 &&& (own_mask bt))) (kn + o1) bb (own_mask bt) (own_v4 (6510615555426900571 : Int64)) q1) (own_v3 (y3 &&& (own_mask bt)) (y4 &&& (own_mask bt)) (y5 &&& (own_mask bt))) 2 o1 q1 T16.heap n0 Z0 A_b2 A_b1 rfl ho1 hq1 (by decide) (by omega) (own_s1 hxb hb1 hb2 kn o1 q1 (by omega)) (own_s2 2 (by decide))) hZ (hw _ (List.mem_of_getElem? (i := 48) rfl)) (hw _ (List.mem_of_getElem? (i := 47) rfl)) (by decide) (by decide)) (g := (mkF m 234 #[.val (.int x0), .val (.int x1), .val (.int x2), .val (.long y3), .second, .val (.long y4), .second, .val (.long y5), .second, .val (.int bt), .val (.long (own_mask bt)), .second, .val (.int kk), .val (.ref b1), .val (.long (6510615555426900571 : Int64)), .second, .val (.ref b2), .val (.int of), .val (.int nq), .val (.ref b3)] [(.long (6510615555426900571 : Int64)), (.int nq), (.int of), (.int (2 : Int32)), (.ref b1), (.ref b2)])) rfl (by rw [hml]; rfl) (argsL := [(.ref b2), (.ref b1), (.int (2 : Int32)), (.int of), (.int nq), (.long (6510615555426900571 : Int64))]) (rest := []) (lenOf pd_6 rfl) rfl (by show 2 * 0 + _ ≤ _; exact Nat.le_of_eq rfl) (hb hby at_234) (fun _ _ => ⟨rfl, e18, (by decide : 4 + 0 ≤ _), (by decide : 78 + 0 ≤ _)⟩)
  dsimp only [Pt.U, Pt.locs, Pt.cells, Pt.slots] at X19 lq19 yq19 zq19 st19 hQ19
  subst lq19 yq19 zq19
  obtain ⟨rfl, N19q, hq19⟩ := hQ19
  have N0 := Fr.app N0 N19q
  have e19 : T19.heap = T16.heap := hq19
  refine Dn.st st19 ?_
  show Dn p e below s _ _ _ T19 (mkF m 237 #[.val (.int x0), .val (.int x1), .val (.int x2), .val (.long y3), .second, .val (.long y4), .second, .val (.long y5), .second, .val (.int bt), .val (.long (own_mask bt)), .second, .val (.int kk), .val (.ref b1), .val (.long (6510615555426900571 : Int64)), .second, .val (.ref b2), .val (.int of), .val (.int nq), .val (.ref b3)] [(.int (1 : Int32))])
  refine Dn.st (fun t q => XS.ifNo X19.here hx rfl (hb hby at_237) rfl ((if0 _ _).trans (feq (by decide)).1) q) ?_
  show Dn p e below s _ _ _ T19 (mkF m 240 #[.val (.int x0), .val (.int x1), .val (.int x2), .val (.long y3), .second, .val (.long y4), .second, .val (.long y5), .second, .val (.int bt), .val (.long (own_mask bt)), .second, .val (.int kk), .val (.ref b1), .val (.long (6510615555426900571 : Int64)), .second, .val (.ref b2), .val (.int of), .val (.int nq), .val (.ref b3)] [])
  refine Dn.st (fun t q => XS.aload X19.here hx rfl (hb hby at_240) rfl rfl  q) ?_
  show Dn p e below s _ _ _ T19 (mkF m 242 #[.val (.int x0), .val (.int x1), .val (.int x2), .val (.long y3), .second, .val (.long y4), .second, .val (.long y5), .second, .val (.int bt), .val (.long (own_mask bt)), .second, .val (.int kk), .val (.ref b1), .val (.long (6510615555426900571 : Int64)), .second, .val (.ref b2), .val (.int of), .val (.int nq), .val (.ref b3)] [(.ref b2)])
  refine Dn.st (fun t q => XS.aload X19.here hx rfl (hb hby at_242) rfl rfl  q) ?_
  show Dn p e below s _ _ _ T19 (mkF m 244 #[.val (.int x0), .val (.int x1), .val (.int x2), .val (.long y3), .second, .val (.long y4), .second, .val (.long y5), .second, .val (.int bt), .val (.long (own_mask bt)), .second, .val (.int kk), .val (.ref b1), .val (.long (6510615555426900571 : Int64)), .second, .val (.ref b2), .val (.int of), .val (.int nq), .val (.ref b3)] [(.ref b1), (.ref b2)])
  refine Dn.st (fun t q => XS.iconst X19.here hx rfl (hb hby at_244) q) ?_
  show Dn p e below s _ _ _ T19 (mkF m 245 #[.val (.int x0), .val (.int x1), .val (.int x2), .val (.long y3), .second, .val (.long y4), .second, .val (.long y5), .second, .val (.int bt), .val (.long (own_mask bt)), .second, .val (.int kk), .val (.ref b1), .val (.long (6510615555426900571 : Int64)), .second, .val (.ref b2), .val (.int of), .val (.int nq), .val (.ref b3)] [(.int (3 : Int32)), (.ref b1), (.ref b2)])
  refine Dn.st (fun t q => XS.iload X19.here hx rfl (hb hby at_245) rfl  q) ?_
  show Dn p e below s _ _ _ T19 (mkF m 247 #[.val (.int x0), .val (.int x1), .val (.int x2), .val (.long y3), .second, .val (.long y4), .second, .val (.long y5), .second, .val (.int bt), .val (.long (own_mask bt)), .second, .val (.int kk), .val (.ref b1), .val (.long (6510615555426900571 : Int64)), .second, .val (.ref b2), .val (.int of), .val (.int nq), .val (.ref b3)] [(.int of), (.int (3 : Int32)), (.ref b1), (.ref b2)])
  refine Dn.st (fun t q => XS.iload X19.here hx rfl (hb hby at_247) rfl  q) ?_
  show Dn p e below s _ _ _ T19 (mkF m 249 #[.val (.int x0), .val (.int x1), .val (.int x2), .val (.long y3), .second, .val (.long y4), .second, .val (.long y5), .second, .val (.int bt), .val (.long (own_mask bt)), .second, .val (.int kk), .val (.ref b1), .val (.long (6510615555426900571 : Int64)), .second, .val (.ref b2), .val (.int of), .val (.int nq), .val (.ref b3)] [(.int nq), (.int of), (.int (3 : Int32)), (.ref b1), (.ref b2)])
  refine Dn.st (fun t q => XS.lload X19.here hx rfl (hb hby at_249) rfl  q) ?_
  show Dn p e below s _ _ _ T19 (mkF m 251 #[.val (.int x0), .val (.int x1), .val (.int x2), .val (.long y3), .second, .val (.long y4), .second, .val (.long y5), .second, .val (.int bt), .val (.long (own_mask bt)), .second, .val (.int kk), .val (.ref b1), .val (.long (6510615555426900571 : Int64)), .second, .val (.ref b2), .val (.int of), .val (.int nq), .val (.ref b3)] [(.long (6510615555426900571 : Int64)), (.int nq), (.int of), (.int (3 : Int32)), (.ref b1), (.ref b2)])
  obtain ⟨_, _, ⟨T20, Lq20, kq_20, nq_20⟩, -, X20, ⟨Lc20, hQ20, lq20, yq20, zq20⟩, st20⟩ := Jvm.LawKit.callS X19 hx (y := (⟨"com/example/hindcut/hindcut/PackedNumbersUnpackPinLaw", "slot", "([J[JIIIJ)Z"⟩ : MethodName)) hown (mvT hZ (hw _ (List.mem_of_getElem? (i := 45) rfl))) (mvT hZ (hw _ (List.mem_of_getElem? (i := 46) rfl))) (mvT hZ (hw _ (List.mem_of_getElem? (i := 47) rfl))) (mvT hZ (hw _ (List.mem_of_getElem? (i := 48) rfl))) (by decide) (backOf (W := 0) (rm8 l Z a0 hw [] b2 b1 (3 : Int32) of nq (6510615555426900571 : Int64) (own_un (own_set (own_set (own_set (fun _ => (0 : Int64)) kn bb (own_mask bt) (y3 &&& (own_mask bt))) (kn + 1) bb (own_mask bt) (y4 &&& (own_mask bt))) (kn + 2) bb (own_mask bt) (y5 &&& (own_mask bt))) (kn + o1) bb (own_mask bt) (own_v4 (6510615555426900571 : Int64)) q1) (own_v3 (y3 &&& (own_mask bt)) (y4 &&& (own_mask bt)) (y5 &&& (own_mask bt))) 3 o1 q1 T16.heap n0 Z0 A_b2 A_b1 rfl ho1 hq1 (by decide) (by omega) (own_s1 hxb hb1 hb2 kn o1 q1 (by omega)) (own_s2 3 (by decide))) hZ (hw _ (List.mem_of_getElem? (i := 48) rfl)) (hw _ (List.mem_of_getElem? (i := 47) rfl)) (by decide) (by decide)) (g := (mkF m 251 #[.val (.int x0), .val (.int x1), .val (.int x2), .val (.long y3), .second, .val (.long y4), .second, .val (.long y5), .second, .val (.int bt), .val (.long (own_mask bt)), .second, .val (.int kk), .val (.ref b1), .val (.long (6510615555426900571 : Int64)), .second, .val (.ref b2), .val (.int of), .val (.int nq), .val (.ref b3)] [(.long (6510615555426900571 : Int64)), (.int nq), (.int of), (.int (3 : Int32)), (.ref b1), (.ref b2)])) rfl (by rw [hml]; rfl) (argsL := [(.ref b2), (.ref b1), (.int (3 : Int32)), (.int of), (.int nq), (.long (6510615555426900571 : Int64))]) (rest := []) (lenOf pd_6 rfl) rfl (by show 2 * 0 + _ ≤ _; exact Nat.le_of_eq rfl) (hb hby at_251) (fun _ _ => ⟨rfl, e19, (by decide : 4 + 0 ≤ _), (by decide : 78 + 0 ≤ _)⟩)
  dsimp only [Pt.U, Pt.locs, Pt.cells, Pt.slots] at X20 lq20 yq20 zq20 st20 hQ20
  subst lq20 yq20 zq20
  obtain ⟨rfl, N20q, hq20⟩ := hQ20
  have N0 := Fr.app N0 N20q
  have e20 : T20.heap = T16.heap := hq20
  refine Dn.st st20 ?_
  show Dn p e below s _ _ _ T20 (mkF m 254 #[.val (.int x0), .val (.int x1), .val (.int x2), .val (.long y3), .second, .val (.long y4), .second, .val (.long y5), .second, .val (.int bt), .val (.long (own_mask bt)), .second, .val (.int kk), .val (.ref b1), .val (.long (6510615555426900571 : Int64)), .second, .val (.ref b2), .val (.int of), .val (.int nq), .val (.ref b3)] [(.int (1 : Int32))])
  refine Dn.st (fun t q => XS.ifNo X20.here hx rfl (hb hby at_254) rfl ((if0 _ _).trans (feq (by decide)).1) q) ?_
  show Dn p e below s _ _ _ T20 (mkF m 257 #[.val (.int x0), .val (.int x1), .val (.int x2), .val (.long y3), .second, .val (.long y4), .second, .val (.long y5), .second, .val (.int bt), .val (.long (own_mask bt)), .second, .val (.int kk), .val (.ref b1), .val (.long (6510615555426900571 : Int64)), .second, .val (.ref b2), .val (.int of), .val (.int nq), .val (.ref b3)] [])
  refine Dn.st (fun t q => XS.iconst X20.here hx rfl (hb hby at_257) q) ?_
  show Dn p e below s _ _ _ T20 (mkF m 258 #[.val (.int x0), .val (.int x1), .val (.int x2), .val (.long y3), .second, .val (.long y4), .second, .val (.long y5), .second, .val (.int bt), .val (.long (own_mask bt)), .second, .val (.int kk), .val (.ref b1), .val (.long (6510615555426900571 : Int64)), .second, .val (.ref b2), .val (.int of), .val (.int nq), .val (.ref b3)] [(.int (1 : Int32))])
  refine Dn.st (fun t q => XS.goto X20.here hx rfl (pc0 := 258) (pc' := 262) rfl (hb hby at_258) (by decide) (by decide) q) ?_
  show Dn p e below s _ _ _ T20 (mkF m 262 #[.val (.int x0), .val (.int x1), .val (.int x2), .val (.long y3), .second, .val (.long y4), .second, .val (.long y5), .second, .val (.int bt), .val (.long (own_mask bt)), .second, .val (.int kk), .val (.ref b1), .val (.long (6510615555426900571 : Int64)), .second, .val (.ref b2), .val (.int of), .val (.int nq), .val (.ref b3)] [(.int (1 : Int32))])
  exact Dn.retZ X20 hx Bd.notSynchronized (t := .boolean) Bd.returns (by simp) (hb hby at_262) (by rw [e20]; exact ⟨rfl, N0⟩) (by decide) (by decide)
set_option maxRecDepth 65536 in
set_option maxHeartbeats 40000000 in
theorem comes_1 {Post : Tables → Env → Array Value → State → Outcome → State → Prop} (hpost : ∀ tb e args s v u, (limb_1_1.after args s (.returned v) u = true ∧ limb_1_2.after args s (.returned v) u = true ∧ True) → FrameEnd s (.returned v) u (Jvm.fieldLocs frame_1_writes args s ++ Jvm.arrayLocs frame_1_arrays args s ++ Jvm.staticLocs frame_1_statics s) 16 256 → Post tb e args s (.returned v) u) :
    ArmFor flags0 classFile x code maxLocals ret World_1 tables_1 room_1 Calls_1 rest_1 Pre_1 Post := by
  intro l hfl _ _ p e ha hc hk s m args below hf hA hF happ hP
  obtain ⟨hcalls, hrest, hpre⟩ := hP
  obtain ⟨-, -, -, hnamed, -, -, -, hat⟩ := (Spec.applies_iff hf).mp happ
  obtain ⟨hg, hn⟩ := and_e (Cond.before_iff.mp (show (Jvm.Cond.and given_1 narrow_1).before args s = true from hpre))
  obtain ⟨g1, g2⟩ := and_e hg
  obtain ⟨g3, g4⟩ := and_e g2
  obtain ⟨g5, g6⟩ := and_e g4
  obtain ⟨g7, g8⟩ := and_e g6
  obtain ⟨g9, g10⟩ := and_e g8
  obtain ⟨g11, g12⟩ := and_e g10
  obtain ⟨w0, w1, w2, w3, w4, w5, rfl⟩ : ∃ w0 w1 w2 w3 w4 w5 : Value, args = #[w0, w1, w2, w3, w4, w5] := by
    have hs : args.size = 6 := by simpa [Cond.value, given_1] using g1
    obtain ⟨L⟩ := args
    match L, hs with
    | [w0, w1, w2, w3, w4, w5], _ => exact ⟨w0, w1, w2, w3, w4, w5, rfl⟩
  have hw := fun d (hd : d ∈ tables_1) => atoms_spec (ws := Jvm.Cond.code x code maxLocals ret :: tables_1) hat d (List.mem_cons_of_mem _ hd)
  obtain ⟨i0, ei0⟩ := is_v g3
  obtain rfl : w0 = (.int i0) := Option.some.inj ei0
  obtain ⟨i1, ei1⟩ := is_v g5
  obtain rfl : w1 = (.int i1) := Option.some.inj ei1
  obtain ⟨i2, ei2⟩ := is_v g7
  obtain rfl : w2 = (.int i2) := Option.some.inj ei2
  obtain ⟨i3, ei3⟩ := isL_v g9
  obtain rfl : w3 = (.long i3) := Option.some.inj ei3
  obtain ⟨i4, ei4⟩ := isL_v g11
  obtain rfl : w4 = (.long i4) := Option.some.inj ei4
  obtain ⟨i5, ei5⟩ := isL_v g12
  obtain rfl : w5 = (.long i5) := Option.some.inj ei5
  obtain ⟨n, o, h1, h2, h3, _, L, rfl, ⟨rfl, N⟩, hq⟩ := rm0 l s _ hw tables_1 i0 i1 i2 i3 i4 i5 s.heap s.heap.size (Nat.le_refl _)  p e ha hc hk s m _ below hf ((Spec.applies_iff_loose hf).mp happ).1 ⟨rfl, State.Warmed39.refl s, rfl⟩ trivial
  refine ⟨n, _, h1, h2, h3, hpost _ _ _ _ _ _ ⟨Cond.after_iff.mpr rfl, Cond.after_iff.mpr (eq_i res_at (Term.int_eval (1)) rfl), trivial⟩ ⟨hq.1, hq.2.1, (hq.2.2.sift fun y hy => Or.inr (N y hy)).mono (by decide) (by decide)⟩⟩
theorem main_1_1 : Claimed_1_1 := comes_1 fun _ _ _ _ _ _ h hF => ⟨h.1, hF⟩
theorem main_1_2 : Claimed_1_2 := comes_1 fun _ _ _ _ _ _ h hF => ⟨h.2.1, hF⟩
end Jvm.Pilot.@@N@@
namespace Jvm.Pilot.@@N@@
open Jvm Jvm.ClassFile Sem Op Lib Jvm.Free Jvm.Stand Jvm.Pilot.@@N@@.Jvm.D
/-! MADE BY PROGRAM (witnessworld.py) out of the Statement's table words and the real class files: 12 classes; the members and pool entries that the words name. The judged class is class 1, her method 2. -/
namespace start1
open Jvm.ClassFile
def u (s : String) : CpInfo := .utf8 (stringToUtf16 s)
/-- a pool by its gaps: so many unusable entries, then the entry; so many at the end -/
def gap : Nat → List CpInfo → List CpInfo
  | 0, r => r
  | n + 1, r => .unusable :: gap n r
def poolList (es : List (Nat × CpInfo)) (last : Nat) : List CpInfo := es.foldr (fun e r => gap e.1 (e.2 :: r)) (gap last [])
def pool (es : List (Nat × CpInfo)) (last : Nat) : Array CpInfo := ⟨poolList es last⟩
def fileOf (pool : Array CpInfo) (this : Nat) (attrs : Array Attribute := #[]) (ms : Array MethodInfo := #[]) (fl : Nat := 33) (sup : Nat := 0) (ifs : Array Nat := #[]) (fds : Array FieldInfo := #[]) : ClassFile where
  minorVersion := 0
  majorVersion := 65
  constantPool := pool
  accessFlags := fl
  thisClass := this
  superClass := sup
  interfaces := ifs
  fields := fds
  methods := ms
  attributes := attrs
def plain (name : String) (sup : Option ClassId) : Class where
  name := name
  kind := .ordinary
  loader := none
  accessFlags := 33
  super := sup
  interfaces := #[]
  cf := none
  fields := #[]
  methods := #[]
  instanceTypes := #[]
  staticTypes := #[]
  resolved := #[]
  callSites := []
  init := .initialized
  statics := none
  mirror := none

def pool0 : Array CpInfo := pool [(5, u "<init>"), (0, u "()V"), (1, .class_ 10), (1, u "java/lang/Object")] 113

def k0c0 : Code := { maxStack := 0, maxLocals := 1, code := object_method_1_code, exceptionTable := #[], attributes := #[] }
def k0m0 : Method := { name := "<init>", desc := "()V", sig := { parameters := [], returnType := none }, accessFlags := 1, code := some k0c0 }
/-- java/lang/Object -/
def k0 : Class := { plain "java/lang/Object" none with
  accessFlags := 33
  interfaces := #[]
  cf := some (fileOf pool0 8 #[] #[{ accessFlags := 1, nameIndex := 5, descriptorIndex := 6, attributes := #[] }] 33 0 #[] #[])
  fields := #[]
  methods := #[k0m0]
  instanceTypes := #[]
  staticTypes := #[]
  resolved := Array.replicate 124 none
  statics := none }

def pool1 : Array CpInfo := pool [(2, .class_ 4), (1, u "java/lang/Object"), (0, u "<init>"), (0, u "()V"), (0, .long 18446744073709551615), (1, .long 6510615555426900571), (1, .methodref 12 13), (0, .class_ 14), (0, .nameAndType 15 16), (0, u "java/lang/Math"), (0, u "min"), (0, u "(II)I"), (0, .class_ 18), (0, u "com/example/hindcut/hindcut/PackedNumbers"), (0, .methodref 17 20), (0, .nameAndType 5 21), (0, u "(II)V"), (0, .methodref 17 23), (0, .nameAndType 24 25), (0, u "with"), (0, u "(IJ)Lcom/example/hindcut/hindcut/PackedNumbers;"), (0, .methodref 17 27), (0, .nameAndType 28 29), (0, u "unpack"), (0, u "(II[J)V"), (0, .methodref 31 32), (0, .class_ 33), (0, .nameAndType 34 35), (0, u "com/example/hindcut/hindcut/PackedNumbersUnpackPinLaw"), (0, u "slot"), (0, u "([J[JIIIJ)Z"), (3, u "law"), (0, u "(IIIJJJ)Z")] 4

def k1m0 : Method := { name := "<init>", desc := "()V", sig := { parameters := [], returnType := none }, accessFlags := 1, code := none }
def k1c1 : Code := { maxStack := 5, maxLocals := 7, code := method_2_code, exceptionTable := #[], attributes := #[] }
def k1m1 : Method := { name := "slot", desc := "([J[JIIIJ)Z", sig := { parameters := [(.array .long), (.array .long), .int, .int, .int, .long], returnType := some .boolean }, accessFlags := 10, code := some k1c1 }
def k1c2 : Code := { maxStack := 7, maxLocals := 20, code := code, exceptionTable := #[], attributes := #[] }
def k1m2 : Method := { name := "law", desc := "(IIIJJJ)Z", sig := { parameters := [.int, .int, .int, .long, .long, .long], returnType := some .boolean }, accessFlags := 9, code := some k1c2 }
/-- com/example/hindcut/hindcut/PackedNumbersUnpackPinLaw -/
def k1 : Class := { plain "com/example/hindcut/hindcut/PackedNumbersUnpackPinLaw" (some 0) with
  accessFlags := 49
  interfaces := #[]
  cf := some (fileOf pool1 31 #[] #[{ accessFlags := 1, nameIndex := 5, descriptorIndex := 6, attributes := #[] }, { accessFlags := 10, nameIndex := 34, descriptorIndex := 35, attributes := #[] }, { accessFlags := 9, nameIndex := 39, descriptorIndex := 40, attributes := #[] }] 49 2 #[] #[])
  fields := #[]
  methods := #[k1m0, k1m1, k1m2]
  instanceTypes := #[]
  staticTypes := #[]
  resolved := Array.replicate 45 none
  statics := none }

def pool2 : Array CpInfo := pool [(1, .class_ 2), (0, u "java/lang/Math"), (1, .class_ 6), (1, u "java/lang/Object"), (0, u "<init>"), (0, u "()V"), (89, .class_ 100), (1, u "java/lang/Math$RandomNumberGeneratorHolder"), (71, u "negativeZeroFloatBits"), (0, u "J"), (2, u "negativeZeroDoubleBits"), (24, u "min"), (43, u "$assertionsDisabled"), (0, u "Z"), (88, u "(II)I"), (2, u "twoToTheDoubleScaleDown"), (0, u "D"), (4, u "twoToTheDoubleScaleUp"), (9, u "E"), (3, u "PI"), (2, u "TAU"), (2, u "DEGREES_TO_RADIANS"), (0, u "RADIANS_TO_DEGREES")] 94

def k2m0 : Method := { name := "<init>", desc := "()V", sig := { parameters := [], returnType := none }, accessFlags := 2, code := none }
def k2c1 : Code := { maxStack := 2, maxLocals := 2, code := jdk_29_method_69_code, exceptionTable := #[], attributes := #[] }
def k2m1 : Method := { name := "min", desc := "(II)I", sig := { parameters := [.int, .int], returnType := some .int }, accessFlags := 9, code := some k2c1 }
/-- java/lang/Math -/
def k2 : Class := { plain "java/lang/Math" (some 0) with
  accessFlags := 49
  interfaces := #[]
  cf := some (fileOf pool2 1 #[.nestMembers #[98]] #[{ accessFlags := 2, nameIndex := 7, descriptorIndex := 8, attributes := #[] }, { accessFlags := 9, nameIndex := 201, descriptorIndex := 335, attributes := #[] }] 49 4 #[] #[{ accessFlags := 25, nameIndex := 354, descriptorIndex := 339, attributes := #[] }, { accessFlags := 25, nameIndex := 358, descriptorIndex := 339, attributes := #[] }, { accessFlags := 25, nameIndex := 361, descriptorIndex := 339, attributes := #[] }, { accessFlags := 26, nameIndex := 364, descriptorIndex := 339, attributes := #[] }, { accessFlags := 26, nameIndex := 365, descriptorIndex := 339, attributes := #[] }, { accessFlags := 26, nameIndex := 172, descriptorIndex := 173, attributes := #[] }, { accessFlags := 26, nameIndex := 176, descriptorIndex := 173, attributes := #[] }, { accessFlags := 8, nameIndex := 344, descriptorIndex := 339, attributes := #[] }, { accessFlags := 8, nameIndex := 338, descriptorIndex := 339, attributes := #[] }, { accessFlags := 4120, nameIndex := 245, descriptorIndex := 246, attributes := #[] }])
  fields := #[{ name := "E", type := .double, accessFlags := 25, slot := 0, constantValue := 0 }, { name := "PI", type := .double, accessFlags := 25, slot := 1, constantValue := 0 }, { name := "TAU", type := .double, accessFlags := 25, slot := 2, constantValue := 0 }, { name := "DEGREES_TO_RADIANS", type := .double, accessFlags := 26, slot := 3, constantValue := 0 }, { name := "RADIANS_TO_DEGREES", type := .double, accessFlags := 26, slot := 4, constantValue := 0 }, { name := "negativeZeroFloatBits", type := .long, accessFlags := 26, slot := 5, constantValue := 0 }, { name := "negativeZeroDoubleBits", type := .long, accessFlags := 26, slot := 6, constantValue := 0 }, { name := "twoToTheDoubleScaleUp", type := .double, accessFlags := 8, slot := 7, constantValue := 0 }, { name := "twoToTheDoubleScaleDown", type := .double, accessFlags := 8, slot := 8, constantValue := 0 }, { name := "$assertionsDisabled", type := .boolean, accessFlags := 4120, slot := 9, constantValue := 0 }]
  methods := #[k2m0, k2m1]
  instanceTypes := #[]
  staticTypes := #[.double, .double, .double, .double, .double, .long, .long, .double, .double, .boolean]
  resolved := Array.replicate 460 none
  statics := none }

def pool3 : Array CpInfo := pool [(1, .methodref 2 3), (0, .class_ 4), (0, .nameAndType 5 6), (0, u "java/lang/Object"), (0, u "<init>"), (0, u "()V"), (11, .fieldref 19 20), (0, .class_ 21), (0, .nameAndType 22 23), (0, u "com/example/hindcut/hindcut/PackedNumbers"), (0, u "count"), (0, u "I"), (0, .fieldref 19 25), (0, .nameAndType 26 23), (0, u "bits"), (0, .long 18446744073709551615), (1, .fieldref 19 30), (0, .nameAndType 31 32), (0, u "mask"), (0, u "J"), (0, .long 64), (1, .fieldref 19 36), (0, .nameAndType 37 38), (0, u "words"), (0, u "[J"), (10, .long 63), (1, .methodref 19 52), (0, .nameAndType 53 54), (0, u "holds"), (0, u "(J)Z"), (3, .methodref 19 59), (0, .nameAndType 5 60), (0, u "(II)V"), (4, .methodref 19 66), (0, .nameAndType 67 68), (0, u "set"), (0, u "(IJ)V"), (2, u "OVERHEAD_BYTES"), (4, u "unpack"), (0, u "(II[J)V"), (2, u "with"), (0, u "(IJ)Lcom/example/hindcut/hindcut/PackedNumbers;")] 19

def k3c0 : Code := { maxStack := 5, maxLocals := 3, code := prog_25_method_1_code, exceptionTable := #[], attributes := #[] }
def k3m0 : Method := { name := "<init>", desc := "(II)V", sig := { parameters := [.int, .int], returnType := none }, accessFlags := 0, code := some k3c0 }
def k3c1 : Code := { maxStack := 6, maxLocals := 3, code := prog_25_method_3_code, exceptionTable := #[], attributes := #[] }
def k3m1 : Method := { name := "holds", desc := "(J)Z", sig := { parameters := [.long], returnType := some .boolean }, accessFlags := 2, code := some k3c1 }
def k3c2 : Code := { maxStack := 8, maxLocals := 14, code := prog_25_method_5_code, exceptionTable := #[], attributes := #[] }
def k3m2 : Method := { name := "unpack", desc := "(II[J)V", sig := { parameters := [.int, .int, (.array .long)], returnType := none }, accessFlags := 0, code := some k3c2 }
def k3c3 : Code := { maxStack := 8, maxLocals := 9, code := prog_25_method_7_code, exceptionTable := #[], attributes := #[] }
def k3m3 : Method := { name := "set", desc := "(IJ)V", sig := { parameters := [.int, .long], returnType := none }, accessFlags := 2, code := some k3c3 }
def k3c4 : Code := { maxStack := 5, maxLocals := 6, code := prog_25_method_8_code, exceptionTable := #[], attributes := #[] }
def k3m4 : Method := { name := "with", desc := "(IJ)Lcom/example/hindcut/hindcut/PackedNumbers;", sig := { parameters := [.int, .long], returnType := some (.object "com/example/hindcut/hindcut/PackedNumbers") }, accessFlags := 0, code := some k3c4 }
/-- com/example/hindcut/hindcut/PackedNumbers -/
def k3 : Class := { plain "com/example/hindcut/hindcut/PackedNumbers" (some 0) with
  accessFlags := 48
  interfaces := #[]
  cf := some (fileOf pool3 19 #[] #[{ accessFlags := 0, nameIndex := 5, descriptorIndex := 60, attributes := #[] }, { accessFlags := 2, nameIndex := 53, descriptorIndex := 54, attributes := #[] }, { accessFlags := 0, nameIndex := 76, descriptorIndex := 77, attributes := #[] }, { accessFlags := 2, nameIndex := 67, descriptorIndex := 68, attributes := #[] }, { accessFlags := 0, nameIndex := 80, descriptorIndex := 81, attributes := #[] }] 48 2 #[] #[{ accessFlags := 26, nameIndex := 71, descriptorIndex := 32, attributes := #[] }, { accessFlags := 18, nameIndex := 37, descriptorIndex := 38, attributes := #[] }, { accessFlags := 18, nameIndex := 22, descriptorIndex := 23, attributes := #[] }, { accessFlags := 18, nameIndex := 26, descriptorIndex := 23, attributes := #[] }, { accessFlags := 18, nameIndex := 31, descriptorIndex := 32, attributes := #[] }])
  fields := #[{ name := "OVERHEAD_BYTES", type := .long, accessFlags := 26, slot := 0, constantValue := 0 }, { name := "words", type := (.array .long), accessFlags := 18, slot := 0, constantValue := 0 }, { name := "count", type := .int, accessFlags := 18, slot := 1, constantValue := 0 }, { name := "bits", type := .int, accessFlags := 18, slot := 2, constantValue := 0 }, { name := "mask", type := .long, accessFlags := 18, slot := 3, constantValue := 0 }]
  methods := #[k3m0, k3m1, k3m2, k3m3, k3m4]
  instanceTypes := #[(.array .long), .int, .int, .long]
  staticTypes := #[.long]
  resolved := Array.replicate 101 none
  statics := none }

def pool4 : Array CpInfo := pool [(1, u "java/lang/Cloneable"), (0, .class_ 1), (0, u "java/lang/Object"), (0, .class_ 3)] 3

/-- java/lang/Cloneable -/
def k4 : Class := { plain "java/lang/Cloneable" (some 0) with
  accessFlags := 1537
  interfaces := #[]
  cf := some (fileOf pool4 2 #[] #[] 1537 4 #[] #[])
  fields := #[]
  methods := #[]
  instanceTypes := #[]
  staticTypes := #[]
  resolved := Array.replicate 8 none
  statics := none }

def pool5 : Array CpInfo := pool [(1, u "java/io/Serializable"), (0, .class_ 1), (0, u "java/lang/Object"), (0, .class_ 3)] 3

/-- java/io/Serializable -/
def k5 : Class := { plain "java/io/Serializable" (some 0) with
  accessFlags := 1537
  interfaces := #[]
  cf := some (fileOf pool5 2 #[] #[] 1537 4 #[] #[])
  fields := #[]
  methods := #[]
  instanceTypes := #[]
  staticTypes := #[]
  resolved := Array.replicate 8 none
  statics := none }

/-- the primitive byte -/
def k6 : Class := { plain "byte" none with kind := .primitive 'B', accessFlags := 0x411 }
/-- [B -/
def k7 : Class := { plain "[B" (some 0) with kind := .array 6 .byte, interfaces := #[4, 5], accessFlags := 1041 }

/-- the primitive int -/
def k8 : Class := { plain "int" none with kind := .primitive 'I', accessFlags := 0x411 }
/-- [I -/
def k9 : Class := { plain "[I" (some 0) with kind := .array 8 .int, interfaces := #[4, 5], accessFlags := 1041 }

/-- the primitive long -/
def k10 : Class := { plain "long" none with kind := .primitive 'J', accessFlags := 0x411 }
/-- [J -/
def k11 : Class := { plain "[J" (some 0) with kind := .array 10 .long, interfaces := #[4, 5], accessFlags := 1041 }

def heap : Heap := #[]
def classes : Array Class := #[k0, k1, k2, k3, k4, k5, k6, k7, k8, k9, k10, k11]
def interned : List (Array UInt16 × Addr) := []
def slotsUsed : Nat := 0
def theMethod : MethodId := ⟨1, 2⟩
def args0 : Array Value := #[.int 5, .int 5, .int 5, .long 5, .long 5, .long 5]
def aboutOver (below : List Frame) : State where
  vm := { classes := classes, interned := interned.toArray }
  heap := heap
  slotsUsed := slotsUsed
  threads := #[{ frames := .invoking theMethod args0 :: below }]
def below0 : List Frame := [.native { method := ⟨0, 0⟩, args := #[] }]
def about1 : State := aboutOver below0
def p0 : Program := .bare "" "" ""
def e0 : Env := launch0.env 0 0 0
theorem w_frames : about1.frames = Frame.invoking theMethod args0 :: below0 := rfl
set_option maxRecDepth 65536 in
theorem w_args : argsFit about1.vm theMethod args0 = true := by decide +kernel
set_option maxRecDepth 65536 in
theorem w_heap : heapFits about1 = true := by decide +kernel
set_option maxRecDepth 65536 in
theorem w_runnable : about1.curStatus? = some .runnable := by decide +kernel
set_option maxRecDepth 65536 in
theorem w_alone : about1.alone = true := by decide +kernel
set_option maxRecDepth 65536 in
theorem w_named : about1.methodNamed? x = some theMethod := by decide +kernel
set_option maxRecDepth 65536 in
theorem w_hears : about1.hears theMethod below0 = true := by decide +kernel
set_option maxRecDepth 65536 in
theorem w_ripe : about1.ripe theMethod args0 below0 = true := by decide +kernel
theorem w_running : about1.status = .running := rfl
set_option maxRecDepth 65536 in
theorem w_room : about1.hasRoom e0.platform room_1 = true :=
  launch0.hasRoom_least _ room_1 (by decide +kernel) (by decide +kernel) (by decide +kernel) (by decide +kernel) (by decide +kernel) (by decide +kernel)
theorem allAtoms_all (ts : List Jvm.Cond) (a : Array Jvm.Value) (st : Jvm.State) : (allAtoms ts).before a st = ts.all (fun c => c.before a st) := by
  induction ts with
  | nil => rfl
  | cons c t ih =>
    show (Jvm.Cond.and c (allAtoms t)).before a st = _
    rw [Jvm.Cond.before_and, ih, List.all_cons]
def words1 : List Jvm.Cond := Jvm.Cond.code x code maxLocals ret :: tables_1
/-- a 'code' word, met by the world's own term for the bytes: nothing is compared byte by byte -/
theorem code_word {y : MethodName} {bytes : ByteArray} {mx : Nat} {rt : Option FieldType} {a : Array Value} {s : State} {m : MethodId} {meth : Method} {c : Code} (h1 : s.methodNamed? y = some m) (h2 : s.vm.method? m = some meth) (h3 : meth.code = some c) (h4 : c.code = bytes)
    (h5 : (c.maxLocals == mx && c.exceptionTable.isEmpty && decide (c.maxStack ≤ mostOperands) && decide (meth.sig.returnType = rt) && !meth.locks && decide (parseMethodDescriptor y.desc = some meth.sig)) = true) : (Jvm.Cond.code y bytes mx rt).before a s = true := by
  simp only [Bool.and_eq_true, beq_iff_eq, Bool.not_eq_true', decide_eq_true_eq] at h5
  obtain ⟨⟨⟨⟨⟨g1, g2⟩, g3⟩, g4⟩, g5⟩, g6⟩ := h5
  simp [Cond.before, Cond.holds, Cond.value, h1, h2, h3, h4, g1, g2, g3, g4, g5, g6]
def isCode : Jvm.Cond → Bool
  | .code _ _ _ _ => true
  | _ => false
theorem all_split {L : List Jvm.Cond} {P : Jvm.Cond → Bool} (h1 : L.all (fun c => isCode c || P c) = true) (h2 : ∀ c ∈ L.filter isCode, P c = true) : L.all P = true := by
  refine List.all_eq_true.mpr fun c hc => ?_
  have h := List.all_eq_true.mp h1 c hc
  rcases Bool.eq_false_or_eq_true (isCode c) with hi | hi
  · exact h2 c (List.mem_filter.mpr ⟨hc, hi⟩)
  · simpa [hi] using h
set_option maxRecDepth 65536 in
theorem w_c0 : (Jvm.Cond.code x code maxLocals ret).before args0 about1 = true := code_word (m := ⟨1, 2⟩) (meth := k1m2) (c := k1c2) (by decide +kernel) rfl rfl rfl (by decide +kernel)
set_option maxRecDepth 65536 in
theorem w_c1 : (Jvm.Cond.code ({ cls := "java/lang/Math", name := "min", desc := "(II)I" } : Jvm.MethodName) jdk_29_method_69_code (2 : Nat) (Option.some Jvm.ClassFile.FieldType.int)).before args0 about1 = true := code_word (m := ⟨2, 1⟩) (meth := k2m1) (c := k2c1) (by decide +kernel) rfl rfl rfl (by decide +kernel)
set_option maxRecDepth 65536 in
theorem w_c2 : (Jvm.Cond.code ({ cls := "com/example/hindcut/hindcut/PackedNumbers", name := "<init>", desc := "(II)V" } : Jvm.MethodName) prog_25_method_1_code (3 : Nat) (Option.none : Option Jvm.ClassFile.FieldType)).before args0 about1 = true := code_word (m := ⟨3, 0⟩) (meth := k3m0) (c := k3c0) (by decide +kernel) rfl rfl rfl (by decide +kernel)
set_option maxRecDepth 65536 in
theorem w_c3 : (Jvm.Cond.code ({ cls := "java/lang/Object", name := "<init>", desc := "()V" } : Jvm.MethodName) object_method_1_code (1 : Nat) (Option.none : Option Jvm.ClassFile.FieldType)).before args0 about1 = true := code_word (m := ⟨0, 0⟩) (meth := k0m0) (c := k0c0) (by decide +kernel) rfl rfl rfl (by decide +kernel)
set_option maxRecDepth 65536 in
theorem w_c4 : (Jvm.Cond.code ({ cls := "com/example/hindcut/hindcut/PackedNumbers", name := "with", desc := "(IJ)Lcom/example/hindcut/hindcut/PackedNumbers;" } : Jvm.MethodName) prog_25_method_8_code (6 : Nat) (Option.some (Jvm.ClassFile.FieldType.object "com/example/hindcut/hindcut/PackedNumbers"))).before args0 about1 = true := code_word (m := ⟨3, 4⟩) (meth := k3m4) (c := k3c4) (by decide +kernel) rfl rfl rfl (by decide +kernel)
set_option maxRecDepth 65536 in
theorem w_c5 : (Jvm.Cond.code ({ cls := "com/example/hindcut/hindcut/PackedNumbers", name := "holds", desc := "(J)Z" } : Jvm.MethodName) prog_25_method_3_code (3 : Nat) (Option.some Jvm.ClassFile.FieldType.boolean)).before args0 about1 = true := code_word (m := ⟨3, 1⟩) (meth := k3m1) (c := k3c1) (by decide +kernel) rfl rfl rfl (by decide +kernel)
set_option maxRecDepth 65536 in
theorem w_c6 : (Jvm.Cond.code ({ cls := "com/example/hindcut/hindcut/PackedNumbers", name := "set", desc := "(IJ)V" } : Jvm.MethodName) prog_25_method_7_code (9 : Nat) (Option.none : Option Jvm.ClassFile.FieldType)).before args0 about1 = true := code_word (m := ⟨3, 3⟩) (meth := k3m3) (c := k3c3) (by decide +kernel) rfl rfl rfl (by decide +kernel)
set_option maxRecDepth 65536 in
theorem w_c7 : (Jvm.Cond.code ({ cls := "com/example/hindcut/hindcut/PackedNumbers", name := "unpack", desc := "(II[J)V" } : Jvm.MethodName) prog_25_method_5_code (14 : Nat) (Option.none : Option Jvm.ClassFile.FieldType)).before args0 about1 = true := code_word (m := ⟨3, 2⟩) (meth := k3m2) (c := k3c2) (by decide +kernel) rfl rfl rfl (by decide +kernel)
set_option maxRecDepth 65536 in
theorem w_c8 : (Jvm.Cond.code ({ cls := "com/example/hindcut/hindcut/PackedNumbersUnpackPinLaw", name := "slot", desc := "([J[JIIIJ)Z" } : Jvm.MethodName) method_2_code (7 : Nat) (Option.some Jvm.ClassFile.FieldType.boolean)).before args0 about1 = true := code_word (m := ⟨1, 1⟩) (meth := k1m1) (c := k1c1) (by decide +kernel) rfl rfl rfl (by decide +kernel)
def codes1 : List Jvm.Cond := [Jvm.Cond.code x code maxLocals ret, Jvm.Cond.code ({ cls := "java/lang/Math", name := "min", desc := "(II)I" } : Jvm.MethodName) jdk_29_method_69_code (2 : Nat) (Option.some Jvm.ClassFile.FieldType.int), Jvm.Cond.code ({ cls := "com/example/hindcut/hindcut/PackedNumbers", name := "<init>", desc := "(II)V" } : Jvm.MethodName) prog_25_method_1_code (3 : Nat) (Option.none : Option Jvm.ClassFile.FieldType), Jvm.Cond.code ({ cls := "java/lang/Object", name := "<init>", desc := "()V" } : Jvm.MethodName) object_method_1_code (1 : Nat) (Option.none : Option Jvm.ClassFile.FieldType), Jvm.Cond.code ({ cls := "com/example/hindcut/hindcut/PackedNumbers", name := "with", desc := "(IJ)Lcom/example/hindcut/hindcut/PackedNumbers;" } : Jvm.MethodName) prog_25_method_8_code (6 : Nat) (Option.some (Jvm.ClassFile.FieldType.object "com/example/hindcut/hindcut/PackedNumbers")), Jvm.Cond.code ({ cls := "com/example/hindcut/hindcut/PackedNumbers", name := "holds", desc := "(J)Z" } : Jvm.MethodName) prog_25_method_3_code (3 : Nat) (Option.some Jvm.ClassFile.FieldType.boolean), Jvm.Cond.code ({ cls := "com/example/hindcut/hindcut/PackedNumbers", name := "set", desc := "(IJ)V" } : Jvm.MethodName) prog_25_method_7_code (9 : Nat) (Option.none : Option Jvm.ClassFile.FieldType), Jvm.Cond.code ({ cls := "com/example/hindcut/hindcut/PackedNumbers", name := "unpack", desc := "(II[J)V" } : Jvm.MethodName) prog_25_method_5_code (14 : Nat) (Option.none : Option Jvm.ClassFile.FieldType), Jvm.Cond.code ({ cls := "com/example/hindcut/hindcut/PackedNumbersUnpackPinLaw", name := "slot", desc := "([J[JIIIJ)Z" } : Jvm.MethodName) method_2_code (7 : Nat) (Option.some Jvm.ClassFile.FieldType.boolean)]
set_option maxRecDepth 65536 in
theorem codes_eq : words1.filter isCode = codes1 := rfl
theorem w_codes : ∀ c ∈ words1.filter isCode, c.before args0 about1 = true := by
  rw [codes_eq]
  intro c hc
  simp only [codes1, List.mem_cons, List.not_mem_nil, or_false] at hc
  rcases hc with rfl | rfl | rfl | rfl | rfl | rfl | rfl | rfl | rfl
  · exact w_c0
  · exact w_c1
  · exact w_c2
  · exact w_c3
  · exact w_c4
  · exact w_c5
  · exact w_c6
  · exact w_c7
  · exact w_c8
set_option maxRecDepth 65536 in
theorem w_t1 : (words1.take 24).all (fun c => isCode c || c.before args0 about1) = true := by decide +kernel
set_option maxRecDepth 65536 in
theorem w_t2 : ((words1.drop 24).take 24).all (fun c => isCode c || c.before args0 about1) = true := by decide +kernel
set_option maxRecDepth 65536 in
theorem w_t3 : ((words1.drop 24).drop 24).all (fun c => isCode c || c.before args0 about1) = true := by decide +kernel
theorem w_tables : (allAtoms (Jvm.Cond.code x code maxLocals ret :: tables_1)).before args0 about1 = true := by
  rw [allAtoms_all]
  show words1.all (fun c => c.before args0 about1) = true
  refine all_split ?_ w_codes
  rw [← List.take_append_drop 24 words1, List.all_append, w_t1, ← List.take_append_drop 24 (words1.drop 24), List.all_append, w_t2, w_t3]
  rfl
set_option maxRecDepth 65536 in
theorem w_case : (Jvm.Cond.and given_1 narrow_1).before args0 about1 = true := by decide +kernel
theorem w_applies : (headSpec (Jvm.Cond.code x code maxLocals ret :: tables_1) room_1).applies x e0.platform about1 = true :=
  (Spec.applies_iff w_frames).mpr ⟨w_running, w_runnable, w_alone, w_named, w_hears, w_ripe, w_room, w_tables⟩
theorem atStart : AtStart classFile x code maxLocals ret World_1 tables_1 room_1 Calls_1 rest_1 Pre_1 launch0 p0 e0 about1 theMethod args0 below0 :=
  ⟨lists_1, trivial, launch0.admits_env _ _ _, launch0.least_env, fairChoices_fair.cas, fairChoices_fair.clock, w_frames, w_args, w_heap, w_applies, trivial, trivial, w_case⟩
end start1
theorem witness_1 : WitnessClaimed_1 := ⟨start1.p0, start1.e0, start1.about1, start1.theMethod, start1.args0, start1.below0, start1.atStart⟩
end Jvm.Pilot.@@N@@
