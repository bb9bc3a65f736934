import JvmDerived
import JvmDerived.Pilot.@@N@@Statement
import JvmDerived.Pilot.@@N@@Code
set_option linter.unusedVariables false
set_option linter.unusedSimpArgs false
@@BLOCK:NumsL.lean.txt@@
namespace Jvm.Pilot.@@N@@
open Jvm Jvm.ClassFile Sem Op Lib Jvm.Free Jvm.Stand Jvm.LawKit Jvm.RoadKit Bundle Jvm.Pilot.@@N@@.Jvm.D
/-! THE OWN KIT: a walk in small steps to the body's end -/
/-- from T with the frame g on top the body comes to its end, and what it leaves fulfils Q -/
def Dn (p : Program) (e : Env) (below : List Frame) (s : State) (Q : Option Value → Heap → List Loc → Prop) (k n : Nat) (T : State) (g : JFrame) : Prop :=
  ∃ s₂ o, Steps p.tables e below (T.setTop g) s₂ ∧ s₂.status = .running ∧ Ended s₂ below o ∧ ∃ v L, o = .returned v ∧ Q v s₂.heap L ∧ FrameEnd s o s₂ L k n
section OwnKit
variable {p : Program} {l : Launch} {e : Env} {R : Room} {s : State} {m : MethodId} {args : Array Value} {below : List Frame} {meth : Method} {c : Code} {T T' : State} {locs : List Loc} {cells slots : Nat} {Z : State} {h h' : Heap} {g g' : JFrame} {k n : Nat} {Q : Option Value → Heap → List Loc → Prop}
theorem Dn.st (f : ∀ t, Steps p.tables e below (T'.setTop g') t → Steps p.tables e below (T.setTop g) t) (d : Dn p e below s Q k n T' g') : Dn p e below s Q k n T g := by
  obtain ⟨s₂, o, h1, h2⟩ := d
  exact ⟨s₂, o, f _ h1, h2⟩
theorem Dn.tr (f : Steps p.tables e below (T.setTop g) (T'.setTop g')) (d : Dn p e below s Q k n T' g') : Dn p e below s Q k n T g := by
  obtain ⟨s₂, o, h1, h2⟩ := d
  exact ⟨s₂, o, f.trans h1, h2⟩
theorem Dn.cast (q : g = g') (d : Dn p e below s Q k n T g') : Dn p e below s Q k n T g := q ▸ d
theorem Dn.retI (X : Stand p l e R s m args below meth c T locs cells slots) (hx : p.tables.exec = Jvm.exec) (hk : meth.locks = false) {pc : Nat} {Ls : Array Slot} {z : Int32} {rest : List Value} (hret : meth.sig.returnType = some .int) (hd : decode c.code pc = .ok (.ireturn, 1)) (hQ : Q (some (.int z)) T.heap locs) (hc : cells ≤ k) (hs : slots ≤ n) :
    Dn p e below s Q k n T (mkF m pc Ls (.int z :: rest)) := by
  obtain ⟨fs, hr, hrun, hended, hW, hsame⟩ := X.leave (v := some (.int z)) (fun q => by rw [hret] at q; cases q) hk
  exact ⟨_, _, retOut X hx hret rfl (Or.inl ⟨rfl, Or.inl rfl, z, rfl⟩) hd hr, hrun, hended, _, _, rfl, hQ, ⟨_, rfl⟩, hW, hsame.mono hc hs⟩
theorem Dn.retZ (X : Stand p l e R s m args below meth c T locs cells slots) (hx : p.tables.exec = Jvm.exec) (hk : meth.locks = false) {pc : Nat} {Ls : Array Slot} {z : Int32} {t : FieldType} {rest : List Value} (hret : meth.sig.returnType = some t) (ht : t = .boolean ∨ t = .byte ∨ t = .char ∨ t = .short) (hd : decode c.code pc = .ok (.ireturn, 1)) (hQ : Q (some (.int (nar t z))) T.heap locs) (hc : cells ≤ k) (hs : slots ≤ n) :
    Dn p e below s Q k n T (mkF m pc Ls (.int z :: rest)) := by
  obtain ⟨fs, hr, hrun, hended, hW, hsame⟩ := X.leave (v := some (.int (nar t z))) (fun q => by rw [hret] at q; cases q) hk
  exact ⟨_, _, retN X hx hret ht hd hr, hrun, hended, _, _, rfl, hQ, ⟨_, rfl⟩, hW, hsame.mono hc hs⟩
theorem Dn.retJ (X : Stand p l e R s m args below meth c T locs cells slots) (hx : p.tables.exec = Jvm.exec) (hk : meth.locks = false) {pc : Nat} {Ls : Array Slot} {z : Int64} {rest : List Value} (hret : meth.sig.returnType = some .long) (hd : decode c.code pc = .ok (.lreturn, 1)) (hQ : Q (some (.long z)) T.heap locs) (hc : cells ≤ k) (hs : slots ≤ n) :
    Dn p e below s Q k n T (mkF m pc Ls (.long z :: rest)) := by
  obtain ⟨fs, hr, hrun, hended, hW, hsame⟩ := X.leave (v := some (.long z)) (fun q => by rw [hret] at q; cases q) hk
  exact ⟨_, _, retOut X hx hret rfl (Or.inr (Or.inl ⟨rfl, rfl, z, rfl⟩)) hd hr, hrun, hended, _, _, rfl, hQ, ⟨_, rfl⟩, hW, hsame.mono hc hs⟩
theorem Dn.retA (X : Stand p l e R s m args below meth c T locs cells slots) (hx : p.tables.exec = Jvm.exec) (hk : meth.locks = false) {pc : Nat} {Ls : Array Slot} {a : Addr} {t : FieldType} {rest : List Value} (hret : meth.sig.returnType = some t) (ht : t.isReference = true) (hn : narrow t (.ref a) = .ref a) (hd : decode c.code pc = .ok (.areturn, 1)) (hQ : Q (some (.ref a)) T.heap locs) (hc : cells ≤ k) (hs : slots ≤ n) :
    Dn p e below s Q k n T (mkF m pc Ls (.ref a :: rest)) := by
  obtain ⟨fs, hr, hrun, hended, hW, hsame⟩ := X.leave (v := some (.ref a)) (fun q => by rw [hret] at q; cases q) hk
  exact ⟨_, _, retOut X hx hret hn (Or.inr (Or.inr (Or.inr (Or.inr ⟨rfl, ht, rfl⟩)))) hd hr, hrun, hended, _, _, rfl, hQ, ⟨_, rfl⟩, hW, hsame.mono hc hs⟩
theorem Dn.retV (X : Stand p l e R s m args below meth c T locs cells slots) (hx : p.tables.exec = Jvm.exec) (hk : meth.locks = false) {pc : Nat} {Ls : Array Slot} (hret : meth.sig.returnType = none) (hd : decode c.code pc = .ok (.return_, 1)) (hQ : Q none T.heap locs) (hc : cells ≤ k) (hs : slots ≤ n) :
    Dn p e below s Q k n T (mkF m pc Ls []) := by
  obtain ⟨fs, hr, hrun, hended, hW, hsame⟩ := X.leave (v := none) (fun _ => rfl) hk
  exact ⟨_, _, X.returnOut hx hret hd hr, hrun, hended, _, _, rfl, hQ, ⟨_, rfl⟩, hW, hsame.mono hc hs⟩
theorem own_ne {a b : Addr} {j : Nat} (q : a < j) (r : b = j) : a ≠ b := fun e => absurd (e.trans r) (Nat.ne_of_lt q)
theorem own_ne' {a b : Addr} {j : Nat} (q : a < j) (r : j ≤ b) : a ≠ b := Nat.ne_of_lt (Nat.lt_of_lt_of_le q r)
theorem own_self {s : State} {args : Array Value} {y : MethodName} {n : Nat} (wi : (Jvm.Cond.instantiable y.cls n).before args s = true) (wp : (Jvm.Cond.privateMethod y).before args s = true) (hinst : (Jvm.Cond.instanceMethod y).before args s = true) (hy : y.cls ≠ "java/lang/invoke/MethodHandle" ∧ y.cls ≠ "java/lang/invoke/VarHandle") : (Jvm.Cond.selects y.cls y y).before args s = true := by
  obtain ⟨c, k, h1, h2, -, h4, -⟩ := Jvm.Cond.instantiable_spec wi
  exact selects_self_of_private h1 h2 (Bool.or_eq_false_iff.mp h4).1 (Jvm.Cond.privateMethod_at wp) hinst hy
end OwnKit
/-! ARRAYS BY A FUNCTION: the array at a has n places, place j holds f j -/
def Ary (Z : State) (h : Heap) (a : Addr) (ty : FieldType) (n : Nat) (f : Nat → Value) : Prop := ∃ c : Cell, Arr Z h a c ty ∧ c.slots.size = n ∧ ∀ j, j < n → c.slots[j]? = some (f j)
section OwnAry
variable {p : Program} {l : Launch} {e : Env} {R : Room} {s : State} {m : MethodId} {args : Array Value} {below : List Frame} {meth : Method} {c : Code} {T T' : State} {locs : List Loc} {cells slots : Nat} {Z : State} {h h' : Heap} {a b : Addr} {ty : FieldType} {n i sl : Nat} {f f' : Nat → Value} {v : Value} {ws : List Addr} {j : Int32}
theorem Ary.lt (F : Ary Z h a ty n f) : a < h.size := by obtain ⟨c, A, -⟩ := F; exact A.lt
theorem Ary.ext (F : Ary Z h a ty n f) (E : Ext h h') : Ary Z h' a ty n f := by obtain ⟨c, A, r⟩ := F; exact ⟨c, A.ext E, r⟩
theorem Ary.other (F : Ary Z h b ty n f) (W : Wr h h' a sl v) (q : b ≠ a) : Ary Z h' b ty n f := by obtain ⟨c, A, r⟩ := F; exact ⟨c, A.other W q, r⟩
theorem Ary.keep (F : Ary Z h a ty n f) (K : Keep h h' ws) (q : a ∉ ws) : Ary Z h' a ty n f := by obtain ⟨c, A, r⟩ := F; exact ⟨c, ⟨K.2.1 a c A.1 q, A.2⟩, r⟩
theorem Ary.congr (F : Ary Z h a ty n f) (q : ∀ j, j < n → f' j = f j) : Ary Z h a ty n f' := by obtain ⟨c, A, S, H⟩ := F; exact ⟨c, A, S, fun j hj => by rw [q j hj]; exact H j hj⟩
theorem Ary.new {k : ClassId} {z : Int32} (A : Arr Z h a (newA k ty z) ty) (q : z.toInt = n) : Ary Z h a ty n (fun _ => defaultValue ty) := by
  have e1 : z.toNatClampNeg = n := by simp only [Int32.toNatClampNeg, q]; rfl
  refine ⟨_, A, by rw [sz_new]; exact e1, fun i hi => ?_⟩
  simp [newA, e1, hi]
theorem own_clamp (q : j.toInt = (i : Int)) : j.toNatClampNeg = i := by simp only [Int32.toNatClampNeg, q]; rfl
theorem own_nneg (q : j.toInt = (i : Int)) : ¬ j < 0 := by rw [Int32.lt_iff_toInt_lt, q]; show ¬ (i : Int) < 0; omega
theorem Ary.set (F : Ary Z h a ty n f) (W : Wr h h' a j.toNatClampNeg v) (q : j.toInt = (i : Int)) (hi : i < n) : Ary Z h' a ty n (fun x => if x = i then v else f x) := by
  obtain ⟨c, A, S, H⟩ := F
  rw [own_clamp q] at W
  refine ⟨_, A.same W, by rw [sz_set]; exact S, fun x hx => ?_⟩
  by_cases u : x = i
  · subst u; simp [Cell.setSlot, S, hx]
  · have := H x hx; simp only [Cell.setSlot, u, if_false]
    rw [Array.getElem?_setIfInBounds_ne (Ne.symm u)]; exact this
theorem own_inb {cl : Cell} (S : cl.slots.size = n) (q : j.toInt = (i : Int)) (hi : i < n) : ¬ (j < 0 ∨ cl.slots.size ≤ j.toNatClampNeg) := by
  rw [own_clamp q, S]; exact fun r => r.elim (own_nneg q) (fun z => absurd hi (Nat.not_lt.mpr z))
theorem aLen (X : Stand p l e R s m args below meth c T locs cells slots) (hx : p.tables.exec = Jvm.exec) (hZ : Z.Warmed39 s.vm) (eT : T.heap = h) (F : Ary Z h a ty n f) {g : JFrame} (hg : g.method = m) {rest : List Value} (hs : g.stack = .ref a :: rest) (hd : decode c.code g.pc = .ok (.arraylength, 1)) :
    ∀ t, Steps p.tables e below (T.setTop { g with pc := g.pc + 1, stack := .int (n.toInt32) :: rest }) t → Steps p.tables e below (T.setTop g) t := by
  obtain ⟨cl, A, S, H⟩ := F
  intro t q
  refine X.arraylength hx (by rw [eT]; exact A.1) (State.isArrayOf_alike hZ.alike A.2.1) hg hs hd t ?_
  rw [S]; exact q
theorem aLoadI {w : Nat → Int32} (X : Stand p l e R s m args below meth c T locs cells slots) (hx : p.tables.exec = Jvm.exec) (hZ : Z.Warmed39 s.vm) (eT : T.heap = h) (F : Ary Z h a .int n (fun x => .int (w x))) (q : j.toInt = (i : Int)) (hi : i < n) {g : JFrame} (hg : g.method = m) {rest : List Value} (hs : g.stack = .int j :: .ref a :: rest) (hd : decode c.code g.pc = .ok (.iaload, 1)) :
    ∀ t, Steps p.tables e below (T.setTop { g with pc := g.pc + 1, stack := .int (w i) :: rest }) t → Steps p.tables e below (T.setTop g) t := by
  obtain ⟨cl, A, S, H⟩ := F
  exact X.iaload hx (by rw [eT]; exact A.1) (State.isArrayOf_alike hZ.alike A.2.1) A.2.2 (own_inb S q hi) (by rw [own_clamp q]; exact H i hi) hg hs hd
theorem aLoadJ {w : Nat → Int64} (X : Stand p l e R s m args below meth c T locs cells slots) (hx : p.tables.exec = Jvm.exec) (hZ : Z.Warmed39 s.vm) (eT : T.heap = h) (F : Ary Z h a .long n (fun x => .long (w x))) (q : j.toInt = (i : Int)) (hi : i < n) {g : JFrame} (hg : g.method = m) {rest : List Value} (hs : g.stack = .int j :: .ref a :: rest) (hd : decode c.code g.pc = .ok (.laload, 1)) :
    ∀ t, Steps p.tables e below (T.setTop { g with pc := g.pc + 1, stack := .long (w i) :: rest }) t → Steps p.tables e below (T.setTop g) t := by
  obtain ⟨cl, A, S, H⟩ := F
  exact X.laload hx (by rw [eT]; exact A.1) (State.isArrayOf_alike hZ.alike A.2.1) A.2.2 (own_inb S q hi) (by rw [own_clamp q]; exact H i hi) hg hs hd
theorem aLoadB {w : Nat → Int32} (X : Stand p l e R s m args below meth c T locs cells slots) (hx : p.tables.exec = Jvm.exec) (hZ : Z.Warmed39 s.vm) (eT : T.heap = h) (F : Ary Z h a .byte n (fun x => .int (w x))) (q : j.toInt = (i : Int)) (hi : i < n) {g : JFrame} (hg : g.method = m) {rest : List Value} (hs : g.stack = .int j :: .ref a :: rest) (hd : decode c.code g.pc = .ok (.baload, 1)) :
    ∀ t, Steps p.tables e below (T.setTop { g with pc := g.pc + 1, stack := .int (w i) :: rest }) t → Steps p.tables e below (T.setTop g) t := by
  obtain ⟨cl, A, S, H⟩ := F
  exact X.baloadBytes hx (by rw [eT]; exact A.1) (State.isArrayOf_alike hZ.alike A.2.1) A.2.2 (own_inb S q hi) (by rw [own_clamp q]; exact H i hi) hg hs hd
theorem aStoI (X : Stand p l e R s m args below meth c T locs cells slots) (hx : p.tables.exec = Jvm.exec) (hZ : Z.Warmed39 s.vm) (eT : T.heap = h) (F : Ary Z h a .int n f) {x : Int32} (q : j.toInt = (i : Int)) (hi : i < n) {g : JFrame} (hg : g.method = m) {rest : List Value} (hs : g.stack = .int x :: .int j :: .ref a :: rest) (hd : decode c.code g.pc = .ok (.iastore, 1)) :
    ∃ T' h', Stand p l e R s m args below meth c T' (locs ++ [⟨a, j.toNatClampNeg⟩]) cells slots ∧ T'.heap = h' ∧ Wr h h' a j.toNatClampNeg (.int x) ∧ Ary Z h' a .int n (fun y => if y = i then .int x else f y) ∧ ∀ t, Steps p.tables e below (T'.setTop { g with pc := g.pc + 1, stack := rest }) t → Steps p.tables e below (T.setTop g) t := by
  obtain ⟨cl, A, S, H⟩ := id F
  obtain ⟨T', h', X', e', W, st⟩ := stI X hx hZ eT A (own_inb S q hi) hg hs hd
  exact ⟨T', h', X', e', W, F.set W q hi, st⟩
theorem aStoJ (X : Stand p l e R s m args below meth c T locs cells slots) (hx : p.tables.exec = Jvm.exec) (hZ : Z.Warmed39 s.vm) (eT : T.heap = h) (F : Ary Z h a .long n f) {x : Int64} (q : j.toInt = (i : Int)) (hi : i < n) {g : JFrame} (hg : g.method = m) {rest : List Value} (hs : g.stack = .long x :: .int j :: .ref a :: rest) (hd : decode c.code g.pc = .ok (.lastore, 1)) :
    ∃ T' h', Stand p l e R s m args below meth c T' (locs ++ [⟨a, j.toNatClampNeg⟩]) cells slots ∧ T'.heap = h' ∧ Wr h h' a j.toNatClampNeg (.long x) ∧ Ary Z h' a .long n (fun y => if y = i then .long x else f y) ∧ ∀ t, Steps p.tables e below (T'.setTop { g with pc := g.pc + 1, stack := rest }) t → Steps p.tables e below (T.setTop g) t := by
  obtain ⟨cl, A, S, H⟩ := id F
  obtain ⟨T', h', X', e', W, st⟩ := stJ X hx hZ eT A (own_inb S q hi) hg hs hd
  exact ⟨T', h', X', e', W, F.set W q hi, st⟩
theorem aStoB (X : Stand p l e R s m args below meth c T locs cells slots) (hx : p.tables.exec = Jvm.exec) (hZ : Z.Warmed39 s.vm) (eT : T.heap = h) (F : Ary Z h a .byte n f) {x : Int32} (q : j.toInt = (i : Int)) (hi : i < n) {g : JFrame} (hg : g.method = m) {rest : List Value} (hs : g.stack = .int x :: .int j :: .ref a :: rest) (hd : decode c.code g.pc = .ok (.bastore, 1)) :
    ∃ T' h', Stand p l e R s m args below meth c T' (locs ++ [⟨a, j.toNatClampNeg⟩]) cells slots ∧ T'.heap = h' ∧ Wr h h' a j.toNatClampNeg (.int (nar .byte x)) ∧ Ary Z h' a .byte n (fun y => if y = i then .int (nar .byte x) else f y) ∧ ∀ t, Steps p.tables e below (T'.setTop { g with pc := g.pc + 1, stack := rest }) t → Steps p.tables e below (T.setTop g) t := by
  obtain ⟨cl, A, S, H⟩ := id F
  obtain ⟨T', h', X', e', W, st⟩ := stB X hx hZ eT A (own_inb S q hi) hg hs hd
  exact ⟨T', h', X', e', W, F.set W q hi, st⟩
theorem aCloneI {w : Nat → Int32} {a0 : Array Value} {own : String} {index : Nat} (X : Stand p l e R s m args below meth c T locs cells slots) (hx : p.tables.exec = Jvm.exec) (hZ : Z.Warmed39 s.vm) (hown : s.vm.findClass own = some m.cls)
    (w1 : (Jvm.Cond.methodLink own index ⟨"[I", "clone", "()Ljava/lang/Object;"⟩).before a0 Z = true) (w2 : (Jvm.Cond.sameMethod "[I" "java/lang/Object" "clone" "()Ljava/lang/Object;").before a0 Z = true) (w3 : (Jvm.Cond.native ⟨"java/lang/Object", "clone", "()Ljava/lang/Object;"⟩).before a0 Z = true)
    (w4 : (Jvm.Cond.instanceMethod ⟨"java/lang/Object", "clone", "()Ljava/lang/Object;"⟩).before a0 Z = true) (w5 : (Jvm.Cond.selects "[I" ⟨"[I", "clone", "()Ljava/lang/Object;"⟩ ⟨"java/lang/Object", "clone", "()Ljava/lang/Object;"⟩).before a0 Z = true) (w6 : (Jvm.Cond.castable "[I" "java/lang/Cloneable").before a0 Z = true)
    (eT : T.heap = h) (F : Ary Z h a .int n (fun x => .int (w x))) (E : Exa Z h a "[I") {g : JFrame} (hg : g.method = m) (hsize : g.locals.size = c.maxLocals) {rest : List Value} (hs : g.stack = .ref a :: rest) (hd : decode c.code g.pc = .ok (.invokevirtual index, 3))
    (hf : 1 ≤ R.frames) {W cap : Nat} (hW : 2 * g.monitorRoom + (rest.map fun v => v.category).sum ≤ W) (hl : W + 14 ≤ R.locals) (hcap : n ≤ cap) (hc : cells + 1 ≤ R.cells) (hsl : slots + cap ≤ R.slots) :
    ∃ T' h', Stand p l e R s m args below meth c T' locs (cells + 1) (slots + cap) ∧ T'.heap = h' ∧ Ext h h' ∧ Ary Z h' h.size .int n (fun x => .int (w x)) ∧ Exa Z h' h.size "[I" ∧
      ∀ t, Steps p.tables e below (T'.setTop { g with pc := g.pc + 3, stack := .ref h.size :: rest }) t → Steps p.tables e below (T.setTop g) t := by
  obtain ⟨cl, A, S, H⟩ := F
  have FC : FitC Z cl := fitC_of A fun i hi v hv => by rw [H i (by rw [← S]; exact hi)] at hv; cases hv; rfl
  obtain ⟨T', h', X', e', ex, A', E', st⟩ := cloneA X hx hZ hown w1 w2 w3 w4 w5 w6 eT A E FC hg hsize hs hd hf hW hl (by rw [S]; exact hcap) hc hsl
  exact ⟨T', h', X', e', ex, ⟨cloneOf cl, A', S, H⟩, E', st⟩
end OwnAry
theorem d1_0 : decode method_2_code 0 = .ok (.iload_n 0, 1) := by decide +kernel
theorem d1_1 : decode method_2_code 1 = .ok (.i2b, 1) := by decide +kernel
theorem d1_2 : decode method_2_code 2 = .ok (.istore_n 1, 1) := by decide +kernel
theorem d1_3 : decode method_2_code 3 = .ok (.iload_n 1, 1) := by decide +kernel
theorem d1_4 : decode method_2_code 4 = .ok (.bipush 13, 2) := by decide +kernel
theorem d1_6 : decode method_2_code 6 = .ok (.if_icmp .ne 8, 3) := by decide +kernel
theorem d1_9 : decode method_2_code 9 = .ok (.bipush 120, 2) := by decide +kernel
theorem d1_11 : decode method_2_code 11 = .ok (.goto 4, 3) := by decide +kernel
theorem d1_14 : decode method_2_code 14 = .ok (.iload_n 1, 1) := by decide +kernel
def own_ct (x0 : Int32) : Int32 := (if (x0.toInt8.toInt32) = (13 : Int32) then (nar .byte (120 : Int32)) else (nar .byte (x0.toInt8.toInt32)))
theorem d1_15 : decode method_2_code 15 = .ok (.ireturn, 1) := by decide +kernel
theorem pn_0 : plainName "com/example/coppice/coppice/http/LineClearPinLaw" = true := by first | (simp [plainName, overriddenIn]; done) | decide +kernel
theorem ef_rm1 (m : MethodId) (x0 : Int32) : entryFrame m #[(.int x0)] 2 = mkF m 0 #[.val (.int x0), .unset] [] := by first | (simp [entryFrame, mkF, argsToLocals, Value.category]; done) | rfl
def Q1 (Z : State) (x0 : Int32) (h0 : Heap) (n0 : Nat) (v : Option Value) (h : Heap) (L : List Loc) : Prop := v = some (.int (own_ct x0)) ∧ Fr n0 L ∧ h = h0
set_option maxRecDepth 65536 in
set_option maxHeartbeats 40000000 in
theorem rm1 (l : Launch) (Z : State) (a0 : Array Value) (hw : ∀ d ∈ tables_1, d.before a0 Z = true) (ws : List Jvm.Cond) (x0 : Int32) (h0 : Heap) (n0 : Nat) (Z0 : n0 ≤ h0.size) :
    MetFree l (⟨"com/example/coppice/coppice/http/LineClearPinLaw", "content", "(I)B"⟩ : MethodName) (head1 (Jvm.Cond.code (⟨"com/example/coppice/coppice/http/LineClearPinLaw", "content", "(I)B"⟩ : MethodName) method_2_code 2 (some .byte) :: ws) ({ frames := 0, cells := 0, slots := 0, locals := 0 } : Room)) (fun a U => a = #[(.int x0)] ∧ Z.Warmed39 U.vm ∧ U.heap = h0) (fun _ _ _ _ _ => True) (fun _ U o U' => ∃ v L, o = .returned v ∧ Q1 Z x0 h0 n0 v U'.heap L ∧ FrameEnd U o U' L ({ frames := 0, cells := 0, slots := 0, locals := 0 } : Room).cells ({ frames := 0, cells := 0, slots := 0, locals := 0 } : Room).slots) := by
  refine MetFree.of_bodySF (plainFor_of_name pn_0) hisR ?_
  intro p e s m args below meth c s₁ Bd hml0 hP hK
  obtain ⟨rfl, hZ, hh⟩ := hP
  have hx := Bd.exec
  have hby := Bd.bytes
  have hml : c.maxLocals = 2 := hml0
  have hown : s.vm.findClass "com/example/coppice/coppice/http/LineClearPinLaw" = some m.cls := findClass_of_methodNamed Bd.named
  have hnm := (name_of_methodNamed Bd.named Bd.method).1
  have X0 : Stand p l e ({ frames := 0, cells := 0, slots := 0, locals := 0 } : Room) s m #[(.int x0)] below meth c s₁ [] 0 0 := Stand.of_body Bd
  have e0 : s₁.heap = h0 := by rw [← hh, Bd.state]; rfl
  have N0 := Fr.nil n0
  have K0 := Keep.refl h0 []
  suffices hD : Dn p e below s (Q1 Z x0 h0 n0) ({ frames := 0, cells := 0, slots := 0, locals := 0 } : Room).cells ({ frames := 0, cells := 0, slots := 0, locals := 0 } : Room).slots s₁ (mkF m 0 #[.val (.int x0), .unset] []) from by
    obtain ⟨s₂, o, q1, q2⟩ := hD
    exact ⟨s₂, o, castTop (ef_rm1 m x0) q1, q2⟩
  refine Dn.st (fun t q => XS.iloadN X0.here hx rfl (hb hby d1_0) rfl  q) ?_
  show Dn p e below s _ _ _ s₁ (mkF m 1 #[.val (.int x0), .unset] [(.int x0)])
  refine Dn.st (fun t q => XS.i2b X0.here hx rfl (hb hby d1_1) rfl q) ?_
  show Dn p e below s _ _ _ s₁ (mkF m 2 #[.val (.int x0), .unset] [(.int (x0.toInt8.toInt32))])
  refine Dn.st (fun t q => XS.istoreN X0.here hx rfl (hb hby d1_2) rfl (l' := #[.val (.int x0), .val (.int (x0.toInt8.toInt32))]) rfl q) ?_
  show Dn p e below s _ _ _ s₁ (mkF m 3 #[.val (.int x0), .val (.int (x0.toInt8.toInt32))] [])
  refine Dn.st (fun t q => XS.iloadN X0.here hx rfl (hb hby d1_3) rfl  q) ?_
  show Dn p e below s _ _ _ s₁ (mkF m 4 #[.val (.int x0), .val (.int (x0.toInt8.toInt32))] [(.int (x0.toInt8.toInt32))])
  refine Dn.st (fun t q => XS.bipush X0.here hx rfl (hb hby d1_4) q) ?_
  show Dn p e below s _ _ _ s₁ (mkF m 6 #[.val (.int x0), .val (.int (x0.toInt8.toInt32))] [(.int (13 : Int32)), (.int (x0.toInt8.toInt32))])
  by_cases c1 : (x0.toInt8.toInt32) = (13 : Int32)
  · refine Dn.st (fun t q => XS.icmpNo X0.here hx rfl (hb hby d1_6) rfl (teq c1).2 q) ?_
    show Dn p e below s _ _ _ s₁ (mkF m 9 #[.val (.int x0), .val (.int (x0.toInt8.toInt32))] [])
    refine Dn.st (fun t q => XS.bipush X0.here hx rfl (hb hby d1_9) q) ?_
    show Dn p e below s _ _ _ s₁ (mkF m 11 #[.val (.int x0), .val (.int (x0.toInt8.toInt32))] [(.int (120 : Int32))])
    refine Dn.st (fun t q => XS.goto X0.here hx rfl (pc0 := 11) (pc' := 15) rfl (hb hby d1_11) (by decide) (by decide) q) ?_
    show Dn p e below s _ _ _ s₁ (mkF m 15 #[.val (.int x0), .val (.int (x0.toInt8.toInt32))] [(.int (120 : Int32))])
    exact Dn.retZ X0 hx Bd.notSynchronized (t := .byte) Bd.returns (by simp) (hb hby d1_15) (by rw [e0]; exact ⟨by show some (Value.int (nar .byte (120 : Int32))) = some (Value.int (own_ct x0)); rw [own_ct, if_pos c1], N0, rfl⟩) (by decide) (by decide)
  · refine Dn.st (fun t q => XS.icmpYes X0.here hx rfl (pc0 := 6) (pc' := 14) rfl (hb hby d1_6) rfl (feq c1).2 (by decide) (by decide) q) ?_
    show Dn p e below s _ _ _ s₁ (mkF m 14 #[.val (.int x0), .val (.int (x0.toInt8.toInt32))] [])
    refine Dn.st (fun t q => XS.iloadN X0.here hx rfl (hb hby d1_14) rfl  q) ?_
    show Dn p e below s _ _ _ s₁ (mkF m 15 #[.val (.int x0), .val (.int (x0.toInt8.toInt32))] [(.int (x0.toInt8.toInt32))])
    exact Dn.retZ X0 hx Bd.notSynchronized (t := .byte) Bd.returns (by simp) (hb hby d1_15) (by rw [e0]; exact ⟨by show some (Value.int (nar .byte (x0.toInt8.toInt32))) = some (Value.int (own_ct x0)); rw [own_ct, if_neg c1], N0, rfl⟩) (by decide) (by decide)
theorem d11_0 : decode jdk_29_method_69_code 0 = .ok (.iload_n 0, 1) := by decide +kernel
theorem d11_1 : decode jdk_29_method_69_code 1 = .ok (.iload_n 1, 1) := by decide +kernel
theorem d11_2 : decode jdk_29_method_69_code 2 = .ok (.if_icmp .gt 7, 3) := by decide +kernel
theorem d11_9 : decode jdk_29_method_69_code 9 = .ok (.iload_n 1, 1) := by decide +kernel
theorem d11_5 : decode jdk_29_method_69_code 5 = .ok (.iload_n 0, 1) := by decide +kernel
theorem d11_6 : decode jdk_29_method_69_code 6 = .ok (.goto 4, 3) := by decide +kernel
def own_min (x1 : Int32) (x2 : Int32) : Int32 := (if x2 < x1 then x2 else x1)
theorem d11_10 : decode jdk_29_method_69_code 10 = .ok (.ireturn, 1) := by decide +kernel
theorem ef_rm11 (m : MethodId) (x0 : Int32) (x1 : Int32) : entryFrame m #[(.int x0), (.int x1)] 2 = mkF m 0 #[.val (.int x0), .val (.int x1)] [] := by first | (simp [entryFrame, mkF, argsToLocals, Value.category]; done) | rfl
def Q11 (Z : State) (x1 : Int32) (x2 : Int32) (h0 : Heap) (n0 : Nat) (v : Option Value) (h : Heap) (L : List Loc) : Prop := v = some (.int (own_min x1 x2)) ∧ Fr n0 L ∧ h = h0
set_option maxRecDepth 65536 in
set_option maxHeartbeats 40000000 in
theorem rm11 (l : Launch) (Z : State) (a0 : Array Value) (hw : ∀ d ∈ tables_1, d.before a0 Z = true) (ws : List Jvm.Cond) (x1 : Int32) (x2 : Int32) (h0 : Heap) (n0 : Nat) (Z0 : n0 ≤ h0.size) :
    MetFree l (⟨"java/lang/Math", "min", "(II)I"⟩ : MethodName) (head1 (Jvm.Cond.code (⟨"java/lang/Math", "min", "(II)I"⟩ : MethodName) jdk_29_method_69_code 2 (some .int) :: ws) ({ frames := 0, cells := 0, slots := 0, locals := 0 } : Room)) (fun a U => a = #[(.int x1), (.int x2)] ∧ Z.Warmed39 U.vm ∧ U.heap = h0) (fun _ _ _ _ _ => True) (fun _ U o U' => ∃ v L, o = .returned v ∧ Q11 Z x1 x2 h0 n0 v U'.heap L ∧ FrameEnd U o U' L ({ frames := 0, cells := 0, slots := 0, locals := 0 } : Room).cells ({ frames := 0, cells := 0, slots := 0, locals := 0 } : Room).slots) := by
  refine MetFree.of_bodySF (Jvm.Free.JP.mathPlain rfl (by decide +kernel)) hisR ?_
  intro p e s m args below meth c s₁ Bd hml0 hP hK
  obtain ⟨rfl, hZ, hh⟩ := hP
  have hx := Bd.exec
  have hby := Bd.bytes
  have hml : c.maxLocals = 2 := hml0
  have hown : s.vm.findClass "java/lang/Math" = some m.cls := findClass_of_methodNamed Bd.named
  have hnm := (name_of_methodNamed Bd.named Bd.method).1
  have X0 : Stand p l e ({ frames := 0, cells := 0, slots := 0, locals := 0 } : Room) s m #[(.int x1), (.int x2)] below meth c s₁ [] 0 0 := Stand.of_body Bd
  have e0 : s₁.heap = h0 := by rw [← hh, Bd.state]; rfl
  have N0 := Fr.nil n0
  have K0 := Keep.refl h0 []
  suffices hD : Dn p e below s (Q11 Z x1 x2 h0 n0) ({ frames := 0, cells := 0, slots := 0, locals := 0 } : Room).cells ({ frames := 0, cells := 0, slots := 0, locals := 0 } : Room).slots s₁ (mkF m 0 #[.val (.int x1), .val (.int x2)] []) from by
    obtain ⟨s₂, o, q1, q2⟩ := hD
    exact ⟨s₂, o, castTop (ef_rm11 m x1 x2) q1, q2⟩
  refine Dn.st (fun t q => XS.iloadN X0.here hx rfl (hb hby d11_0) rfl  q) ?_
  show Dn p e below s _ _ _ s₁ (mkF m 1 #[.val (.int x1), .val (.int x2)] [(.int x1)])
  refine Dn.st (fun t q => XS.iloadN X0.here hx rfl (hb hby d11_1) rfl  q) ?_
  show Dn p e below s _ _ _ s₁ (mkF m 2 #[.val (.int x1), .val (.int x2)] [(.int x2), (.int x1)])
  by_cases c1 : x2 < x1
  · refine Dn.st (fun t q => XS.icmpYes X0.here hx rfl (pc0 := 2) (pc' := 9) rfl (hb hby d11_2) rfl (tlt c1).2.2.1 (by decide) (by decide) q) ?_
    show Dn p e below s _ _ _ s₁ (mkF m 9 #[.val (.int x1), .val (.int x2)] [])
    refine Dn.st (fun t q => XS.iloadN X0.here hx rfl (hb hby d11_9) rfl  q) ?_
    show Dn p e below s _ _ _ s₁ (mkF m 10 #[.val (.int x1), .val (.int x2)] [(.int x2)])
    exact Dn.retI X0 hx Bd.notSynchronized Bd.returns (hb hby d11_10) (by rw [e0]; exact ⟨by show some (Value.int x2) = some (Value.int (own_min x1 x2)); rw [own_min, if_pos c1], N0, rfl⟩) (by decide) (by decide)
  · refine Dn.st (fun t q => XS.icmpNo X0.here hx rfl (hb hby d11_2) rfl (flt c1).2.2.1 q) ?_
    show Dn p e below s _ _ _ s₁ (mkF m 5 #[.val (.int x1), .val (.int x2)] [])
    refine Dn.st (fun t q => XS.iloadN X0.here hx rfl (hb hby d11_5) rfl  q) ?_
    show Dn p e below s _ _ _ s₁ (mkF m 6 #[.val (.int x1), .val (.int x2)] [(.int x1)])
    refine Dn.st (fun t q => XS.goto X0.here hx rfl (pc0 := 6) (pc' := 10) rfl (hb hby d11_6) (by decide) (by decide) q) ?_
    show Dn p e below s _ _ _ s₁ (mkF m 10 #[.val (.int x1), .val (.int x2)] [(.int x1)])
    exact Dn.retI X0 hx Bd.notSynchronized Bd.returns (hb hby d11_10) (by rw [e0]; exact ⟨by show some (Value.int x1) = some (Value.int (own_min x1 x2)); rw [own_min, if_neg c1], N0, rfl⟩) (by decide) (by decide)
theorem own_ite {p : Prop} [Decidable p] {a b : Int32} : Value.int (if p then a else b) = if p then Value.int a else Value.int b := by split <;> rfl
def own_a3 (p q r : Int32) (x : Nat) : Int32 := if x = 2 then r else if x = 1 then q else if x = 0 then p else (0 : Int32)
def own_nt (u : Nat → Int32) : Prop := ∀ j, j < 2 → u j = 13 → u (j + 1) = 10
theorem own_nt0 {p r : Int32} (hb : ¬ (p = (13 : Int32))) : own_nt (own_a3 p p r) := fun j hj h => by
  match j, hj with
  | 0, _ => exact absurd h hb
  | 1, _ => exact absurd h hb
theorem own_nt3 {p : Int32} (hb : ¬ (p = (13 : Int32))) : own_nt (own_a3 p (nar .byte (13 : Int32)) (nar .byte (10 : Int32))) := fun j hj h => by
  match j, hj with
  | 0, _ => exact absurd h hb
  | 1, _ => rfl
def own_bi : Bool → Int32
  | true => 1
  | false => 0
def own_ov : Bool → Int32 → Int32
  | true, _ => 1
  | false, x => x
def own_scan (u : Nat → Int32) (lim : Int32) : Nat → Int32 → Int32
  | 0, s => s
  | f + 1, s => if s < lim then (if u s.toInt.toNat = 10 then s else if u s.toInt.toNat = 13 then s else own_scan u lim f (s + 1)) else s
def own_tk (u : Nat → Int32) (t mx : Int32) : Nat → Int32 → Int32 → Int32 → Bool → Bool → (Int32 × Int32 × Int32 × Bool × Bool × Bool)
  | 0, i, ln, lr, en, cr => (i, lr, ln, en, cr, false)
  | f + 1, i, ln, lr, en, cr => if i < t then (match en with
      | true => (i, lr, ln, true, cr, false)
      | false => if u i.toInt.toNat = 10 then own_tk u t mx f (i + 1) ln lr true cr else if u i.toInt.toNat = 13 then own_tk u t mx f (i + 1) ln lr false true
          else if own_scan u (own_min t ((i + mx) - ln)) 4 i = i then (i, lr, ln, false, cr, true) else own_tk u t mx f (own_scan u (own_min t ((i + mx) - ln)) 4 i) (ln + (own_scan u (own_min t ((i + mx) - ln)) 4 i - i)) (own_scan u (own_min t ((i + mx) - ln)) 4 i - i) false cr)
    else (i, lr, ln, en, cr, false)
def own_R (u : Nat → Int32) (t mx : Int32) : Int32 × Int32 × Int32 × Bool × Bool × Bool := own_tk u t mx 4 0 0 0 false false
section OwnTake
variable {u : Nat → Int32} {t mx i ln lr : Int32} {f j tt : Nat} {en cr : Bool}
theorem own_nn (hj : i.toInt = (j : Int)) : i.toInt.toNat = j := by rw [hj]; rfl
theorem own_tk_0 (hn : ¬ (i < t)) : own_tk u t mx f i ln lr en cr = (i, lr, ln, en, cr, false) := by
  cases f with
  | zero => rfl
  | succ f => unfold own_tk; exact if_neg hn
theorem own_tk_en (hat : i < t) : own_tk u t mx (f + 1) i ln lr true cr = (i, lr, ln, true, cr, false) := by
  rw [own_tk, if_pos hat]
theorem own_tk_10 (hat : i < t) (hj : i.toInt = (j : Int)) (h10 : u j = 10) : own_tk u t mx (f + 1) i ln lr false cr = own_tk u t mx f (i + 1) ln lr true cr := by
  rw [own_tk, if_pos hat]; simp only [own_nn hj]; rw [if_pos h10]
theorem own_tk_13 (hat : i < t) (hj : i.toInt = (j : Int)) (h10 : ¬ (u j = 10)) (h13 : u j = 13) : own_tk u t mx (f + 1) i ln lr false cr = own_tk u t mx f (i + 1) ln lr false true := by
  rw [own_tk, if_pos hat]; simp only [own_nn hj]; rw [if_neg h10, if_pos h13]
theorem own_tk_ov (hat : i < t) (hj : i.toInt = (j : Int)) (h10 : ¬ (u j = 10)) (h13 : ¬ (u j = 13)) (h7 : own_scan u (own_min t ((i + mx) - ln)) 4 i = i) : own_tk u t mx (f + 1) i ln lr false cr = (i, lr, ln, false, cr, true) := by
  rw [own_tk, if_pos hat]; simp only [own_nn hj]; rw [if_neg h10, if_neg h13, if_pos h7]
theorem own_tk_run {i7 : Int32} (hat : i < t) (hj : i.toInt = (j : Int)) (h10 : ¬ (u j = 10)) (h13 : ¬ (u j = 13)) (h7 : own_scan u (own_min t ((i + mx) - ln)) 4 i = i7) (hii : ¬ (i7 = i)) : own_tk u t mx (f + 1) i ln lr false cr = own_tk u t mx f i7 (ln + (i7 - i)) (i7 - i) false cr := by
  rw [own_tk, if_pos hat]; simp only [own_nn hj]; rw [if_neg h10, if_neg h13, h7, if_neg hii]
theorem own_nat (hj : i.toInt = (j : Int)) (ht : t.toInt = (tt : Int)) (hf : tt < j + 0) : ¬ (i < t) := by rw [Int32.lt_iff_toInt_lt]; omega
theorem own_j3 (hj : i.toInt = (j : Int)) (ht : t.toInt = (tt : Int)) (h3 : tt ≤ 3) (hat : i < t) : j < 3 := by rw [Int32.lt_iff_toInt_lt] at hat; omega
theorem own_up (hj : i.toInt = (j : Int)) (h3 : j < 3) : (i + 1).toInt = ((j + 1 : Nat) : Int) := by
  have e1 : (1 : Int32).toInt = 1 := rfl
  rw [Jvm.Kit.i32_add (by omega) (by omega), hj, e1]; omega
theorem own_ntj (hnt : own_nt u) (h : 0 < j ∧ u (j - 1) = 13) (h3 : j < 3) : u j = 10 := by
  have := hnt (j - 1) (by omega) h.2
  rwa [show j - 1 + 1 = j by omega] at this
theorem own_lim {y : Int32} (ht : t.toInt = (tt : Int)) (h3 : tt ≤ 3) : (own_min t y).toInt ≤ 3 := by
  unfold own_min; split
  · rename_i q; rw [Int32.lt_iff_toInt_lt] at q; omega
  · omega
variable {lim : Int32}
theorem own_scan_out (h : ¬ (i < lim)) : own_scan u lim (f + 1) i = i := by rw [own_scan, if_neg h]
theorem own_scan_10 (h : i < lim) (hj : i.toInt = (j : Int)) (h10 : u j = 10) : own_scan u lim (f + 1) i = i := by rw [own_scan, if_pos h, own_nn hj, if_pos h10]
theorem own_scan_13 (h : i < lim) (hj : i.toInt = (j : Int)) (h10 : ¬ (u j = 10)) (h13 : u j = 13) : own_scan u lim (f + 1) i = i := by rw [own_scan, if_pos h, own_nn hj, if_neg h10, if_pos h13]
theorem own_scan_go (h : i < lim) (hj : i.toInt = (j : Int)) (h10 : ¬ (u j = 10)) (h13 : ¬ (u j = 13)) : own_scan u lim (f + 1) i = own_scan u lim f (i + 1) := by rw [own_scan, if_pos h, own_nn hj, if_neg h10, if_neg h13]
theorem own_nlt7 (hj : i.toInt = (j : Int)) (hl : lim.toInt ≤ 3) (hf : 3 < j + 0) : ¬ (i < lim) := by rw [Int32.lt_iff_toInt_lt]; omega
theorem own_lt7 (hj : i.toInt = (j : Int)) (hl : lim.toInt ≤ 3) (h : i < lim) : j < 3 := by rw [Int32.lt_iff_toInt_lt] at h; omega
theorem own_scan_ge (hl : lim.toInt ≤ 3) : ∀ (f : Nat) (i : Int32) (j : Nat), i.toInt = (j : Int) → ∃ j7 : Nat, (own_scan u lim f i).toInt = (j7 : Int) ∧ j ≤ j7
  | 0, i, j, hj => ⟨j, hj, Nat.le_refl _⟩
  | f + 1, i, j, hj => by
    by_cases h : i < lim
    · by_cases h10 : u j = 10
      · rw [own_scan_10 h hj h10]; exact ⟨j, hj, Nat.le_refl _⟩
      · by_cases h13 : u j = 13
        · rw [own_scan_13 h hj h10 h13]; exact ⟨j, hj, Nat.le_refl _⟩
        · rw [own_scan_go h hj h10 h13]
          obtain ⟨j7, a, b⟩ := own_scan_ge hl f (i + 1) (j + 1) (own_up hj (own_lt7 hj hl h))
          exact ⟨j7, a, by omega⟩
    · rw [own_scan_out h]; exact ⟨j, hj, Nat.le_refl _⟩
theorem own_scan_at {i7 : Int32} (hj : i.toInt = (j : Int)) (hl : lim.toInt ≤ 3) (h7 : own_scan u lim f i = i7) : ∃ j7 : Nat, i7.toInt = (j7 : Int) ∧ j ≤ j7 := by
  rw [← h7]; exact own_scan_ge hl f i j hj
theorem own_dec7 {i7 : Int32} {j7 : Nat} (hj : i.toInt = (j : Int)) (hj7 : i7.toInt = (j7 : Int)) (hjj : j ≤ j7) (hii : ¬ (i7 = i)) (hf : tt < j + (f + 1)) : tt < j7 + f := by
  have : j ≠ j7 := fun q => hii (Int32.toInt_inj.mp (by rw [hj, hj7, q]))
  omega
end OwnTake
def own_Q (Z : State) (a1 : Addr) (h0 : Heap) (n0 : Nat) (R : Int32 × Int32 × Int32 × Bool × Bool × Bool) (xo : Int32) (v : Option Value) (h : Heap) (L : List Loc) : Prop :=
  v = some (.int R.1) ∧ Fr n0 L ∧ Keep h0 h [a1] ∧ Fld Z h a1 "com/example/coppice/coppice/http/RequestHead$Line" "lastRun" "I" (.int R.2.1) ∧ Fld Z h a1 "com/example/coppice/coppice/http/RequestHead$Line" "ended" "Z" (.int (own_bi R.2.2.2.1)) ∧ Fld Z h a1 "com/example/coppice/coppice/http/RequestHead$Line" "afterCr" "Z" (.int (own_bi R.2.2.2.2.1)) ∧ Fld Z h a1 "com/example/coppice/coppice/http/RequestHead$Line" "length" "I" (.int R.2.2.1) ∧ Fld Z h a1 "com/example/coppice/coppice/http/RequestHead$Line" "overflowed" "Z" (.int (own_ov R.2.2.2.2.2 xo))
theorem own_Qout {Z : State} {a1 : Addr} {h0 h : Heap} {n0 : Nat} {L : List Loc} (R : Int32 × Int32 × Int32 × Bool × Bool × Bool) (xo : Int32) {r lr ln : Int32} {en cr ov : Bool} (e : (r, lr, ln, en, cr, ov) = R) (N : Fr n0 L) (K : Keep h0 h [a1])
    (F1 : Fld Z h a1 "com/example/coppice/coppice/http/RequestHead$Line" "lastRun" "I" (.int lr)) (F2 : Fld Z h a1 "com/example/coppice/coppice/http/RequestHead$Line" "ended" "Z" (.int (own_bi en))) (F3 : Fld Z h a1 "com/example/coppice/coppice/http/RequestHead$Line" "afterCr" "Z" (.int (own_bi cr))) (F4 : Fld Z h a1 "com/example/coppice/coppice/http/RequestHead$Line" "length" "I" (.int ln)) (F5 : Fld Z h a1 "com/example/coppice/coppice/http/RequestHead$Line" "overflowed" "Z" (.int (own_ov ov xo))) : own_Q Z a1 h0 n0 R xo (some (.int r)) h L := by
  subst e; exact ⟨rfl, N, K, F1, F2, F3, F4, F5⟩
theorem own_ct13 (x : Int32) : ¬ (nar .byte (own_ct x) = (13 : Int32)) := by
  unfold own_ct
  split
  · decide
  · rename_i q
    intro h; apply q
    rw [← h]
    show x.toInt8.toInt32 = x.toInt8.toInt32.toInt8.toInt32.toInt8.toInt32
    rw [Int8.toInt8_toInt32, Int8.toInt8_toInt32]
theorem own_and3 (x : Int32) {t : Int32} (h : (x &&& (3 : Int32)) = t) : ∃ n : Nat, t.toInt = (n : Int) ∧ n ≤ 3 := by
  have e : (x &&& 3).toInt = x.toInt % 2 ^ 2 := Jvm.Kit.i32_mask x 3 (k := 2) (by decide) (by decide)
  exact ⟨(x.toInt % 2 ^ 2).toNat, by rw [← h, e]; omega, by omega⟩
theorem own_f00 (b1 b2 : Bool) (h1 : nar .boolean (own_ov b1 (0 : Int32)) = (0 : Int32)) (h2 : nar .boolean (own_ov b2 (0 : Int32)) = (0 : Int32)) : nar .boolean (own_ov b2 (own_ov b1 (0 : Int32))) = (0 : Int32) := by
  cases b1 <;> cases b2 <;> first | rfl | (revert h1 h2; decide)
theorem own_f01 (b1 b2 : Bool) (h1 : nar .boolean (own_ov b1 (0 : Int32)) = (0 : Int32)) (h2 : ¬ (nar .boolean (own_ov b2 (0 : Int32)) = (0 : Int32))) : nar .boolean (own_ov b2 (own_ov b1 (0 : Int32))) = (1 : Int32) := by
  cases b1 <;> cases b2 <;> first | rfl | (revert h1 h2; decide)
theorem own_f1 (b1 b2 : Bool) (h1 : ¬ (nar .boolean (own_ov b1 (0 : Int32)) = (0 : Int32))) : nar .boolean (own_ov b2 (own_ov b1 (0 : Int32))) = (1 : Int32) := by
  cases b1 <;> cases b2 <;> first | rfl | (revert h1; decide)
theorem d2_0 : decode method_3_code 0 = .ok (.iconst 3, 1) := by decide +kernel
theorem d2_1 : decode method_3_code 1 = .ok (.newarray .byte, 2) := by decide +kernel
theorem d2_3 : decode method_3_code 3 = .ok (.astore_n 2, 1) := by decide +kernel
theorem d2_4 : decode method_3_code 4 = .ok (.aload_n 2, 1) := by decide +kernel
theorem d2_5 : decode method_3_code 5 = .ok (.iconst 0, 1) := by decide +kernel
theorem d2_6 : decode method_3_code 6 = .ok (.iload_n 0, 1) := by decide +kernel
theorem d2_7 : decode method_3_code 7 = .ok (.bastore, 1) := by decide +kernel
theorem d2_8 : decode method_3_code 8 = .ok (.iload_n 1, 1) := by decide +kernel
theorem d2_9 : decode method_3_code 9 = .ok (.ifCond .ne 15, 3) := by decide +kernel
theorem d2_12 : decode method_3_code 12 = .ok (.aload_n 2, 1) := by decide +kernel
theorem d2_13 : decode method_3_code 13 = .ok (.iconst 1, 1) := by decide +kernel
theorem d2_14 : decode method_3_code 14 = .ok (.iload_n 0, 1) := by decide +kernel
theorem d2_15 : decode method_3_code 15 = .ok (.bastore, 1) := by decide +kernel
theorem d2_16 : decode method_3_code 16 = .ok (.aload_n 2, 1) := by decide +kernel
theorem d2_17 : decode method_3_code 17 = .ok (.iconst 2, 1) := by decide +kernel
theorem d2_18 : decode method_3_code 18 = .ok (.bipush 10, 2) := by decide +kernel
theorem d2_20 : decode method_3_code 20 = .ok (.bastore, 1) := by decide +kernel
theorem d2_21 : decode method_3_code 21 = .ok (.goto 46, 3) := by decide +kernel
theorem d2_67 : decode method_3_code 67 = .ok (.aload_n 2, 1) := by decide +kernel
theorem d2_68 : decode method_3_code 68 = .ok (.areturn, 1) := by decide +kernel
theorem d2_24 : decode method_3_code 24 = .ok (.iload_n 1, 1) := by decide +kernel
theorem d2_25 : decode method_3_code 25 = .ok (.iconst 1, 1) := by decide +kernel
theorem d2_26 : decode method_3_code 26 = .ok (.if_icmp .ne 15, 3) := by decide +kernel
theorem d2_29 : decode method_3_code 29 = .ok (.aload_n 2, 1) := by decide +kernel
theorem d2_30 : decode method_3_code 30 = .ok (.iconst 1, 1) := by decide +kernel
theorem d2_31 : decode method_3_code 31 = .ok (.iload_n 0, 1) := by decide +kernel
theorem d2_32 : decode method_3_code 32 = .ok (.bastore, 1) := by decide +kernel
theorem d2_33 : decode method_3_code 33 = .ok (.aload_n 2, 1) := by decide +kernel
theorem d2_34 : decode method_3_code 34 = .ok (.iconst 2, 1) := by decide +kernel
theorem d2_35 : decode method_3_code 35 = .ok (.bipush 13, 2) := by decide +kernel
theorem d2_37 : decode method_3_code 37 = .ok (.bastore, 1) := by decide +kernel
theorem d2_38 : decode method_3_code 38 = .ok (.goto 29, 3) := by decide +kernel
theorem d2_41 : decode method_3_code 41 = .ok (.iload_n 1, 1) := by decide +kernel
theorem d2_42 : decode method_3_code 42 = .ok (.iconst 2, 1) := by decide +kernel
theorem d2_43 : decode method_3_code 43 = .ok (.if_icmp .ne 14, 3) := by decide +kernel
theorem d2_46 : decode method_3_code 46 = .ok (.aload_n 2, 1) := by decide +kernel
theorem d2_47 : decode method_3_code 47 = .ok (.iconst 1, 1) := by decide +kernel
theorem d2_48 : decode method_3_code 48 = .ok (.iload_n 0, 1) := by decide +kernel
theorem d2_49 : decode method_3_code 49 = .ok (.bastore, 1) := by decide +kernel
theorem d2_50 : decode method_3_code 50 = .ok (.aload_n 2, 1) := by decide +kernel
theorem d2_51 : decode method_3_code 51 = .ok (.iconst 2, 1) := by decide +kernel
theorem d2_52 : decode method_3_code 52 = .ok (.iload_n 0, 1) := by decide +kernel
theorem d2_53 : decode method_3_code 53 = .ok (.bastore, 1) := by decide +kernel
theorem d2_54 : decode method_3_code 54 = .ok (.goto 13, 3) := by decide +kernel
theorem d2_57 : decode method_3_code 57 = .ok (.aload_n 2, 1) := by decide +kernel
theorem d2_58 : decode method_3_code 58 = .ok (.iconst 1, 1) := by decide +kernel
theorem d2_59 : decode method_3_code 59 = .ok (.bipush 13, 2) := by decide +kernel
theorem d2_61 : decode method_3_code 61 = .ok (.bastore, 1) := by decide +kernel
theorem d2_62 : decode method_3_code 62 = .ok (.aload_n 2, 1) := by decide +kernel
theorem d2_63 : decode method_3_code 63 = .ok (.iconst 2, 1) := by decide +kernel
theorem d2_64 : decode method_3_code 64 = .ok (.bipush 10, 2) := by decide +kernel
theorem d2_66 : decode method_3_code 66 = .ok (.bastore, 1) := by decide +kernel
theorem ef_rm2 (m : MethodId) (x0 : Int32) (x1 : Int32) : entryFrame m #[(.int x0), (.int x1)] 3 = mkF m 0 #[.val (.int x0), .val (.int x1), .unset] [] := by first | (simp [entryFrame, mkF, argsToLocals, Value.category]; done) | rfl
def Q2 (Z : State) (x1 : Int32) (x2 : Int32) (h0 : Heap) (n0 : Nat) (v : Option Value) (h : Heap) (L : List Loc) : Prop := ∃ (b : Addr) (u : Nat → Int32), v = some (.ref b) ∧ Fr n0 L ∧ Keep h0 h [] ∧ h0.size ≤ b ∧ Ary Z h b .byte 3 (fun x => .int (u x)) ∧ own_nt u
set_option maxRecDepth 65536 in
set_option maxHeartbeats 40000000 in
theorem rm2 (l : Launch) (Z : State) (a0 : Array Value) (hw : ∀ d ∈ tables_1, d.before a0 Z = true) (ws : List Jvm.Cond) (x1 : Int32) (x2 : Int32) (h0 : Heap) (n0 : Nat) (Z0 : n0 ≤ h0.size) (hb13 : ¬ (nar .byte x1 = (13 : Int32))) :
    MetFree l (⟨"com/example/coppice/coppice/http/LineClearPinLaw", "bytes", "(BI)[B"⟩ : MethodName) (head1 (Jvm.Cond.code (⟨"com/example/coppice/coppice/http/LineClearPinLaw", "bytes", "(BI)[B"⟩ : MethodName) method_3_code 3 (some (.array .byte)) :: ws) ({ frames := 0, cells := 1, slots := 3, locals := 0 } : Room)) (fun a U => a = #[(.int x1), (.int x2)] ∧ Z.Warmed39 U.vm ∧ U.heap = h0) (fun _ _ _ _ _ => True) (fun _ U o U' => ∃ v L, o = .returned v ∧ Q2 Z x1 x2 h0 n0 v U'.heap L ∧ FrameEnd U o U' L ({ frames := 0, cells := 1, slots := 3, locals := 0 } : Room).cells ({ frames := 0, cells := 1, slots := 3, locals := 0 } : Room).slots) := by
  refine MetFree.of_bodySF (plainFor_of_name pn_0) hisR ?_
  intro p e s m args below meth c s₁ Bd hml0 hP hK
  obtain ⟨rfl, hZ, hh⟩ := hP
  have hx := Bd.exec
  have hby := Bd.bytes
  have hml : c.maxLocals = 3 := hml0
  have hown : s.vm.findClass "com/example/coppice/coppice/http/LineClearPinLaw" = some m.cls := findClass_of_methodNamed Bd.named
  have hnm := (name_of_methodNamed Bd.named Bd.method).1
  have X0 : Stand p l e ({ frames := 0, cells := 1, slots := 3, locals := 0 } : Room) s m #[(.int x1), (.int x2)] below meth c s₁ [] 0 0 := Stand.of_body Bd
  have e0 : s₁.heap = h0 := by rw [← hh, Bd.state]; rfl
  have N0 := Fr.nil n0
  have K0 := Keep.refl h0 []
  suffices hD : Dn p e below s (Q2 Z x1 x2 h0 n0) ({ frames := 0, cells := 1, slots := 3, locals := 0 } : Room).cells ({ frames := 0, cells := 1, slots := 3, locals := 0 } : Room).slots s₁ (mkF m 0 #[.val (.int x1), .val (.int x2), .unset] []) from by
    obtain ⟨s₂, o, q1, q2⟩ := hD
    exact ⟨s₂, o, castTop (ef_rm2 m x1 x2) q1, q2⟩
  refine Dn.st (fun t q => XS.iconst X0.here hx rfl (hb hby d2_0) q) ?_
  show Dn p e below s _ _ _ s₁ (mkF m 1 #[.val (.int x1), .val (.int x2), .unset] [(.int (3 : Int32))])
  obtain ⟨T1, h1, k1, X1, e1, E1, A1, st1⟩ := newP X0 hx hZ (hw _ (List.mem_of_getElem? (i := 7) rfl)) e0 (g := (mkF m 1 #[.val (.int x1), .val (.int x2), .unset] [(.int (3 : Int32))])) rfl (hb hby d2_1) rfl (by decide) (cap := 3) (by decide) (by decide) (by decide) (by decide)
  obtain ⟨b1, g1⟩ : ∃ z, z = h0.size := ⟨_, rfl⟩
  rw [← g1] at A1 st1
  have g_b1 : n0 ≤ b1 := Nat.le_trans Z0 (Nat.le_of_eq g1.symm)
  have sz_b1 : h0.size ≤ b1 := Nat.le_trans K0.1 (Nat.le_of_eq g1.symm)
  have Z0 := Nat.le_trans Z0 E1.1
  have K0 := K0.ext E1
  have A_b1 : Ary Z h1 b1 .byte 3 (fun _ => (.int (0 : Int32))) := Ary.new A1 (by decide)
  refine Dn.st st1 ?_
  show Dn p e below s _ _ _ T1 (mkF m 3 #[.val (.int x1), .val (.int x2), .unset] [(.ref b1)])
  refine Dn.st (fun t q => XS.astoreN X1.here hx rfl (hb hby d2_3) rfl rfl (l' := #[.val (.int x1), .val (.int x2), .val (.ref b1)]) rfl q) ?_
  show Dn p e below s _ _ _ T1 (mkF m 4 #[.val (.int x1), .val (.int x2), .val (.ref b1)] [])
  refine Dn.st (fun t q => XS.aloadN X1.here hx rfl (hb hby d2_4) rfl rfl  q) ?_
  show Dn p e below s _ _ _ T1 (mkF m 5 #[.val (.int x1), .val (.int x2), .val (.ref b1)] [(.ref b1)])
  refine Dn.st (fun t q => XS.iconst X1.here hx rfl (hb hby d2_5) q) ?_
  show Dn p e below s _ _ _ T1 (mkF m 6 #[.val (.int x1), .val (.int x2), .val (.ref b1)] [(.int (0 : Int32)), (.ref b1)])
  refine Dn.st (fun t q => XS.iloadN X1.here hx rfl (hb hby d2_6) rfl  q) ?_
  show Dn p e below s _ _ _ T1 (mkF m 7 #[.val (.int x1), .val (.int x2), .val (.ref b1)] [(.int x1), (.int (0 : Int32)), (.ref b1)])
  obtain ⟨T2, h2, X2, e2, W2, B2, st2⟩ := aStoB X1 hx hZ e1 A_b1 (i := 0) rfl (by decide) (g := (mkF m 7 #[.val (.int x1), .val (.int x2), .val (.ref b1)] [(.int x1), (.int (0 : Int32)), (.ref b1)])) rfl rfl (hb hby d2_7)
  have N0 := Fr.snoc X2 N0 g_b1
  have Z0 := Nat.le_trans Z0 (Keep.of_wr W2).1
  have K0 := K0.wr W2 (Or.inr sz_b1)
  have A_b1 : Ary Z h2 b1 .byte 3 (fun x => .int (if x = 0 then (nar .byte x1) else (0 : Int32))) := B2.congr (fun j _ => own_ite)
  refine Dn.st st2 ?_
  show Dn p e below s _ _ _ T2 (mkF m 8 #[.val (.int x1), .val (.int x2), .val (.ref b1)] [])
  refine Dn.st (fun t q => XS.iloadN X2.here hx rfl (hb hby d2_8) rfl  q) ?_
  show Dn p e below s _ _ _ T2 (mkF m 9 #[.val (.int x1), .val (.int x2), .val (.ref b1)] [(.int x2)])
  by_cases m0 : x2 = (0 : Int32)
  · refine Dn.st (fun t q => XS.ifNo X2.here hx rfl (hb hby d2_9) rfl ((if0 _ _).trans (teq m0).2) q) ?_
    show Dn p e below s _ _ _ T2 (mkF m 12 #[.val (.int x1), .val (.int x2), .val (.ref b1)] [])
    refine Dn.st (fun t q => XS.aloadN X2.here hx rfl (hb hby d2_12) rfl rfl  q) ?_
    show Dn p e below s _ _ _ T2 (mkF m 13 #[.val (.int x1), .val (.int x2), .val (.ref b1)] [(.ref b1)])
    refine Dn.st (fun t q => XS.iconst X2.here hx rfl (hb hby d2_13) q) ?_
    show Dn p e below s _ _ _ T2 (mkF m 14 #[.val (.int x1), .val (.int x2), .val (.ref b1)] [(.int (1 : Int32)), (.ref b1)])
    refine Dn.st (fun t q => XS.iloadN X2.here hx rfl (hb hby d2_14) rfl  q) ?_
    show Dn p e below s _ _ _ T2 (mkF m 15 #[.val (.int x1), .val (.int x2), .val (.ref b1)] [(.int x1), (.int (1 : Int32)), (.ref b1)])
    obtain ⟨T3, h3, X3, e3, W3, B3, st3⟩ := aStoB X2 hx hZ e2 A_b1 (i := 1) rfl (by decide) (g := (mkF m 15 #[.val (.int x1), .val (.int x2), .val (.ref b1)] [(.int x1), (.int (1 : Int32)), (.ref b1)])) rfl rfl (hb hby d2_15)
    have N0 := Fr.snoc X3 N0 g_b1
    have Z0 := Nat.le_trans Z0 (Keep.of_wr W3).1
    have K0 := K0.wr W3 (Or.inr sz_b1)
    have A_b1 : Ary Z h3 b1 .byte 3 (fun x => .int (if x = 1 then (nar .byte x1) else if x = 0 then (nar .byte x1) else (0 : Int32))) := B3.congr (fun j _ => own_ite)
    refine Dn.st st3 ?_
    show Dn p e below s _ _ _ T3 (mkF m 16 #[.val (.int x1), .val (.int x2), .val (.ref b1)] [])
    refine Dn.st (fun t q => XS.aloadN X3.here hx rfl (hb hby d2_16) rfl rfl  q) ?_
    show Dn p e below s _ _ _ T3 (mkF m 17 #[.val (.int x1), .val (.int x2), .val (.ref b1)] [(.ref b1)])
    refine Dn.st (fun t q => XS.iconst X3.here hx rfl (hb hby d2_17) q) ?_
    show Dn p e below s _ _ _ T3 (mkF m 18 #[.val (.int x1), .val (.int x2), .val (.ref b1)] [(.int (2 : Int32)), (.ref b1)])
    refine Dn.st (fun t q => XS.bipush X3.here hx rfl (hb hby d2_18) q) ?_
    show Dn p e below s _ _ _ T3 (mkF m 20 #[.val (.int x1), .val (.int x2), .val (.ref b1)] [(.int (10 : Int32)), (.int (2 : Int32)), (.ref b1)])
    obtain ⟨T4, h4, X4, e4, W4, B4, st4⟩ := aStoB X3 hx hZ e3 A_b1 (i := 2) rfl (by decide) (g := (mkF m 20 #[.val (.int x1), .val (.int x2), .val (.ref b1)] [(.int (10 : Int32)), (.int (2 : Int32)), (.ref b1)])) rfl rfl (hb hby d2_20)
    have N0 := Fr.snoc X4 N0 g_b1
    have Z0 := Nat.le_trans Z0 (Keep.of_wr W4).1
    have K0 := K0.wr W4 (Or.inr sz_b1)
    have A_b1 : Ary Z h4 b1 .byte 3 (fun x => .int (if x = 2 then (nar .byte (10 : Int32)) else if x = 1 then (nar .byte x1) else if x = 0 then (nar .byte x1) else (0 : Int32))) := B4.congr (fun j _ => own_ite)
    refine Dn.st st4 ?_
    show Dn p e below s _ _ _ T4 (mkF m 21 #[.val (.int x1), .val (.int x2), .val (.ref b1)] [])
    refine Dn.st (fun t q => XS.goto X4.here hx rfl (pc0 := 21) (pc' := 67) rfl (hb hby d2_21) (by decide) (by decide) q) ?_
    show Dn p e below s _ _ _ T4 (mkF m 67 #[.val (.int x1), .val (.int x2), .val (.ref b1)] [])
    refine Dn.st (fun t q => XS.aloadN X4.here hx rfl (hb hby d2_67) rfl rfl  q) ?_
    show Dn p e below s _ _ _ T4 (mkF m 68 #[.val (.int x1), .val (.int x2), .val (.ref b1)] [(.ref b1)])
    exact Dn.retA X4 hx Bd.notSynchronized Bd.returns rfl rfl (hb hby d2_68) (by rw [e4]; exact ⟨b1, own_a3 (nar .byte x1) (nar .byte x1) (nar .byte (10 : Int32)), rfl, N0, K0, sz_b1, A_b1, own_nt0 hb13⟩) (by decide) (by decide)
  · refine Dn.st (fun t q => XS.ifYes X2.here hx rfl (pc0 := 9) (pc' := 24) rfl (hb hby d2_9) rfl ((if0 _ _).trans (feq m0).2) (by decide) (by decide) q) ?_
    show Dn p e below s _ _ _ T2 (mkF m 24 #[.val (.int x1), .val (.int x2), .val (.ref b1)] [])
    refine Dn.st (fun t q => XS.iloadN X2.here hx rfl (hb hby d2_24) rfl  q) ?_
    show Dn p e below s _ _ _ T2 (mkF m 25 #[.val (.int x1), .val (.int x2), .val (.ref b1)] [(.int x2)])
    refine Dn.st (fun t q => XS.iconst X2.here hx rfl (hb hby d2_25) q) ?_
    show Dn p e below s _ _ _ T2 (mkF m 26 #[.val (.int x1), .val (.int x2), .val (.ref b1)] [(.int (1 : Int32)), (.int x2)])
    by_cases m1 : x2 = (1 : Int32)
    · refine Dn.st (fun t q => XS.icmpNo X2.here hx rfl (hb hby d2_26) rfl (teq m1).2 q) ?_
      show Dn p e below s _ _ _ T2 (mkF m 29 #[.val (.int x1), .val (.int x2), .val (.ref b1)] [])
      refine Dn.st (fun t q => XS.aloadN X2.here hx rfl (hb hby d2_29) rfl rfl  q) ?_
      show Dn p e below s _ _ _ T2 (mkF m 30 #[.val (.int x1), .val (.int x2), .val (.ref b1)] [(.ref b1)])
      refine Dn.st (fun t q => XS.iconst X2.here hx rfl (hb hby d2_30) q) ?_
      show Dn p e below s _ _ _ T2 (mkF m 31 #[.val (.int x1), .val (.int x2), .val (.ref b1)] [(.int (1 : Int32)), (.ref b1)])
      refine Dn.st (fun t q => XS.iloadN X2.here hx rfl (hb hby d2_31) rfl  q) ?_
      show Dn p e below s _ _ _ T2 (mkF m 32 #[.val (.int x1), .val (.int x2), .val (.ref b1)] [(.int x1), (.int (1 : Int32)), (.ref b1)])
      obtain ⟨T5, h5, X5, e5, W5, B5, st5⟩ := aStoB X2 hx hZ e2 A_b1 (i := 1) rfl (by decide) (g := (mkF m 32 #[.val (.int x1), .val (.int x2), .val (.ref b1)] [(.int x1), (.int (1 : Int32)), (.ref b1)])) rfl rfl (hb hby d2_32)
      have N0 := Fr.snoc X5 N0 g_b1
      have Z0 := Nat.le_trans Z0 (Keep.of_wr W5).1
      have K0 := K0.wr W5 (Or.inr sz_b1)
      have A_b1 : Ary Z h5 b1 .byte 3 (fun x => .int (if x = 1 then (nar .byte x1) else if x = 0 then (nar .byte x1) else (0 : Int32))) := B5.congr (fun j _ => own_ite)
      refine Dn.st st5 ?_
      show Dn p e below s _ _ _ T5 (mkF m 33 #[.val (.int x1), .val (.int x2), .val (.ref b1)] [])
      refine Dn.st (fun t q => XS.aloadN X5.here hx rfl (hb hby d2_33) rfl rfl  q) ?_
      show Dn p e below s _ _ _ T5 (mkF m 34 #[.val (.int x1), .val (.int x2), .val (.ref b1)] [(.ref b1)])
      refine Dn.st (fun t q => XS.iconst X5.here hx rfl (hb hby d2_34) q) ?_
      show Dn p e below s _ _ _ T5 (mkF m 35 #[.val (.int x1), .val (.int x2), .val (.ref b1)] [(.int (2 : Int32)), (.ref b1)])
      refine Dn.st (fun t q => XS.bipush X5.here hx rfl (hb hby d2_35) q) ?_
      show Dn p e below s _ _ _ T5 (mkF m 37 #[.val (.int x1), .val (.int x2), .val (.ref b1)] [(.int (13 : Int32)), (.int (2 : Int32)), (.ref b1)])
      obtain ⟨T6, h6, X6, e6, W6, B6, st6⟩ := aStoB X5 hx hZ e5 A_b1 (i := 2) rfl (by decide) (g := (mkF m 37 #[.val (.int x1), .val (.int x2), .val (.ref b1)] [(.int (13 : Int32)), (.int (2 : Int32)), (.ref b1)])) rfl rfl (hb hby d2_37)
      have N0 := Fr.snoc X6 N0 g_b1
      have Z0 := Nat.le_trans Z0 (Keep.of_wr W6).1
      have K0 := K0.wr W6 (Or.inr sz_b1)
      have A_b1 : Ary Z h6 b1 .byte 3 (fun x => .int (if x = 2 then (nar .byte (13 : Int32)) else if x = 1 then (nar .byte x1) else if x = 0 then (nar .byte x1) else (0 : Int32))) := B6.congr (fun j _ => own_ite)
      refine Dn.st st6 ?_
      show Dn p e below s _ _ _ T6 (mkF m 38 #[.val (.int x1), .val (.int x2), .val (.ref b1)] [])
      refine Dn.st (fun t q => XS.goto X6.here hx rfl (pc0 := 38) (pc' := 67) rfl (hb hby d2_38) (by decide) (by decide) q) ?_
      show Dn p e below s _ _ _ T6 (mkF m 67 #[.val (.int x1), .val (.int x2), .val (.ref b1)] [])
      refine Dn.st (fun t q => XS.aloadN X6.here hx rfl (hb hby d2_67) rfl rfl  q) ?_
      show Dn p e below s _ _ _ T6 (mkF m 68 #[.val (.int x1), .val (.int x2), .val (.ref b1)] [(.ref b1)])
      exact Dn.retA X6 hx Bd.notSynchronized Bd.returns rfl rfl (hb hby d2_68) (by rw [e6]; exact ⟨b1, own_a3 (nar .byte x1) (nar .byte x1) (nar .byte (13 : Int32)), rfl, N0, K0, sz_b1, A_b1, own_nt0 hb13⟩) (by decide) (by decide)
    · refine Dn.st (fun t q => XS.icmpYes X2.here hx rfl (pc0 := 26) (pc' := 41) rfl (hb hby d2_26) rfl (feq m1).2 (by decide) (by decide) q) ?_
      show Dn p e below s _ _ _ T2 (mkF m 41 #[.val (.int x1), .val (.int x2), .val (.ref b1)] [])
      refine Dn.st (fun t q => XS.iloadN X2.here hx rfl (hb hby d2_41) rfl  q) ?_
      show Dn p e below s _ _ _ T2 (mkF m 42 #[.val (.int x1), .val (.int x2), .val (.ref b1)] [(.int x2)])
      refine Dn.st (fun t q => XS.iconst X2.here hx rfl (hb hby d2_42) q) ?_
      show Dn p e below s _ _ _ T2 (mkF m 43 #[.val (.int x1), .val (.int x2), .val (.ref b1)] [(.int (2 : Int32)), (.int x2)])
      by_cases m2 : x2 = (2 : Int32)
      · refine Dn.st (fun t q => XS.icmpNo X2.here hx rfl (hb hby d2_43) rfl (teq m2).2 q) ?_
        show Dn p e below s _ _ _ T2 (mkF m 46 #[.val (.int x1), .val (.int x2), .val (.ref b1)] [])
        refine Dn.st (fun t q => XS.aloadN X2.here hx rfl (hb hby d2_46) rfl rfl  q) ?_
        show Dn p e below s _ _ _ T2 (mkF m 47 #[.val (.int x1), .val (.int x2), .val (.ref b1)] [(.ref b1)])
        refine Dn.st (fun t q => XS.iconst X2.here hx rfl (hb hby d2_47) q) ?_
        show Dn p e below s _ _ _ T2 (mkF m 48 #[.val (.int x1), .val (.int x2), .val (.ref b1)] [(.int (1 : Int32)), (.ref b1)])
        refine Dn.st (fun t q => XS.iloadN X2.here hx rfl (hb hby d2_48) rfl  q) ?_
        show Dn p e below s _ _ _ T2 (mkF m 49 #[.val (.int x1), .val (.int x2), .val (.ref b1)] [(.int x1), (.int (1 : Int32)), (.ref b1)])
        obtain ⟨T7, h7, X7, e7, W7, B7, st7⟩ := aStoB X2 hx hZ e2 A_b1 (i := 1) rfl (by decide) (g := (mkF m 49 #[.val (.int x1), .val (.int x2), .val (.ref b1)] [(.int x1), (.int (1 : Int32)), (.ref b1)])) rfl rfl (hb hby d2_49)
        have N0 := Fr.snoc X7 N0 g_b1
        have Z0 := Nat.le_trans Z0 (Keep.of_wr W7).1
        have K0 := K0.wr W7 (Or.inr sz_b1)
        have A_b1 : Ary Z h7 b1 .byte 3 (fun x => .int (if x = 1 then (nar .byte x1) else if x = 0 then (nar .byte x1) else (0 : Int32))) := B7.congr (fun j _ => own_ite)
        refine Dn.st st7 ?_
        show Dn p e below s _ _ _ T7 (mkF m 50 #[.val (.int x1), .val (.int x2), .val (.ref b1)] [])
        refine Dn.st (fun t q => XS.aloadN X7.here hx rfl (hb hby d2_50) rfl rfl  q) ?_
        show Dn p e below s _ _ _ T7 (mkF m 51 #[.val (.int x1), .val (.int x2), .val (.ref b1)] [(.ref b1)])
        refine Dn.st (fun t q => XS.iconst X7.here hx rfl (hb hby d2_51) q) ?_
        show Dn p e below s _ _ _ T7 (mkF m 52 #[.val (.int x1), .val (.int x2), .val (.ref b1)] [(.int (2 : Int32)), (.ref b1)])
        refine Dn.st (fun t q => XS.iloadN X7.here hx rfl (hb hby d2_52) rfl  q) ?_
        show Dn p e below s _ _ _ T7 (mkF m 53 #[.val (.int x1), .val (.int x2), .val (.ref b1)] [(.int x1), (.int (2 : Int32)), (.ref b1)])
        obtain ⟨T8, h8, X8, e8, W8, B8, st8⟩ := aStoB X7 hx hZ e7 A_b1 (i := 2) rfl (by decide) (g := (mkF m 53 #[.val (.int x1), .val (.int x2), .val (.ref b1)] [(.int x1), (.int (2 : Int32)), (.ref b1)])) rfl rfl (hb hby d2_53)
        have N0 := Fr.snoc X8 N0 g_b1
        have Z0 := Nat.le_trans Z0 (Keep.of_wr W8).1
        have K0 := K0.wr W8 (Or.inr sz_b1)
        have A_b1 : Ary Z h8 b1 .byte 3 (fun x => .int (if x = 2 then (nar .byte x1) else if x = 1 then (nar .byte x1) else if x = 0 then (nar .byte x1) else (0 : Int32))) := B8.congr (fun j _ => own_ite)
        refine Dn.st st8 ?_
        show Dn p e below s _ _ _ T8 (mkF m 54 #[.val (.int x1), .val (.int x2), .val (.ref b1)] [])
        refine Dn.st (fun t q => XS.goto X8.here hx rfl (pc0 := 54) (pc' := 67) rfl (hb hby d2_54) (by decide) (by decide) q) ?_
        show Dn p e below s _ _ _ T8 (mkF m 67 #[.val (.int x1), .val (.int x2), .val (.ref b1)] [])
        refine Dn.st (fun t q => XS.aloadN X8.here hx rfl (hb hby d2_67) rfl rfl  q) ?_
        show Dn p e below s _ _ _ T8 (mkF m 68 #[.val (.int x1), .val (.int x2), .val (.ref b1)] [(.ref b1)])
        exact Dn.retA X8 hx Bd.notSynchronized Bd.returns rfl rfl (hb hby d2_68) (by rw [e8]; exact ⟨b1, own_a3 (nar .byte x1) (nar .byte x1) (nar .byte x1), rfl, N0, K0, sz_b1, A_b1, own_nt0 hb13⟩) (by decide) (by decide)
      · refine Dn.st (fun t q => XS.icmpYes X2.here hx rfl (pc0 := 43) (pc' := 57) rfl (hb hby d2_43) rfl (feq m2).2 (by decide) (by decide) q) ?_
        show Dn p e below s _ _ _ T2 (mkF m 57 #[.val (.int x1), .val (.int x2), .val (.ref b1)] [])
        refine Dn.st (fun t q => XS.aloadN X2.here hx rfl (hb hby d2_57) rfl rfl  q) ?_
        show Dn p e below s _ _ _ T2 (mkF m 58 #[.val (.int x1), .val (.int x2), .val (.ref b1)] [(.ref b1)])
        refine Dn.st (fun t q => XS.iconst X2.here hx rfl (hb hby d2_58) q) ?_
        show Dn p e below s _ _ _ T2 (mkF m 59 #[.val (.int x1), .val (.int x2), .val (.ref b1)] [(.int (1 : Int32)), (.ref b1)])
        refine Dn.st (fun t q => XS.bipush X2.here hx rfl (hb hby d2_59) q) ?_
        show Dn p e below s _ _ _ T2 (mkF m 61 #[.val (.int x1), .val (.int x2), .val (.ref b1)] [(.int (13 : Int32)), (.int (1 : Int32)), (.ref b1)])
        obtain ⟨T9, h9, X9, e9, W9, B9, st9⟩ := aStoB X2 hx hZ e2 A_b1 (i := 1) rfl (by decide) (g := (mkF m 61 #[.val (.int x1), .val (.int x2), .val (.ref b1)] [(.int (13 : Int32)), (.int (1 : Int32)), (.ref b1)])) rfl rfl (hb hby d2_61)
        have N0 := Fr.snoc X9 N0 g_b1
        have Z0 := Nat.le_trans Z0 (Keep.of_wr W9).1
        have K0 := K0.wr W9 (Or.inr sz_b1)
        have A_b1 : Ary Z h9 b1 .byte 3 (fun x => .int (if x = 1 then (nar .byte (13 : Int32)) else if x = 0 then (nar .byte x1) else (0 : Int32))) := B9.congr (fun j _ => own_ite)
        refine Dn.st st9 ?_
        show Dn p e below s _ _ _ T9 (mkF m 62 #[.val (.int x1), .val (.int x2), .val (.ref b1)] [])
        refine Dn.st (fun t q => XS.aloadN X9.here hx rfl (hb hby d2_62) rfl rfl  q) ?_
        show Dn p e below s _ _ _ T9 (mkF m 63 #[.val (.int x1), .val (.int x2), .val (.ref b1)] [(.ref b1)])
        refine Dn.st (fun t q => XS.iconst X9.here hx rfl (hb hby d2_63) q) ?_
        show Dn p e below s _ _ _ T9 (mkF m 64 #[.val (.int x1), .val (.int x2), .val (.ref b1)] [(.int (2 : Int32)), (.ref b1)])
        refine Dn.st (fun t q => XS.bipush X9.here hx rfl (hb hby d2_64) q) ?_
        show Dn p e below s _ _ _ T9 (mkF m 66 #[.val (.int x1), .val (.int x2), .val (.ref b1)] [(.int (10 : Int32)), (.int (2 : Int32)), (.ref b1)])
        obtain ⟨T10, h10, X10, e10, W10, B10, st10⟩ := aStoB X9 hx hZ e9 A_b1 (i := 2) rfl (by decide) (g := (mkF m 66 #[.val (.int x1), .val (.int x2), .val (.ref b1)] [(.int (10 : Int32)), (.int (2 : Int32)), (.ref b1)])) rfl rfl (hb hby d2_66)
        have N0 := Fr.snoc X10 N0 g_b1
        have Z0 := Nat.le_trans Z0 (Keep.of_wr W10).1
        have K0 := K0.wr W10 (Or.inr sz_b1)
        have A_b1 : Ary Z h10 b1 .byte 3 (fun x => .int (if x = 2 then (nar .byte (10 : Int32)) else if x = 1 then (nar .byte (13 : Int32)) else if x = 0 then (nar .byte x1) else (0 : Int32))) := B10.congr (fun j _ => own_ite)
        refine Dn.st st10 ?_
        show Dn p e below s _ _ _ T10 (mkF m 67 #[.val (.int x1), .val (.int x2), .val (.ref b1)] [])
        refine Dn.st (fun t q => XS.aloadN X10.here hx rfl (hb hby d2_67) rfl rfl  q) ?_
        show Dn p e below s _ _ _ T10 (mkF m 68 #[.val (.int x1), .val (.int x2), .val (.ref b1)] [(.ref b1)])
        exact Dn.retA X10 hx Bd.notSynchronized Bd.returns rfl rfl (hb hby d2_68) (by rw [e10]; exact ⟨b1, own_a3 (nar .byte x1) (nar .byte (13 : Int32)) (nar .byte (10 : Int32)), rfl, N0, K0, sz_b1, A_b1, own_nt3 hb13⟩) (by decide) (by decide)
theorem d3_0 : decode prog_28_method_1_code 0 = .ok (.aload_n 0, 1) := by decide +kernel
theorem d3_1 : decode prog_28_method_1_code 1 = .ok (.invokespecial 1, 3) := by decide +kernel
theorem d3_4 : decode prog_28_method_1_code 4 = .ok (.return_, 1) := by decide +kernel
theorem pn_1 : plainName "com/example/coppice/coppice/http/RequestHead$Line" = true := by first | (simp [plainName, overriddenIn]; done) | decide +kernel
theorem ef_rm3 (m : MethodId) (x0 : Addr) : entryFrame m #[(.ref x0)] 1 = mkF m 0 #[.val (.ref x0)] [] := by first | (simp [entryFrame, mkF, argsToLocals, Value.category]; done) | rfl
def Q3 (Z : State) (a1 : Addr) (h0 : Heap) (n0 : Nat) (v : Option Value) (h : Heap) (L : List Loc) : Prop := v = none ∧ Fr n0 L ∧ h = h0
set_option maxRecDepth 65536 in
set_option maxHeartbeats 40000000 in
theorem rm3 (l : Launch) (Z : State) (a0 : Array Value) (hw : ∀ d ∈ tables_1, d.before a0 Z = true) (ws : List Jvm.Cond) (a1 : Addr) (h0 : Heap) (n0 : Nat) (Z0 : n0 ≤ h0.size) :
    MetFree l (⟨"com/example/coppice/coppice/http/RequestHead$Line", "<init>", "()V"⟩ : MethodName) (head1 (Jvm.Cond.code (⟨"com/example/coppice/coppice/http/RequestHead$Line", "<init>", "()V"⟩ : MethodName) prog_28_method_1_code 1 none :: ws) ({ frames := 1, cells := 0, slots := 0, locals := 12 } : Room)) (fun a U => a = #[(.ref a1)] ∧ Z.Warmed39 U.vm ∧ U.heap = h0) (fun _ _ _ _ _ => True) (fun _ U o U' => ∃ v L, o = .returned v ∧ Q3 Z a1 h0 n0 v U'.heap L ∧ FrameEnd U o U' L ({ frames := 1, cells := 0, slots := 0, locals := 12 } : Room).cells ({ frames := 1, cells := 0, slots := 0, locals := 12 } : Room).slots) := by
  refine MetFree.of_bodySF (plainFor_of_name pn_1) hisR ?_
  intro p e s m args below meth c s₁ Bd hml0 hP hK
  obtain ⟨rfl, hZ, hh⟩ := hP
  have hx := Bd.exec
  have hby := Bd.bytes
  have hml : c.maxLocals = 1 := hml0
  have hown : s.vm.findClass "com/example/coppice/coppice/http/RequestHead$Line" = some m.cls := findClass_of_methodNamed Bd.named
  have hnm := (name_of_methodNamed Bd.named Bd.method).1
  have X0 : Stand p l e ({ frames := 1, cells := 0, slots := 0, locals := 12 } : Room) s m #[(.ref a1)] below meth c s₁ [] 0 0 := Stand.of_body Bd
  have e0 : s₁.heap = h0 := by rw [← hh, Bd.state]; rfl
  have N0 := Fr.nil n0
  have K0 := Keep.refl h0 []
  suffices hD : Dn p e below s (Q3 Z a1 h0 n0) ({ frames := 1, cells := 0, slots := 0, locals := 12 } : Room).cells ({ frames := 1, cells := 0, slots := 0, locals := 12 } : Room).slots s₁ (mkF m 0 #[.val (.ref a1)] []) from by
    obtain ⟨s₂, o, q1, q2⟩ := hD
    exact ⟨s₂, o, castTop (ef_rm3 m a1) q1, q2⟩
  refine Dn.st (fun t q => XS.aloadN X0.here hx rfl (hb hby d3_0) rfl rfl  q) ?_
  show Dn p e below s _ _ _ s₁ (mkF m 1 #[.val (.ref a1)] [(.ref a1)])
  obtain ⟨T1, X1, e1, st1⟩ := initO X0 hx hZ hown (hw _ (List.mem_of_getElem? (i := 14) rfl)) (hw _ (List.mem_of_getElem? (i := 15) rfl)) (hw _ (List.mem_of_getElem? (i := 16) rfl)) e0 (g := (mkF m 1 #[.val (.ref a1)] [(.ref a1)])) rfl (by rw [hml]; rfl) rfl (hb hby d3_1) (by decide) (W := 0) (by show 2 * 0 + _ ≤ _; exact Nat.le_of_eq rfl) (by decide)
  refine Dn.st st1 ?_
  show Dn p e below s _ _ _ T1 (mkF m 4 #[.val (.ref a1)] [])
  exact Dn.retV X1 hx Bd.notSynchronized Bd.returns (hb hby d3_4) (by rw [e1]; exact ⟨rfl, N0, rfl⟩) (by decide) (by decide)
theorem d5_0 : decode prog_28_method_2_code 0 = .ok (.aload_n 0, 1) := by decide +kernel
theorem d5_1 : decode prog_28_method_2_code 1 = .ok (.iconst 0, 1) := by decide +kernel
theorem d5_2 : decode prog_28_method_2_code 2 = .ok (.putfield 7, 3) := by decide +kernel
theorem d5_5 : decode prog_28_method_2_code 5 = .ok (.iload_n 2, 1) := by decide +kernel
theorem d5_6 : decode prog_28_method_2_code 6 = .ok (.istore 5, 2) := by decide +kernel
theorem d5_8 : decode prog_28_method_2_code 8 = .ok (.iload 5, 2) := by decide +kernel
theorem d5_10 : decode prog_28_method_2_code 10 = .ok (.iload_n 3, 1) := by decide +kernel
theorem d5_11 : decode prog_28_method_2_code 11 = .ok (.if_icmp .ge 158, 3) := by decide +kernel
theorem d5_169 : decode prog_28_method_2_code 169 = .ok (.iload 5, 2) := by decide +kernel
theorem d5_171 : decode prog_28_method_2_code 171 = .ok (.ireturn, 1) := by decide +kernel
theorem d5_14 : decode prog_28_method_2_code 14 = .ok (.aload_n 0, 1) := by decide +kernel
theorem d5_15 : decode prog_28_method_2_code 15 = .ok (.getfield 13, 3) := by decide +kernel
theorem d5_18 : decode prog_28_method_2_code 18 = .ok (.ifCond .ne 151, 3) := by decide +kernel
theorem d5_21 : decode prog_28_method_2_code 21 = .ok (.aload_n 1, 1) := by decide +kernel
theorem d5_22 : decode prog_28_method_2_code 22 = .ok (.iload 5, 2) := by decide +kernel
theorem d5_24 : decode prog_28_method_2_code 24 = .ok (.baload, 1) := by decide +kernel
theorem d5_25 : decode prog_28_method_2_code 25 = .ok (.istore 6, 2) := by decide +kernel
theorem d5_27 : decode prog_28_method_2_code 27 = .ok (.iload 6, 2) := by decide +kernel
theorem d5_29 : decode prog_28_method_2_code 29 = .ok (.bipush 10, 2) := by decide +kernel
theorem d5_31 : decode prog_28_method_2_code 31 = .ok (.if_icmp .ne 14, 3) := by decide +kernel
theorem d5_34 : decode prog_28_method_2_code 34 = .ok (.aload_n 0, 1) := by decide +kernel
theorem d5_35 : decode prog_28_method_2_code 35 = .ok (.iconst 1, 1) := by decide +kernel
theorem d5_36 : decode prog_28_method_2_code 36 = .ok (.putfield 13, 3) := by decide +kernel
theorem d5_39 : decode prog_28_method_2_code 39 = .ok (.iinc 5 1, 3) := by decide +kernel
theorem d5_42 : decode prog_28_method_2_code 42 = .ok (.goto 124, 3) := by decide +kernel
theorem d5_166 : decode prog_28_method_2_code 166 = .ok (.goto (-158), 3) := by decide +kernel
theorem d5_45 : decode prog_28_method_2_code 45 = .ok (.aload_n 0, 1) := by decide +kernel
theorem d5_46 : decode prog_28_method_2_code 46 = .ok (.getfield 17, 3) := by decide +kernel
theorem d5_49 : decode prog_28_method_2_code 49 = .ok (.ifCond .eq 7, 3) := by decide +kernel
theorem d5_56 : decode prog_28_method_2_code 56 = .ok (.iload 6, 2) := by decide +kernel
theorem d5_58 : decode prog_28_method_2_code 58 = .ok (.bipush 13, 2) := by decide +kernel
theorem d5_60 : decode prog_28_method_2_code 60 = .ok (.if_icmp .ne 14, 3) := by decide +kernel
theorem d5_63 : decode prog_28_method_2_code 63 = .ok (.aload_n 0, 1) := by decide +kernel
theorem d5_64 : decode prog_28_method_2_code 64 = .ok (.iconst 1, 1) := by decide +kernel
theorem d5_65 : decode prog_28_method_2_code 65 = .ok (.putfield 17, 3) := by decide +kernel
theorem d5_68 : decode prog_28_method_2_code 68 = .ok (.iinc 5 1, 3) := by decide +kernel
theorem d5_71 : decode prog_28_method_2_code 71 = .ok (.goto 95, 3) := by decide +kernel
theorem d5_74 : decode prog_28_method_2_code 74 = .ok (.iload 5, 2) := by decide +kernel
theorem d5_76 : decode prog_28_method_2_code 76 = .ok (.istore 7, 2) := by decide +kernel
theorem d5_78 : decode prog_28_method_2_code 78 = .ok (.iload_n 3, 1) := by decide +kernel
theorem d5_79 : decode prog_28_method_2_code 79 = .ok (.iload 5, 2) := by decide +kernel
theorem d5_81 : decode prog_28_method_2_code 81 = .ok (.iload 4, 2) := by decide +kernel
theorem d5_83 : decode prog_28_method_2_code 83 = .ok (.iadd, 1) := by decide +kernel
theorem d5_84 : decode prog_28_method_2_code 84 = .ok (.aload_n 0, 1) := by decide +kernel
theorem d5_85 : decode prog_28_method_2_code 85 = .ok (.getfield 24, 3) := by decide +kernel
theorem d5_88 : decode prog_28_method_2_code 88 = .ok (.isub, 1) := by decide +kernel
theorem d5_89 : decode prog_28_method_2_code 89 = .ok (.invokestatic 27, 3) := by decide +kernel
theorem pd_0 : parseMethodDescriptor "(II)I" = some ⟨[.int, .int], some .int⟩ := by decide +kernel
theorem d5_92 : decode prog_28_method_2_code 92 = .ok (.istore 8, 2) := by decide +kernel
theorem d5_125 : decode prog_28_method_2_code 125 = .ok (.iload 7, 2) := by decide +kernel
theorem d5_127 : decode prog_28_method_2_code 127 = .ok (.iload 5, 2) := by decide +kernel
theorem d5_129 : decode prog_28_method_2_code 129 = .ok (.if_icmp .ne 11, 3) := by decide +kernel
theorem d5_132 : decode prog_28_method_2_code 132 = .ok (.aload_n 0, 1) := by decide +kernel
theorem d5_133 : decode prog_28_method_2_code 133 = .ok (.iconst 1, 1) := by decide +kernel
theorem d5_134 : decode prog_28_method_2_code 134 = .ok (.putfield 33, 3) := by decide +kernel
theorem d5_137 : decode prog_28_method_2_code 137 = .ok (.iload 5, 2) := by decide +kernel
theorem d5_139 : decode prog_28_method_2_code 139 = .ok (.ireturn, 1) := by decide +kernel
theorem d5_140 : decode prog_28_method_2_code 140 = .ok (.aload_n 0, 1) := by decide +kernel
theorem d5_141 : decode prog_28_method_2_code 141 = .ok (.iload 7, 2) := by decide +kernel
theorem d5_143 : decode prog_28_method_2_code 143 = .ok (.iload 5, 2) := by decide +kernel
theorem d5_145 : decode prog_28_method_2_code 145 = .ok (.isub, 1) := by decide +kernel
theorem d5_146 : decode prog_28_method_2_code 146 = .ok (.putfield 7, 3) := by decide +kernel
theorem d5_149 : decode prog_28_method_2_code 149 = .ok (.aload_n 0, 1) := by decide +kernel
theorem d5_150 : decode prog_28_method_2_code 150 = .ok (.dup, 1) := by decide +kernel
theorem d5_151 : decode prog_28_method_2_code 151 = .ok (.getfield 24, 3) := by decide +kernel
theorem d5_154 : decode prog_28_method_2_code 154 = .ok (.aload_n 0, 1) := by decide +kernel
theorem d5_155 : decode prog_28_method_2_code 155 = .ok (.getfield 7, 3) := by decide +kernel
theorem d5_158 : decode prog_28_method_2_code 158 = .ok (.iadd, 1) := by decide +kernel
theorem d5_159 : decode prog_28_method_2_code 159 = .ok (.putfield 24, 3) := by decide +kernel
theorem d5_162 : decode prog_28_method_2_code 162 = .ok (.iload 7, 2) := by decide +kernel
theorem d5_164 : decode prog_28_method_2_code 164 = .ok (.istore 5, 2) := by decide +kernel
theorem d5_94 : decode prog_28_method_2_code 94 = .ok (.iload 7, 2) := by decide +kernel
theorem d5_96 : decode prog_28_method_2_code 96 = .ok (.iload 8, 2) := by decide +kernel
theorem d5_98 : decode prog_28_method_2_code 98 = .ok (.if_icmp .ge 27, 3) := by decide +kernel
theorem d5_101 : decode prog_28_method_2_code 101 = .ok (.aload_n 1, 1) := by decide +kernel
theorem d5_102 : decode prog_28_method_2_code 102 = .ok (.iload 7, 2) := by decide +kernel
theorem d5_104 : decode prog_28_method_2_code 104 = .ok (.baload, 1) := by decide +kernel
theorem d5_105 : decode prog_28_method_2_code 105 = .ok (.bipush 10, 2) := by decide +kernel
theorem d5_107 : decode prog_28_method_2_code 107 = .ok (.if_icmp .eq 18, 3) := by decide +kernel
theorem d5_110 : decode prog_28_method_2_code 110 = .ok (.aload_n 1, 1) := by decide +kernel
theorem d5_111 : decode prog_28_method_2_code 111 = .ok (.iload 7, 2) := by decide +kernel
theorem d5_113 : decode prog_28_method_2_code 113 = .ok (.baload, 1) := by decide +kernel
theorem d5_114 : decode prog_28_method_2_code 114 = .ok (.bipush 13, 2) := by decide +kernel
theorem d5_116 : decode prog_28_method_2_code 116 = .ok (.if_icmp .eq 9, 3) := by decide +kernel
theorem d5_119 : decode prog_28_method_2_code 119 = .ok (.iinc 7 1, 3) := by decide +kernel
theorem d5_122 : decode prog_28_method_2_code 122 = .ok (.goto (-28), 3) := by decide +kernel
theorem ef_rm5 (m : MethodId) (x0 : Addr) (x1 : Addr) (x2 : Int32) (x3 : Int32) (x4 : Int32) : entryFrame m #[(.ref x0), (.ref x1), (.int x2), (.int x3), (.int x4)] 9 = mkF m 0 #[.val (.ref x0), .val (.ref x1), .val (.int x2), .val (.int x3), .val (.int x4), .unset, .unset, .unset, .unset] [] := by first | (simp [entryFrame, mkF, argsToLocals, Value.category]; done) | rfl
def Q5 (Z : State) (a1 : Addr) (a2 : Addr) (x2 : Int32) (x3 : Int32) (x4 : Int32) (u : Nat → Int32) (tt : Nat) (xo : Int32) (u0 : Value) (Rr : Int32 × Int32 × Int32 × Bool × Bool × Bool) (h0 : Heap) (n0 : Nat) (v : Option Value) (h : Heap) (L : List Loc) : Prop := own_Q Z a1 h0 n0 Rr xo v h L
set_option maxRecDepth 65536 in
set_option maxHeartbeats 40000000 in
theorem rm5 (l : Launch) (Z : State) (a0 : Array Value) (hw : ∀ d ∈ tables_1, d.before a0 Z = true) (ws : List Jvm.Cond) (a1 : Addr) (a2 : Addr) (x2 : Int32) (x3 : Int32) (x4 : Int32) (u : Nat → Int32) (tt : Nat) (xo : Int32) (u0 : Value) (Rr : Int32 × Int32 × Int32 × Bool × Bool × Bool) (h0 : Heap) (n0 : Nat) (Z0 : n0 ≤ h0.size) (E_a1 : Exa Z h0 a1 "com/example/coppice/coppice/http/RequestHead$Line") (F_lastRun : Fld Z h0 a1 "com/example/coppice/coppice/http/RequestHead$Line" "lastRun" "I" u0) (F_ended : Fld Z h0 a1 "com/example/coppice/coppice/http/RequestHead$Line" "ended" "Z" (.int (0 : Int32))) (F_afterCr : Fld Z h0 a1 "com/example/coppice/coppice/http/RequestHead$Line" "afterCr" "Z" (.int (0 : Int32))) (F_length : Fld Z h0 a1 "com/example/coppice/coppice/http/RequestHead$Line" "length" "I" (.int (0 : Int32))) (F_overflowed : Fld Z h0 a1 "com/example/coppice/coppice/http/RequestHead$Line" "overflowed" "Z" (.int xo)) (A : Ary Z h0 a2 .byte 3 (fun x => .int (u x))) (ne_a1_a2 : a1 ≠ a2) (g_a1 : n0 ≤ a1) (hnt : own_nt u) (hx2 : x2 = (0 : Int32)) (hx3 : x3.toInt = (tt : Int)) (ht : tt ≤ 3) (hRr : own_R u x3 x4 = Rr) :
    MetFree l (⟨"com/example/coppice/coppice/http/RequestHead$Line", "take", "([BIII)I"⟩ : MethodName) (head1 (Jvm.Cond.code (⟨"com/example/coppice/coppice/http/RequestHead$Line", "take", "([BIII)I"⟩ : MethodName) prog_28_method_2_code 9 (some .int) :: ws) ({ frames := 1, cells := 0, slots := 0, locals := 13 } : Room)) (fun a U => a = #[(.ref a1), (.ref a2), (.int x2), (.int x3), (.int x4)] ∧ Z.Warmed39 U.vm ∧ U.heap = h0) (fun _ _ _ _ _ => True) (fun _ U o U' => ∃ v L, o = .returned v ∧ Q5 Z a1 a2 x2 x3 x4 u tt xo u0 Rr h0 n0 v U'.heap L ∧ FrameEnd U o U' L ({ frames := 1, cells := 0, slots := 0, locals := 13 } : Room).cells ({ frames := 1, cells := 0, slots := 0, locals := 13 } : Room).slots) := by
  refine MetFree.of_bodySF (plainFor_of_name pn_1) hisR ?_
  intro p e s m args below meth c s₁ Bd hml0 hP hK
  obtain ⟨rfl, hZ, hh⟩ := hP
  have hx := Bd.exec
  have hby := Bd.bytes
  have hml : c.maxLocals = 9 := hml0
  have hown : s.vm.findClass "com/example/coppice/coppice/http/RequestHead$Line" = some m.cls := findClass_of_methodNamed Bd.named
  have hnm := (name_of_methodNamed Bd.named Bd.method).1
  have X0 : Stand p l e ({ frames := 1, cells := 0, slots := 0, locals := 13 } : Room) s m #[(.ref a1), (.ref a2), (.int x2), (.int x3), (.int x4)] below meth c s₁ [] 0 0 := Stand.of_body Bd
  have e0 : s₁.heap = h0 := by rw [← hh, Bd.state]; rfl
  have N0 := Fr.nil n0
  have K0 := Keep.refl h0 [a1]
  suffices hD : Dn p e below s (Q5 Z a1 a2 x2 x3 x4 u tt xo u0 Rr h0 n0) ({ frames := 1, cells := 0, slots := 0, locals := 13 } : Room).cells ({ frames := 1, cells := 0, slots := 0, locals := 13 } : Room).slots s₁ (mkF m 0 #[.val (.ref a1), .val (.ref a2), .val (.int x2), .val (.int x3), .val (.int x4), .unset, .unset, .unset, .unset] []) from by
    obtain ⟨s₂, o, q1, q2⟩ := hD
    exact ⟨s₂, o, castTop (ef_rm5 m a1 a2 x2 x3 x4) q1, q2⟩
  refine Dn.st (fun t q => XS.aloadN X0.here hx rfl (hb hby d5_0) rfl rfl  q) ?_
  show Dn p e below s _ _ _ s₁ (mkF m 1 #[.val (.ref a1), .val (.ref a2), .val (.int x2), .val (.int x3), .val (.int x4), .unset, .unset, .unset, .unset] [(.ref a1)])
  refine Dn.st (fun t q => XS.iconst X0.here hx rfl (hb hby d5_1) q) ?_
  show Dn p e below s _ _ _ s₁ (mkF m 2 #[.val (.ref a1), .val (.ref a2), .val (.int x2), .val (.int x3), .val (.int x4), .unset, .unset, .unset, .unset] [(.int (0 : Int32)), (.ref a1)])
  obtain ⟨T1, h1, X1, e1, W1, st1⟩ := putF X0 hx hZ hown (host := "") (Or.inl (hw _ (List.mem_of_getElem? (i := 22) rfl))) Via.refl e0 F_lastRun E_a1 (Or.inl (hw _ (List.mem_of_getElem? (i := 23) rfl))) (hw _ (List.mem_of_getElem? (i := 9) rfl)) (ty := .int) (by decide) rfl rfl (g := (mkF m 2 #[.val (.ref a1), .val (.ref a2), .val (.int x2), .val (.int x3), .val (.int x4), .unset, .unset, .unset, .unset] [(.int (0 : Int32)), (.ref a1)])) rfl rfl (hb hby d5_2)
  have N0 := Fr.snoc X1 N0 g_a1
  have Z0 := Nat.le_trans Z0 (Keep.of_wr W1).1
  have K0 := K0.wr W1 (Or.inl (List.mem_of_getElem? (i := 0) rfl))
  have E_a1 := E_a1.wr W1
  have F_lastRun := F_lastRun.same W1
  have F_ended := F_ended.other W1 (Or.inr (slot_ne (Or.inl (hw _ (List.mem_of_getElem? (i := 46) rfl))) (Or.inl (hw _ (List.mem_of_getElem? (i := 23) rfl))) (by decide) (t := .boolean) (t' := .int) (by decide) (by decide)))
  have F_afterCr := F_afterCr.other W1 (Or.inr (slot_ne (Or.inl (hw _ (List.mem_of_getElem? (i := 44) rfl))) (Or.inl (hw _ (List.mem_of_getElem? (i := 23) rfl))) (by decide) (t := .boolean) (t' := .int) (by decide) (by decide)))
  have F_length := F_length.other W1 (Or.inr (slot_ne (Or.inl (hw _ (List.mem_of_getElem? (i := 42) rfl))) (Or.inl (hw _ (List.mem_of_getElem? (i := 23) rfl))) (by decide) (t := .int) (t' := .int) (by decide) (by decide)))
  have F_overflowed := F_overflowed.other W1 (Or.inr (slot_ne (Or.inl (hw _ (List.mem_of_getElem? (i := 30) rfl))) (Or.inl (hw _ (List.mem_of_getElem? (i := 23) rfl))) (by decide) (t := .boolean) (t' := .int) (by decide) (by decide)))
  have A := A.other W1 (Ne.symm ne_a1_a2)
  refine Dn.st st1 ?_
  show Dn p e below s _ _ _ T1 (mkF m 5 #[.val (.ref a1), .val (.ref a2), .val (.int x2), .val (.int x3), .val (.int x4), .unset, .unset, .unset, .unset] [])
  refine Dn.st (fun t q => XS.iloadN X1.here hx rfl (hb hby d5_5) rfl  q) ?_
  show Dn p e below s _ _ _ T1 (mkF m 6 #[.val (.ref a1), .val (.ref a2), .val (.int x2), .val (.int x3), .val (.int x4), .unset, .unset, .unset, .unset] [(.int x2)])
  refine Dn.st (fun t q => XS.istore X1.here hx rfl (hb hby d5_6) rfl (l' := #[.val (.ref a1), .val (.ref a2), .val (.int x2), .val (.int x3), .val (.int x4), .val (.int x2), .unset, .unset, .unset]) rfl q) ?_
  show Dn p e below s _ _ _ T1 (mkF m 8 #[.val (.ref a1), .val (.ref a2), .val (.int x2), .val (.int x3), .val (.int x4), .val (.int x2), .unset, .unset, .unset] [])
  have lp : ∀ (f : Nat) (i5 : Int32) (ln : Int32) (lr : Int32) (en : Bool) (cr : Bool) (j : Nat) (s6 : Slot) (s7 : Slot) (s8 : Slot) (TL : State) (lcL : List Loc) (XL : Stand p l e ({ frames := 1, cells := 0, slots := 0, locals := 13 } : Room) s m #[(.ref a1), (.ref a2), (.int x2), (.int x3), (.int x4)] below meth c TL lcL 0 0) (hL : Heap) (eL : TL.heap = hL) (N0 : Fr n0 lcL) (Z0 : n0 ≤ hL.size) (K0 : Keep h0 hL [a1]) (E_a1 : Exa Z hL a1 "com/example/coppice/coppice/http/RequestHead$Line") (F_lastRun : Fld Z hL a1 "com/example/coppice/coppice/http/RequestHead$Line" "lastRun" "I" (.int lr)) (F_ended : Fld Z hL a1 "com/example/coppice/coppice/http/RequestHead$Line" "ended" "Z" (.int (own_bi en))) (F_afterCr : Fld Z hL a1 "com/example/coppice/coppice/http/RequestHead$Line" "afterCr" "Z" (.int (own_bi cr))) (F_length : Fld Z hL a1 "com/example/coppice/coppice/http/RequestHead$Line" "length" "I" (.int ln)) (F_overflowed : Fld Z hL a1 "com/example/coppice/coppice/http/RequestHead$Line" "overflowed" "Z" (.int xo)) (A : Ary Z hL a2 .byte 3 (fun x => .int (u x))) (hs6 : One s6) (hs7 : One s7) (hs8 : One s8) (hR : own_tk u x3 x4 f i5 ln lr en cr = Rr) (hj : i5.toInt = (j : Int)) (hf : tt < j + f) (hcr : en = false → cr = true → 0 < j ∧ u (j - 1) = 13), Dn p e below s (Q5 Z a1 a2 x2 x3 x4 u tt xo u0 Rr h0 n0) (({ frames := 1, cells := 0, slots := 0, locals := 13 } : Room).cells) (({ frames := 1, cells := 0, slots := 0, locals := 13 } : Room).slots) TL (mkF m 8 #[.val (.ref a1), .val (.ref a2), .val (.int x2), .val (.int x3), .val (.int x4), .val (.int i5), s6, s7, s8] []) := by
    intro f
    induction f with
    | zero =>
      intro i5 ln lr en cr j s6 s7 s8 TL lcL XL hL eL N0 Z0 K0 E_a1 F_lastRun F_ended F_afterCr F_length F_overflowed A hs6 hs7 hs8 hR hj hf hcr
      refine Dn.st (fun t q => XS.iload XL.here hx rfl (hb hby d5_8) rfl  q) ?_
      show Dn p e below s _ _ _ TL (mkF m 10 #[.val (.ref a1), .val (.ref a2), .val (.int x2), .val (.int x3), .val (.int x4), .val (.int i5), s6, s7, s8] [(.int i5)])
      refine Dn.st (fun t q => XS.iloadN XL.here hx rfl (hb hby d5_10) rfl  q) ?_
      show Dn p e below s _ _ _ TL (mkF m 11 #[.val (.ref a1), .val (.ref a2), .val (.int x2), .val (.int x3), .val (.int x4), .val (.int i5), s6, s7, s8] [(.int x3), (.int i5)])
      refine Dn.st (fun t q => XS.icmpYes XL.here hx rfl (pc0 := 11) (pc' := 169) rfl (hb hby d5_11) rfl (flt (own_nat hj hx3 hf)).2.1 (by decide) (by decide) q) ?_
      show Dn p e below s _ _ _ TL (mkF m 169 #[.val (.ref a1), .val (.ref a2), .val (.int x2), .val (.int x3), .val (.int x4), .val (.int i5), s6, s7, s8] [])
      refine Dn.st (fun t q => XS.iload XL.here hx rfl (hb hby d5_169) rfl  q) ?_
      show Dn p e below s _ _ _ TL (mkF m 171 #[.val (.ref a1), .val (.ref a2), .val (.int x2), .val (.int x3), .val (.int x4), .val (.int i5), s6, s7, s8] [(.int i5)])
      exact Dn.retI XL hx Bd.notSynchronized Bd.returns (hb hby d5_171) (by rw [eL]; exact own_Qout Rr xo ((own_tk_0 (f := 0) (own_nat hj hx3 hf)).symm.trans hR) N0 K0 F_lastRun F_ended F_afterCr F_length F_overflowed) (by decide) (by decide)
    | succ f ih =>
      intro i5 ln lr en cr j s6 s7 s8 TL lcL XL hL eL N0 Z0 K0 E_a1 F_lastRun F_ended F_afterCr F_length F_overflowed A hs6 hs7 hs8 hR hj hf hcr
      refine Dn.st (fun t q => XS.iload XL.here hx rfl (hb hby d5_8) rfl  q) ?_
      show Dn p e below s _ _ _ TL (mkF m 10 #[.val (.ref a1), .val (.ref a2), .val (.int x2), .val (.int x3), .val (.int x4), .val (.int i5), s6, s7, s8] [(.int i5)])
      refine Dn.st (fun t q => XS.iloadN XL.here hx rfl (hb hby d5_10) rfl  q) ?_
      show Dn p e below s _ _ _ TL (mkF m 11 #[.val (.ref a1), .val (.ref a2), .val (.int x2), .val (.int x3), .val (.int x4), .val (.int i5), s6, s7, s8] [(.int x3), (.int i5)])
      by_cases hat : i5 < x3
      · refine Dn.st (fun t q => XS.icmpNo XL.here hx rfl (hb hby d5_11) rfl (tlt hat).2.1 q) ?_
        show Dn p e below s _ _ _ TL (mkF m 14 #[.val (.ref a1), .val (.ref a2), .val (.int x2), .val (.int x3), .val (.int x4), .val (.int i5), s6, s7, s8] [])
        refine Dn.st (fun t q => XS.aloadN XL.here hx rfl (hb hby d5_14) rfl rfl  q) ?_
        show Dn p e below s _ _ _ TL (mkF m 15 #[.val (.ref a1), .val (.ref a2), .val (.int x2), .val (.int x3), .val (.int x4), .val (.int i5), s6, s7, s8] [(.ref a1)])
        obtain ⟨T2, X2, e2, st2⟩ := getF XL hx hZ hown (host := "") (Or.inl (hw _ (List.mem_of_getElem? (i := 45) rfl))) Via.refl eL F_ended (g := (mkF m 15 #[.val (.ref a1), .val (.ref a2), .val (.int x2), .val (.int x3), .val (.int x4), .val (.int i5), s6, s7, s8] [(.ref a1)])) rfl rfl (hb hby d5_15)
        refine Dn.st st2 ?_
        show Dn p e below s _ _ _ T2 (mkF m 18 #[.val (.ref a1), .val (.ref a2), .val (.int x2), .val (.int x3), .val (.int x4), .val (.int i5), s6, s7, s8] [(.int (own_bi en))])
        cases en with
        | false =>
          refine Dn.st (fun t q => XS.ifNo X2.here hx rfl (hb hby d5_18) rfl ((if0 _ _).trans (teq rfl).2) q) ?_
          show Dn p e below s _ _ _ T2 (mkF m 21 #[.val (.ref a1), .val (.ref a2), .val (.int x2), .val (.int x3), .val (.int x4), .val (.int i5), s6, s7, s8] [])
          have hj3 : j < 3 := own_j3 hj hx3 ht hat
          refine Dn.st (fun t q => XS.aloadN X2.here hx rfl (hb hby d5_21) rfl rfl  q) ?_
          show Dn p e below s _ _ _ T2 (mkF m 22 #[.val (.ref a1), .val (.ref a2), .val (.int x2), .val (.int x3), .val (.int x4), .val (.int i5), s6, s7, s8] [(.ref a2)])
          refine Dn.st (fun t q => XS.iload X2.here hx rfl (hb hby d5_22) rfl  q) ?_
          show Dn p e below s _ _ _ T2 (mkF m 24 #[.val (.ref a1), .val (.ref a2), .val (.int x2), .val (.int x3), .val (.int x4), .val (.int i5), s6, s7, s8] [(.int i5), (.ref a2)])
          refine Dn.st (aLoadB (w := u) X2 hx hZ e2 A (i := j) hj hj3 (g := (mkF m 24 #[.val (.ref a1), .val (.ref a2), .val (.int x2), .val (.int x3), .val (.int x4), .val (.int i5), s6, s7, s8] [(.int i5), (.ref a2)])) rfl rfl (hb hby d5_24)) ?_
          show Dn p e below s _ _ _ T2 (mkF m 25 #[.val (.ref a1), .val (.ref a2), .val (.int x2), .val (.int x3), .val (.int x4), .val (.int i5), s6, s7, s8] [(.int (u j))])
          refine Dn.st (fun t q => XS.istore X2.here hx rfl (hb hby d5_25) rfl (l' := #[.val (.ref a1), .val (.ref a2), .val (.int x2), .val (.int x3), .val (.int x4), .val (.int i5), .val (.int (u j)), s7, s8]) (XS.store1 (o := s6) rfl hs6 rfl) q) ?_
          show Dn p e below s _ _ _ T2 (mkF m 27 #[.val (.ref a1), .val (.ref a2), .val (.int x2), .val (.int x3), .val (.int x4), .val (.int i5), .val (.int (u j)), s7, s8] [])
          refine Dn.st (fun t q => XS.iload X2.here hx rfl (hb hby d5_27) rfl  q) ?_
          show Dn p e below s _ _ _ T2 (mkF m 29 #[.val (.ref a1), .val (.ref a2), .val (.int x2), .val (.int x3), .val (.int x4), .val (.int i5), .val (.int (u j)), s7, s8] [(.int (u j))])
          refine Dn.st (fun t q => XS.bipush X2.here hx rfl (hb hby d5_29) q) ?_
          show Dn p e below s _ _ _ T2 (mkF m 31 #[.val (.ref a1), .val (.ref a2), .val (.int x2), .val (.int x3), .val (.int x4), .val (.int i5), .val (.int (u j)), s7, s8] [(.int (10 : Int32)), (.int (u j))])
          by_cases h10 : (u j) = (10 : Int32)
          · refine Dn.st (fun t q => XS.icmpNo X2.here hx rfl (hb hby d5_31) rfl (teq h10).2 q) ?_
            show Dn p e below s _ _ _ T2 (mkF m 34 #[.val (.ref a1), .val (.ref a2), .val (.int x2), .val (.int x3), .val (.int x4), .val (.int i5), .val (.int (u j)), s7, s8] [])
            refine Dn.st (fun t q => XS.aloadN X2.here hx rfl (hb hby d5_34) rfl rfl  q) ?_
            show Dn p e below s _ _ _ T2 (mkF m 35 #[.val (.ref a1), .val (.ref a2), .val (.int x2), .val (.int x3), .val (.int x4), .val (.int i5), .val (.int (u j)), s7, s8] [(.ref a1)])
            refine Dn.st (fun t q => XS.iconst X2.here hx rfl (hb hby d5_35) q) ?_
            show Dn p e below s _ _ _ T2 (mkF m 36 #[.val (.ref a1), .val (.ref a2), .val (.int x2), .val (.int x3), .val (.int x4), .val (.int i5), .val (.int (u j)), s7, s8] [(.int (1 : Int32)), (.ref a1)])
            obtain ⟨T3, h3, X3, e3, W3, st3⟩ := putFN X2 hx hZ hown (hw _ (List.mem_of_getElem? (i := 45) rfl)) Via.refl e2 F_ended E_a1 (Or.inl (hw _ (List.mem_of_getElem? (i := 46) rfl))) (hw _ (List.mem_of_getElem? (i := 9) rfl)) (ty := .boolean) (v' := (.int (1 : Int32))) (by decide) rfl rfl (g := (mkF m 36 #[.val (.ref a1), .val (.ref a2), .val (.int x2), .val (.int x3), .val (.int x4), .val (.int i5), .val (.int (u j)), s7, s8] [(.int (1 : Int32)), (.ref a1)])) rfl rfl (hb hby d5_36)
            have N0 := Fr.snoc X3 N0 g_a1
            have Z0 := Nat.le_trans Z0 (Keep.of_wr W3).1
            have K0 := K0.wr W3 (Or.inl (List.mem_of_getElem? (i := 0) rfl))
            have E_a1 := E_a1.wr W3
            have F_lastRun := F_lastRun.other W3 (Or.inr (slot_ne (Or.inl (hw _ (List.mem_of_getElem? (i := 23) rfl))) (Or.inl (hw _ (List.mem_of_getElem? (i := 46) rfl))) (by decide) (t := .int) (t' := .boolean) (by decide) (by decide)))
            have F_ended := F_ended.same W3
            have F_afterCr := F_afterCr.other W3 (Or.inr (slot_ne (Or.inl (hw _ (List.mem_of_getElem? (i := 44) rfl))) (Or.inl (hw _ (List.mem_of_getElem? (i := 46) rfl))) (by decide) (t := .boolean) (t' := .boolean) (by decide) (by decide)))
            have F_length := F_length.other W3 (Or.inr (slot_ne (Or.inl (hw _ (List.mem_of_getElem? (i := 42) rfl))) (Or.inl (hw _ (List.mem_of_getElem? (i := 46) rfl))) (by decide) (t := .int) (t' := .boolean) (by decide) (by decide)))
            have F_overflowed := F_overflowed.other W3 (Or.inr (slot_ne (Or.inl (hw _ (List.mem_of_getElem? (i := 30) rfl))) (Or.inl (hw _ (List.mem_of_getElem? (i := 46) rfl))) (by decide) (t := .boolean) (t' := .boolean) (by decide) (by decide)))
            have A := A.other W3 (Ne.symm ne_a1_a2)
            refine Dn.st st3 ?_
            show Dn p e below s _ _ _ T3 (mkF m 39 #[.val (.ref a1), .val (.ref a2), .val (.int x2), .val (.int x3), .val (.int x4), .val (.int i5), .val (.int (u j)), s7, s8] [])
            refine Dn.st (fun t q => XS.iinc X3.here hx rfl (hb hby d5_39) rfl (l' := #[.val (.ref a1), .val (.ref a2), .val (.int x2), .val (.int x3), .val (.int x4), .val (.int (i5 + (1 : Int32))), .val (.int (u j)), s7, s8]) rfl q) ?_
            show Dn p e below s _ _ _ T3 (mkF m 42 #[.val (.ref a1), .val (.ref a2), .val (.int x2), .val (.int x3), .val (.int x4), .val (.int (i5 + (1 : Int32))), .val (.int (u j)), s7, s8] [])
            refine Dn.st (fun t q => XS.goto X3.here hx rfl (pc0 := 42) (pc' := 166) rfl (hb hby d5_42) (by decide) (by decide) q) ?_
            show Dn p e below s _ _ _ T3 (mkF m 166 #[.val (.ref a1), .val (.ref a2), .val (.int x2), .val (.int x3), .val (.int x4), .val (.int (i5 + (1 : Int32))), .val (.int (u j)), s7, s8] [])
            refine Dn.st (fun t q => XS.goto X3.here hx rfl (pc0 := 166) (pc' := 8) rfl (hb hby d5_166) (by decide) (by decide) q) ?_
            show Dn p e below s _ _ _ T3 (mkF m 8 #[.val (.ref a1), .val (.ref a2), .val (.int x2), .val (.int x3), .val (.int x4), .val (.int (i5 + (1 : Int32))), .val (.int (u j)), s7, s8] [])
            exact ih (i5 + 1) ln lr true cr (j + 1) (.val (.int (u j))) (s7) (s8) _ _ X3 _ e3 N0 Z0 K0 E_a1 F_lastRun F_ended F_afterCr F_length F_overflowed A (One.val rfl) hs7 hs8 ((own_tk_10 hat hj h10).symm.trans hR) (own_up hj hj3) (by omega) (fun q => nomatch q)
          · refine Dn.st (fun t q => XS.icmpYes X2.here hx rfl (pc0 := 31) (pc' := 45) rfl (hb hby d5_31) rfl (feq h10).2 (by decide) (by decide) q) ?_
            show Dn p e below s _ _ _ T2 (mkF m 45 #[.val (.ref a1), .val (.ref a2), .val (.int x2), .val (.int x3), .val (.int x4), .val (.int i5), .val (.int (u j)), s7, s8] [])
            refine Dn.st (fun t q => XS.aloadN X2.here hx rfl (hb hby d5_45) rfl rfl  q) ?_
            show Dn p e below s _ _ _ T2 (mkF m 46 #[.val (.ref a1), .val (.ref a2), .val (.int x2), .val (.int x3), .val (.int x4), .val (.int i5), .val (.int (u j)), s7, s8] [(.ref a1)])
            obtain ⟨T4, X4, e4, st4⟩ := getF X2 hx hZ hown (host := "") (Or.inl (hw _ (List.mem_of_getElem? (i := 43) rfl))) Via.refl e2 F_afterCr (g := (mkF m 46 #[.val (.ref a1), .val (.ref a2), .val (.int x2), .val (.int x3), .val (.int x4), .val (.int i5), .val (.int (u j)), s7, s8] [(.ref a1)])) rfl rfl (hb hby d5_46)
            refine Dn.st st4 ?_
            show Dn p e below s _ _ _ T4 (mkF m 49 #[.val (.ref a1), .val (.ref a2), .val (.int x2), .val (.int x3), .val (.int x4), .val (.int i5), .val (.int (u j)), s7, s8] [(.int (own_bi cr))])
            cases cr with
            | false =>
              refine Dn.st (fun t q => XS.ifYes X4.here hx rfl (pc0 := 49) (pc' := 56) rfl (hb hby d5_49) rfl ((if0 _ _).trans (teq rfl).1) (by decide) (by decide) q) ?_
              show Dn p e below s _ _ _ T4 (mkF m 56 #[.val (.ref a1), .val (.ref a2), .val (.int x2), .val (.int x3), .val (.int x4), .val (.int i5), .val (.int (u j)), s7, s8] [])
              refine Dn.st (fun t q => XS.iload X4.here hx rfl (hb hby d5_56) rfl  q) ?_
              show Dn p e below s _ _ _ T4 (mkF m 58 #[.val (.ref a1), .val (.ref a2), .val (.int x2), .val (.int x3), .val (.int x4), .val (.int i5), .val (.int (u j)), s7, s8] [(.int (u j))])
              refine Dn.st (fun t q => XS.bipush X4.here hx rfl (hb hby d5_58) q) ?_
              show Dn p e below s _ _ _ T4 (mkF m 60 #[.val (.ref a1), .val (.ref a2), .val (.int x2), .val (.int x3), .val (.int x4), .val (.int i5), .val (.int (u j)), s7, s8] [(.int (13 : Int32)), (.int (u j))])
              by_cases h13 : (u j) = (13 : Int32)
              · refine Dn.st (fun t q => XS.icmpNo X4.here hx rfl (hb hby d5_60) rfl (teq h13).2 q) ?_
                show Dn p e below s _ _ _ T4 (mkF m 63 #[.val (.ref a1), .val (.ref a2), .val (.int x2), .val (.int x3), .val (.int x4), .val (.int i5), .val (.int (u j)), s7, s8] [])
                refine Dn.st (fun t q => XS.aloadN X4.here hx rfl (hb hby d5_63) rfl rfl  q) ?_
                show Dn p e below s _ _ _ T4 (mkF m 64 #[.val (.ref a1), .val (.ref a2), .val (.int x2), .val (.int x3), .val (.int x4), .val (.int i5), .val (.int (u j)), s7, s8] [(.ref a1)])
                refine Dn.st (fun t q => XS.iconst X4.here hx rfl (hb hby d5_64) q) ?_
                show Dn p e below s _ _ _ T4 (mkF m 65 #[.val (.ref a1), .val (.ref a2), .val (.int x2), .val (.int x3), .val (.int x4), .val (.int i5), .val (.int (u j)), s7, s8] [(.int (1 : Int32)), (.ref a1)])
                obtain ⟨T5, h5, X5, e5, W5, st5⟩ := putFN X4 hx hZ hown (hw _ (List.mem_of_getElem? (i := 43) rfl)) Via.refl e4 F_afterCr E_a1 (Or.inl (hw _ (List.mem_of_getElem? (i := 44) rfl))) (hw _ (List.mem_of_getElem? (i := 9) rfl)) (ty := .boolean) (v' := (.int (1 : Int32))) (by decide) rfl rfl (g := (mkF m 65 #[.val (.ref a1), .val (.ref a2), .val (.int x2), .val (.int x3), .val (.int x4), .val (.int i5), .val (.int (u j)), s7, s8] [(.int (1 : Int32)), (.ref a1)])) rfl rfl (hb hby d5_65)
                have N0 := Fr.snoc X5 N0 g_a1
                have Z0 := Nat.le_trans Z0 (Keep.of_wr W5).1
                have K0 := K0.wr W5 (Or.inl (List.mem_of_getElem? (i := 0) rfl))
                have E_a1 := E_a1.wr W5
                have F_lastRun := F_lastRun.other W5 (Or.inr (slot_ne (Or.inl (hw _ (List.mem_of_getElem? (i := 23) rfl))) (Or.inl (hw _ (List.mem_of_getElem? (i := 44) rfl))) (by decide) (t := .int) (t' := .boolean) (by decide) (by decide)))
                have F_ended := F_ended.other W5 (Or.inr (slot_ne (Or.inl (hw _ (List.mem_of_getElem? (i := 46) rfl))) (Or.inl (hw _ (List.mem_of_getElem? (i := 44) rfl))) (by decide) (t := .boolean) (t' := .boolean) (by decide) (by decide)))
                have F_afterCr := F_afterCr.same W5
                have F_length := F_length.other W5 (Or.inr (slot_ne (Or.inl (hw _ (List.mem_of_getElem? (i := 42) rfl))) (Or.inl (hw _ (List.mem_of_getElem? (i := 44) rfl))) (by decide) (t := .int) (t' := .boolean) (by decide) (by decide)))
                have F_overflowed := F_overflowed.other W5 (Or.inr (slot_ne (Or.inl (hw _ (List.mem_of_getElem? (i := 30) rfl))) (Or.inl (hw _ (List.mem_of_getElem? (i := 44) rfl))) (by decide) (t := .boolean) (t' := .boolean) (by decide) (by decide)))
                have A := A.other W5 (Ne.symm ne_a1_a2)
                refine Dn.st st5 ?_
                show Dn p e below s _ _ _ T5 (mkF m 68 #[.val (.ref a1), .val (.ref a2), .val (.int x2), .val (.int x3), .val (.int x4), .val (.int i5), .val (.int (u j)), s7, s8] [])
                refine Dn.st (fun t q => XS.iinc X5.here hx rfl (hb hby d5_68) rfl (l' := #[.val (.ref a1), .val (.ref a2), .val (.int x2), .val (.int x3), .val (.int x4), .val (.int (i5 + (1 : Int32))), .val (.int (u j)), s7, s8]) rfl q) ?_
                show Dn p e below s _ _ _ T5 (mkF m 71 #[.val (.ref a1), .val (.ref a2), .val (.int x2), .val (.int x3), .val (.int x4), .val (.int (i5 + (1 : Int32))), .val (.int (u j)), s7, s8] [])
                refine Dn.st (fun t q => XS.goto X5.here hx rfl (pc0 := 71) (pc' := 166) rfl (hb hby d5_71) (by decide) (by decide) q) ?_
                show Dn p e below s _ _ _ T5 (mkF m 166 #[.val (.ref a1), .val (.ref a2), .val (.int x2), .val (.int x3), .val (.int x4), .val (.int (i5 + (1 : Int32))), .val (.int (u j)), s7, s8] [])
                refine Dn.st (fun t q => XS.goto X5.here hx rfl (pc0 := 166) (pc' := 8) rfl (hb hby d5_166) (by decide) (by decide) q) ?_
                show Dn p e below s _ _ _ T5 (mkF m 8 #[.val (.ref a1), .val (.ref a2), .val (.int x2), .val (.int x3), .val (.int x4), .val (.int (i5 + (1 : Int32))), .val (.int (u j)), s7, s8] [])
                exact ih (i5 + 1) ln lr false true (j + 1) (.val (.int (u j))) (s7) (s8) _ _ X5 _ e5 N0 Z0 K0 E_a1 F_lastRun F_ended F_afterCr F_length F_overflowed A (One.val rfl) hs7 hs8 ((own_tk_13 hat hj h10 h13).symm.trans hR) (own_up hj hj3) (by omega) (fun _ _ => ⟨Nat.succ_pos j, h13⟩)
              · refine Dn.st (fun t q => XS.icmpYes X4.here hx rfl (pc0 := 60) (pc' := 74) rfl (hb hby d5_60) rfl (feq h13).2 (by decide) (by decide) q) ?_
                show Dn p e below s _ _ _ T4 (mkF m 74 #[.val (.ref a1), .val (.ref a2), .val (.int x2), .val (.int x3), .val (.int x4), .val (.int i5), .val (.int (u j)), s7, s8] [])
                refine Dn.st (fun t q => XS.iload X4.here hx rfl (hb hby d5_74) rfl  q) ?_
                show Dn p e below s _ _ _ T4 (mkF m 76 #[.val (.ref a1), .val (.ref a2), .val (.int x2), .val (.int x3), .val (.int x4), .val (.int i5), .val (.int (u j)), s7, s8] [(.int i5)])
                refine Dn.st (fun t q => XS.istore X4.here hx rfl (hb hby d5_76) rfl (l' := #[.val (.ref a1), .val (.ref a2), .val (.int x2), .val (.int x3), .val (.int x4), .val (.int i5), .val (.int (u j)), .val (.int i5), s8]) (XS.store1 (o := s7) rfl hs7 rfl) q) ?_
                show Dn p e below s _ _ _ T4 (mkF m 78 #[.val (.ref a1), .val (.ref a2), .val (.int x2), .val (.int x3), .val (.int x4), .val (.int i5), .val (.int (u j)), .val (.int i5), s8] [])
                refine Dn.st (fun t q => XS.iloadN X4.here hx rfl (hb hby d5_78) rfl  q) ?_
                show Dn p e below s _ _ _ T4 (mkF m 79 #[.val (.ref a1), .val (.ref a2), .val (.int x2), .val (.int x3), .val (.int x4), .val (.int i5), .val (.int (u j)), .val (.int i5), s8] [(.int x3)])
                refine Dn.st (fun t q => XS.iload X4.here hx rfl (hb hby d5_79) rfl  q) ?_
                show Dn p e below s _ _ _ T4 (mkF m 81 #[.val (.ref a1), .val (.ref a2), .val (.int x2), .val (.int x3), .val (.int x4), .val (.int i5), .val (.int (u j)), .val (.int i5), s8] [(.int i5), (.int x3)])
                refine Dn.st (fun t q => XS.iload X4.here hx rfl (hb hby d5_81) rfl  q) ?_
                show Dn p e below s _ _ _ T4 (mkF m 83 #[.val (.ref a1), .val (.ref a2), .val (.int x2), .val (.int x3), .val (.int x4), .val (.int i5), .val (.int (u j)), .val (.int i5), s8] [(.int x4), (.int i5), (.int x3)])
                refine Dn.st (fun t q => XS.iadd X4.here hx rfl (hb hby d5_83) rfl q) ?_
                show Dn p e below s _ _ _ T4 (mkF m 84 #[.val (.ref a1), .val (.ref a2), .val (.int x2), .val (.int x3), .val (.int x4), .val (.int i5), .val (.int (u j)), .val (.int i5), s8] [(.int (i5 + x4)), (.int x3)])
                refine Dn.st (fun t q => XS.aloadN X4.here hx rfl (hb hby d5_84) rfl rfl  q) ?_
                show Dn p e below s _ _ _ T4 (mkF m 85 #[.val (.ref a1), .val (.ref a2), .val (.int x2), .val (.int x3), .val (.int x4), .val (.int i5), .val (.int (u j)), .val (.int i5), s8] [(.ref a1), (.int (i5 + x4)), (.int x3)])
                obtain ⟨T6, X6, e6, st6⟩ := getF X4 hx hZ hown (host := "") (Or.inl (hw _ (List.mem_of_getElem? (i := 41) rfl))) Via.refl e4 F_length (g := (mkF m 85 #[.val (.ref a1), .val (.ref a2), .val (.int x2), .val (.int x3), .val (.int x4), .val (.int i5), .val (.int (u j)), .val (.int i5), s8] [(.ref a1), (.int (i5 + x4)), (.int x3)])) rfl rfl (hb hby d5_85)
                refine Dn.st st6 ?_
                show Dn p e below s _ _ _ T6 (mkF m 88 #[.val (.ref a1), .val (.ref a2), .val (.int x2), .val (.int x3), .val (.int x4), .val (.int i5), .val (.int (u j)), .val (.int i5), s8] [(.int ln), (.int (i5 + x4)), (.int x3)])
                refine Dn.st (fun t q => XS.isub X6.here hx rfl (hb hby d5_88) rfl q) ?_
                show Dn p e below s _ _ _ T6 (mkF m 89 #[.val (.ref a1), .val (.ref a2), .val (.int x2), .val (.int x3), .val (.int x4), .val (.int i5), .val (.int (u j)), .val (.int i5), s8] [(.int ((i5 + x4) - ln)), (.int x3)])
                obtain ⟨_, _, ⟨T7, Lq7, kq_7, nq_7⟩, -, X7, ⟨Lc7, hQ7, lq7, yq7, zq7⟩, st7⟩ := Jvm.LawKit.callS X6 hx (y := (⟨"java/lang/Math", "min", "(II)I"⟩ : MethodName)) hown (mvT hZ (hw _ (List.mem_of_getElem? (i := 57) rfl))) (mvT hZ (hw _ (List.mem_of_getElem? (i := 58) rfl))) (mvT hZ (hw _ (List.mem_of_getElem? (i := 59) rfl))) (mvT hZ (hw _ (List.mem_of_getElem? (i := 60) rfl))) (by decide) (backOf (W := 0) (rm11 l Z a0 hw [] x3 ((i5 + x4) - ln)  hL n0 Z0 ) hZ (hw _ (List.mem_of_getElem? (i := 60) rfl)) (hw _ (List.mem_of_getElem? (i := 59) rfl)) (by decide) (by decide)) (g := (mkF m 89 #[.val (.ref a1), .val (.ref a2), .val (.int x2), .val (.int x3), .val (.int x4), .val (.int i5), .val (.int (u j)), .val (.int i5), s8] [(.int ((i5 + x4) - ln)), (.int x3)])) rfl (by rw [hml]; rfl) (argsL := [(.int x3), (.int ((i5 + x4) - ln))]) (rest := []) (lenOf pd_0 rfl) rfl (by show 2 * 0 + _ ≤ _; exact Nat.le_of_eq rfl) (hb hby d5_89) (fun _ _ => ⟨rfl, e6, (by decide : 0 + 0 ≤ _), (by decide : 0 + 0 ≤ _)⟩)
                dsimp only [Pt.U, Pt.locs, Pt.cells, Pt.slots] at X7 lq7 yq7 zq7 st7 hQ7
                subst yq7 zq7
                obtain ⟨rfl, N7q, hq7⟩ := hQ7
                have N0 : Fr n0 Lq7 := by rw [lq7]; exact Fr.app N0 N7q
                have e7 : T7.heap = hL := hq7
                refine Dn.st st7 ?_
                show Dn p e below s _ _ _ T7 (mkF m 92 #[.val (.ref a1), .val (.ref a2), .val (.int x2), .val (.int x3), .val (.int x4), .val (.int i5), .val (.int (u j)), .val (.int i5), s8] [(.int (own_min x3 ((i5 + x4) - ln)))])
                refine Dn.st (fun t q => XS.istore X7.here hx rfl (hb hby d5_92) rfl (l' := #[.val (.ref a1), .val (.ref a2), .val (.int x2), .val (.int x3), .val (.int x4), .val (.int i5), .val (.int (u j)), .val (.int i5), .val (.int (own_min x3 ((i5 + x4) - ln)))]) (XS.store1 (o := s8) rfl hs8 rfl) q) ?_
                show Dn p e below s _ _ _ T7 (mkF m 94 #[.val (.ref a1), .val (.ref a2), .val (.int x2), .val (.int x3), .val (.int x4), .val (.int i5), .val (.int (u j)), .val (.int i5), .val (.int (own_min x3 ((i5 + x4) - ln)))] [])
                have rest : ∀ (i7 : Int32) (h7 : own_scan u (own_min x3 ((i5 + x4) - ln)) 4 i5 = i7), Dn p e below s (Q5 Z a1 a2 x2 x3 x4 u tt xo u0 Rr h0 n0) (({ frames := 1, cells := 0, slots := 0, locals := 13 } : Room).cells) (({ frames := 1, cells := 0, slots := 0, locals := 13 } : Room).slots) T7 (mkF m 125 #[.val (.ref a1), .val (.ref a2), .val (.int x2), .val (.int x3), .val (.int x4), .val (.int i5), .val (.int (u j)), .val (.int i7), .val (.int (own_min x3 ((i5 + x4) - ln)))] []) := by
                  intro i7 h7
                  refine Dn.st (fun t q => XS.iload X7.here hx rfl (hb hby d5_125) rfl  q) ?_
                  show Dn p e below s _ _ _ T7 (mkF m 127 #[.val (.ref a1), .val (.ref a2), .val (.int x2), .val (.int x3), .val (.int x4), .val (.int i5), .val (.int (u j)), .val (.int i7), .val (.int (own_min x3 ((i5 + x4) - ln)))] [(.int i7)])
                  refine Dn.st (fun t q => XS.iload X7.here hx rfl (hb hby d5_127) rfl  q) ?_
                  show Dn p e below s _ _ _ T7 (mkF m 129 #[.val (.ref a1), .val (.ref a2), .val (.int x2), .val (.int x3), .val (.int x4), .val (.int i5), .val (.int (u j)), .val (.int i7), .val (.int (own_min x3 ((i5 + x4) - ln)))] [(.int i5), (.int i7)])
                  by_cases hii : i7 = i5
                  · refine Dn.st (fun t q => XS.icmpNo X7.here hx rfl (hb hby d5_129) rfl (teq hii).2 q) ?_
                    show Dn p e below s _ _ _ T7 (mkF m 132 #[.val (.ref a1), .val (.ref a2), .val (.int x2), .val (.int x3), .val (.int x4), .val (.int i5), .val (.int (u j)), .val (.int i7), .val (.int (own_min x3 ((i5 + x4) - ln)))] [])
                    refine Dn.st (fun t q => XS.aloadN X7.here hx rfl (hb hby d5_132) rfl rfl  q) ?_
                    show Dn p e below s _ _ _ T7 (mkF m 133 #[.val (.ref a1), .val (.ref a2), .val (.int x2), .val (.int x3), .val (.int x4), .val (.int i5), .val (.int (u j)), .val (.int i7), .val (.int (own_min x3 ((i5 + x4) - ln)))] [(.ref a1)])
                    refine Dn.st (fun t q => XS.iconst X7.here hx rfl (hb hby d5_133) q) ?_
                    show Dn p e below s _ _ _ T7 (mkF m 134 #[.val (.ref a1), .val (.ref a2), .val (.int x2), .val (.int x3), .val (.int x4), .val (.int i5), .val (.int (u j)), .val (.int i7), .val (.int (own_min x3 ((i5 + x4) - ln)))] [(.int (1 : Int32)), (.ref a1)])
                    obtain ⟨T8, h8, X8, e8, W8, st8⟩ := putFN X7 hx hZ hown (hw _ (List.mem_of_getElem? (i := 29) rfl)) Via.refl e7 F_overflowed E_a1 (Or.inl (hw _ (List.mem_of_getElem? (i := 30) rfl))) (hw _ (List.mem_of_getElem? (i := 9) rfl)) (ty := .boolean) (v' := (.int (1 : Int32))) (by decide) rfl rfl (g := (mkF m 134 #[.val (.ref a1), .val (.ref a2), .val (.int x2), .val (.int x3), .val (.int x4), .val (.int i5), .val (.int (u j)), .val (.int i7), .val (.int (own_min x3 ((i5 + x4) - ln)))] [(.int (1 : Int32)), (.ref a1)])) rfl rfl (hb hby d5_134)
                    have N0 := Fr.snoc X8 N0 g_a1
                    have Z0 := Nat.le_trans Z0 (Keep.of_wr W8).1
                    have K0 := K0.wr W8 (Or.inl (List.mem_of_getElem? (i := 0) rfl))
                    have E_a1 := E_a1.wr W8
                    have F_lastRun := F_lastRun.other W8 (Or.inr (slot_ne (Or.inl (hw _ (List.mem_of_getElem? (i := 23) rfl))) (Or.inl (hw _ (List.mem_of_getElem? (i := 30) rfl))) (by decide) (t := .int) (t' := .boolean) (by decide) (by decide)))
                    have F_ended := F_ended.other W8 (Or.inr (slot_ne (Or.inl (hw _ (List.mem_of_getElem? (i := 46) rfl))) (Or.inl (hw _ (List.mem_of_getElem? (i := 30) rfl))) (by decide) (t := .boolean) (t' := .boolean) (by decide) (by decide)))
                    have F_afterCr := F_afterCr.other W8 (Or.inr (slot_ne (Or.inl (hw _ (List.mem_of_getElem? (i := 44) rfl))) (Or.inl (hw _ (List.mem_of_getElem? (i := 30) rfl))) (by decide) (t := .boolean) (t' := .boolean) (by decide) (by decide)))
                    have F_length := F_length.other W8 (Or.inr (slot_ne (Or.inl (hw _ (List.mem_of_getElem? (i := 42) rfl))) (Or.inl (hw _ (List.mem_of_getElem? (i := 30) rfl))) (by decide) (t := .int) (t' := .boolean) (by decide) (by decide)))
                    have F_overflowed := F_overflowed.same W8
                    have A := A.other W8 (Ne.symm ne_a1_a2)
                    refine Dn.st st8 ?_
                    show Dn p e below s _ _ _ T8 (mkF m 137 #[.val (.ref a1), .val (.ref a2), .val (.int x2), .val (.int x3), .val (.int x4), .val (.int i5), .val (.int (u j)), .val (.int i7), .val (.int (own_min x3 ((i5 + x4) - ln)))] [])
                    refine Dn.st (fun t q => XS.iload X8.here hx rfl (hb hby d5_137) rfl  q) ?_
                    show Dn p e below s _ _ _ T8 (mkF m 139 #[.val (.ref a1), .val (.ref a2), .val (.int x2), .val (.int x3), .val (.int x4), .val (.int i5), .val (.int (u j)), .val (.int i7), .val (.int (own_min x3 ((i5 + x4) - ln)))] [(.int i5)])
                    exact Dn.retI X8 hx Bd.notSynchronized Bd.returns (hb hby d5_139) (by rw [e8]; exact own_Qout Rr xo ((own_tk_ov hat hj h10 h13 (h7.trans hii)).symm.trans hR) N0 K0 F_lastRun F_ended F_afterCr F_length F_overflowed) (by decide) (by decide)
                  · refine Dn.st (fun t q => XS.icmpYes X7.here hx rfl (pc0 := 129) (pc' := 140) rfl (hb hby d5_129) rfl (feq hii).2 (by decide) (by decide) q) ?_
                    show Dn p e below s _ _ _ T7 (mkF m 140 #[.val (.ref a1), .val (.ref a2), .val (.int x2), .val (.int x3), .val (.int x4), .val (.int i5), .val (.int (u j)), .val (.int i7), .val (.int (own_min x3 ((i5 + x4) - ln)))] [])
                    refine Dn.st (fun t q => XS.aloadN X7.here hx rfl (hb hby d5_140) rfl rfl  q) ?_
                    show Dn p e below s _ _ _ T7 (mkF m 141 #[.val (.ref a1), .val (.ref a2), .val (.int x2), .val (.int x3), .val (.int x4), .val (.int i5), .val (.int (u j)), .val (.int i7), .val (.int (own_min x3 ((i5 + x4) - ln)))] [(.ref a1)])
                    refine Dn.st (fun t q => XS.iload X7.here hx rfl (hb hby d5_141) rfl  q) ?_
                    show Dn p e below s _ _ _ T7 (mkF m 143 #[.val (.ref a1), .val (.ref a2), .val (.int x2), .val (.int x3), .val (.int x4), .val (.int i5), .val (.int (u j)), .val (.int i7), .val (.int (own_min x3 ((i5 + x4) - ln)))] [(.int i7), (.ref a1)])
                    refine Dn.st (fun t q => XS.iload X7.here hx rfl (hb hby d5_143) rfl  q) ?_
                    show Dn p e below s _ _ _ T7 (mkF m 145 #[.val (.ref a1), .val (.ref a2), .val (.int x2), .val (.int x3), .val (.int x4), .val (.int i5), .val (.int (u j)), .val (.int i7), .val (.int (own_min x3 ((i5 + x4) - ln)))] [(.int i5), (.int i7), (.ref a1)])
                    refine Dn.st (fun t q => XS.isub X7.here hx rfl (hb hby d5_145) rfl q) ?_
                    show Dn p e below s _ _ _ T7 (mkF m 146 #[.val (.ref a1), .val (.ref a2), .val (.int x2), .val (.int x3), .val (.int x4), .val (.int i5), .val (.int (u j)), .val (.int i7), .val (.int (own_min x3 ((i5 + x4) - ln)))] [(.int (i7 - i5)), (.ref a1)])
                    obtain ⟨T9, h9, X9, e9, W9, st9⟩ := putF X7 hx hZ hown (host := "") (Or.inl (hw _ (List.mem_of_getElem? (i := 22) rfl))) Via.refl e7 F_lastRun E_a1 (Or.inl (hw _ (List.mem_of_getElem? (i := 23) rfl))) (hw _ (List.mem_of_getElem? (i := 9) rfl)) (ty := .int) (by decide) rfl rfl (g := (mkF m 146 #[.val (.ref a1), .val (.ref a2), .val (.int x2), .val (.int x3), .val (.int x4), .val (.int i5), .val (.int (u j)), .val (.int i7), .val (.int (own_min x3 ((i5 + x4) - ln)))] [(.int (i7 - i5)), (.ref a1)])) rfl rfl (hb hby d5_146)
                    have N0 := Fr.snoc X9 N0 g_a1
                    have Z0 := Nat.le_trans Z0 (Keep.of_wr W9).1
                    have K0 := K0.wr W9 (Or.inl (List.mem_of_getElem? (i := 0) rfl))
                    have E_a1 := E_a1.wr W9
                    have F_lastRun := F_lastRun.same W9
                    have F_ended := F_ended.other W9 (Or.inr (slot_ne (Or.inl (hw _ (List.mem_of_getElem? (i := 46) rfl))) (Or.inl (hw _ (List.mem_of_getElem? (i := 23) rfl))) (by decide) (t := .boolean) (t' := .int) (by decide) (by decide)))
                    have F_afterCr := F_afterCr.other W9 (Or.inr (slot_ne (Or.inl (hw _ (List.mem_of_getElem? (i := 44) rfl))) (Or.inl (hw _ (List.mem_of_getElem? (i := 23) rfl))) (by decide) (t := .boolean) (t' := .int) (by decide) (by decide)))
                    have F_length := F_length.other W9 (Or.inr (slot_ne (Or.inl (hw _ (List.mem_of_getElem? (i := 42) rfl))) (Or.inl (hw _ (List.mem_of_getElem? (i := 23) rfl))) (by decide) (t := .int) (t' := .int) (by decide) (by decide)))
                    have F_overflowed := F_overflowed.other W9 (Or.inr (slot_ne (Or.inl (hw _ (List.mem_of_getElem? (i := 30) rfl))) (Or.inl (hw _ (List.mem_of_getElem? (i := 23) rfl))) (by decide) (t := .boolean) (t' := .int) (by decide) (by decide)))
                    have A := A.other W9 (Ne.symm ne_a1_a2)
                    refine Dn.st st9 ?_
                    show Dn p e below s _ _ _ T9 (mkF m 149 #[.val (.ref a1), .val (.ref a2), .val (.int x2), .val (.int x3), .val (.int x4), .val (.int i5), .val (.int (u j)), .val (.int i7), .val (.int (own_min x3 ((i5 + x4) - ln)))] [])
                    refine Dn.st (fun t q => XS.aloadN X9.here hx rfl (hb hby d5_149) rfl rfl  q) ?_
                    show Dn p e below s _ _ _ T9 (mkF m 150 #[.val (.ref a1), .val (.ref a2), .val (.int x2), .val (.int x3), .val (.int x4), .val (.int i5), .val (.int (u j)), .val (.int i7), .val (.int (own_min x3 ((i5 + x4) - ln)))] [(.ref a1)])
                    refine Dn.st (fun t q => XS.dup X9.here hx rfl (hb hby d5_150) rfl rfl q) ?_
                    show Dn p e below s _ _ _ T9 (mkF m 151 #[.val (.ref a1), .val (.ref a2), .val (.int x2), .val (.int x3), .val (.int x4), .val (.int i5), .val (.int (u j)), .val (.int i7), .val (.int (own_min x3 ((i5 + x4) - ln)))] [(.ref a1), (.ref a1)])
                    obtain ⟨T10, X10, e10, st10⟩ := getF X9 hx hZ hown (host := "") (Or.inl (hw _ (List.mem_of_getElem? (i := 41) rfl))) Via.refl e9 F_length (g := (mkF m 151 #[.val (.ref a1), .val (.ref a2), .val (.int x2), .val (.int x3), .val (.int x4), .val (.int i5), .val (.int (u j)), .val (.int i7), .val (.int (own_min x3 ((i5 + x4) - ln)))] [(.ref a1), (.ref a1)])) rfl rfl (hb hby d5_151)
                    refine Dn.st st10 ?_
                    show Dn p e below s _ _ _ T10 (mkF m 154 #[.val (.ref a1), .val (.ref a2), .val (.int x2), .val (.int x3), .val (.int x4), .val (.int i5), .val (.int (u j)), .val (.int i7), .val (.int (own_min x3 ((i5 + x4) - ln)))] [(.int ln), (.ref a1)])
                    refine Dn.st (fun t q => XS.aloadN X10.here hx rfl (hb hby d5_154) rfl rfl  q) ?_
                    show Dn p e below s _ _ _ T10 (mkF m 155 #[.val (.ref a1), .val (.ref a2), .val (.int x2), .val (.int x3), .val (.int x4), .val (.int i5), .val (.int (u j)), .val (.int i7), .val (.int (own_min x3 ((i5 + x4) - ln)))] [(.ref a1), (.int ln), (.ref a1)])
                    obtain ⟨T11, X11, e11, st11⟩ := getF X10 hx hZ hown (host := "") (Or.inl (hw _ (List.mem_of_getElem? (i := 22) rfl))) Via.refl e10 F_lastRun (g := (mkF m 155 #[.val (.ref a1), .val (.ref a2), .val (.int x2), .val (.int x3), .val (.int x4), .val (.int i5), .val (.int (u j)), .val (.int i7), .val (.int (own_min x3 ((i5 + x4) - ln)))] [(.ref a1), (.int ln), (.ref a1)])) rfl rfl (hb hby d5_155)
                    refine Dn.st st11 ?_
                    show Dn p e below s _ _ _ T11 (mkF m 158 #[.val (.ref a1), .val (.ref a2), .val (.int x2), .val (.int x3), .val (.int x4), .val (.int i5), .val (.int (u j)), .val (.int i7), .val (.int (own_min x3 ((i5 + x4) - ln)))] [(.int (i7 - i5)), (.int ln), (.ref a1)])
                    refine Dn.st (fun t q => XS.iadd X11.here hx rfl (hb hby d5_158) rfl q) ?_
                    show Dn p e below s _ _ _ T11 (mkF m 159 #[.val (.ref a1), .val (.ref a2), .val (.int x2), .val (.int x3), .val (.int x4), .val (.int i5), .val (.int (u j)), .val (.int i7), .val (.int (own_min x3 ((i5 + x4) - ln)))] [(.int (ln + (i7 - i5))), (.ref a1)])
                    obtain ⟨T12, h12, X12, e12, W12, st12⟩ := putF X11 hx hZ hown (host := "") (Or.inl (hw _ (List.mem_of_getElem? (i := 41) rfl))) Via.refl e11 F_length E_a1 (Or.inl (hw _ (List.mem_of_getElem? (i := 42) rfl))) (hw _ (List.mem_of_getElem? (i := 9) rfl)) (ty := .int) (by decide) rfl rfl (g := (mkF m 159 #[.val (.ref a1), .val (.ref a2), .val (.int x2), .val (.int x3), .val (.int x4), .val (.int i5), .val (.int (u j)), .val (.int i7), .val (.int (own_min x3 ((i5 + x4) - ln)))] [(.int (ln + (i7 - i5))), (.ref a1)])) rfl rfl (hb hby d5_159)
                    have N0 := Fr.snoc X12 N0 g_a1
                    have Z0 := Nat.le_trans Z0 (Keep.of_wr W12).1
                    have K0 := K0.wr W12 (Or.inl (List.mem_of_getElem? (i := 0) rfl))
                    have E_a1 := E_a1.wr W12
                    have F_lastRun := F_lastRun.other W12 (Or.inr (slot_ne (Or.inl (hw _ (List.mem_of_getElem? (i := 23) rfl))) (Or.inl (hw _ (List.mem_of_getElem? (i := 42) rfl))) (by decide) (t := .int) (t' := .int) (by decide) (by decide)))
                    have F_ended := F_ended.other W12 (Or.inr (slot_ne (Or.inl (hw _ (List.mem_of_getElem? (i := 46) rfl))) (Or.inl (hw _ (List.mem_of_getElem? (i := 42) rfl))) (by decide) (t := .boolean) (t' := .int) (by decide) (by decide)))
                    have F_afterCr := F_afterCr.other W12 (Or.inr (slot_ne (Or.inl (hw _ (List.mem_of_getElem? (i := 44) rfl))) (Or.inl (hw _ (List.mem_of_getElem? (i := 42) rfl))) (by decide) (t := .boolean) (t' := .int) (by decide) (by decide)))
                    have F_length := F_length.same W12
                    have F_overflowed := F_overflowed.other W12 (Or.inr (slot_ne (Or.inl (hw _ (List.mem_of_getElem? (i := 30) rfl))) (Or.inl (hw _ (List.mem_of_getElem? (i := 42) rfl))) (by decide) (t := .boolean) (t' := .int) (by decide) (by decide)))
                    have A := A.other W12 (Ne.symm ne_a1_a2)
                    refine Dn.st st12 ?_
                    show Dn p e below s _ _ _ T12 (mkF m 162 #[.val (.ref a1), .val (.ref a2), .val (.int x2), .val (.int x3), .val (.int x4), .val (.int i5), .val (.int (u j)), .val (.int i7), .val (.int (own_min x3 ((i5 + x4) - ln)))] [])
                    refine Dn.st (fun t q => XS.iload X12.here hx rfl (hb hby d5_162) rfl  q) ?_
                    show Dn p e below s _ _ _ T12 (mkF m 164 #[.val (.ref a1), .val (.ref a2), .val (.int x2), .val (.int x3), .val (.int x4), .val (.int i5), .val (.int (u j)), .val (.int i7), .val (.int (own_min x3 ((i5 + x4) - ln)))] [(.int i7)])
                    refine Dn.st (fun t q => XS.istore X12.here hx rfl (hb hby d5_164) rfl (l' := #[.val (.ref a1), .val (.ref a2), .val (.int x2), .val (.int x3), .val (.int x4), .val (.int i7), .val (.int (u j)), .val (.int i7), .val (.int (own_min x3 ((i5 + x4) - ln)))]) rfl q) ?_
                    show Dn p e below s _ _ _ T12 (mkF m 166 #[.val (.ref a1), .val (.ref a2), .val (.int x2), .val (.int x3), .val (.int x4), .val (.int i7), .val (.int (u j)), .val (.int i7), .val (.int (own_min x3 ((i5 + x4) - ln)))] [])
                    refine Dn.st (fun t q => XS.goto X12.here hx rfl (pc0 := 166) (pc' := 8) rfl (hb hby d5_166) (by decide) (by decide) q) ?_
                    show Dn p e below s _ _ _ T12 (mkF m 8 #[.val (.ref a1), .val (.ref a2), .val (.int x2), .val (.int x3), .val (.int x4), .val (.int i7), .val (.int (u j)), .val (.int i7), .val (.int (own_min x3 ((i5 + x4) - ln)))] [])
                    obtain ⟨j7, hj7, hjj⟩ := own_scan_at (f := 4) hj (own_lim hx3 ht) h7
                    exact ih i7 (ln + (i7 - i5)) (i7 - i5) false false j7 (.val (.int (u j))) (.val (.int i7)) (.val (.int (own_min x3 ((i5 + x4) - ln)))) _ _ X12 _ e12 N0 Z0 K0 E_a1 F_lastRun F_ended F_afterCr F_length F_overflowed A (One.val rfl) (One.val rfl) (One.val rfl) ((own_tk_run hat hj h10 h13 h7 hii).symm.trans hR) hj7 (own_dec7 hj hj7 hjj hii hf) (fun _ q => nomatch q)
                have lp7 : ∀ (f7 : Nat) (i7 : Int32) (j7 : Nat) (hS : own_scan u (own_min x3 ((i5 + x4) - ln)) f7 i7 = own_scan u (own_min x3 ((i5 + x4) - ln)) 4 i5) (hj7 : i7.toInt = (j7 : Int)) (hf7 : 3 < j7 + f7), Dn p e below s (Q5 Z a1 a2 x2 x3 x4 u tt xo u0 Rr h0 n0) (({ frames := 1, cells := 0, slots := 0, locals := 13 } : Room).cells) (({ frames := 1, cells := 0, slots := 0, locals := 13 } : Room).slots) T7 (mkF m 94 #[.val (.ref a1), .val (.ref a2), .val (.int x2), .val (.int x3), .val (.int x4), .val (.int i5), .val (.int (u j)), .val (.int i7), .val (.int (own_min x3 ((i5 + x4) - ln)))] []) := by
                  intro f7
                  induction f7 with
                  | zero =>
                    intro i7 j7 hS hj7 hf7
                    refine Dn.st (fun t q => XS.iload X7.here hx rfl (hb hby d5_94) rfl  q) ?_
                    show Dn p e below s _ _ _ T7 (mkF m 96 #[.val (.ref a1), .val (.ref a2), .val (.int x2), .val (.int x3), .val (.int x4), .val (.int i5), .val (.int (u j)), .val (.int i7), .val (.int (own_min x3 ((i5 + x4) - ln)))] [(.int i7)])
                    refine Dn.st (fun t q => XS.iload X7.here hx rfl (hb hby d5_96) rfl  q) ?_
                    show Dn p e below s _ _ _ T7 (mkF m 98 #[.val (.ref a1), .val (.ref a2), .val (.int x2), .val (.int x3), .val (.int x4), .val (.int i5), .val (.int (u j)), .val (.int i7), .val (.int (own_min x3 ((i5 + x4) - ln)))] [(.int (own_min x3 ((i5 + x4) - ln))), (.int i7)])
                    refine Dn.st (fun t q => XS.icmpYes X7.here hx rfl (pc0 := 98) (pc' := 125) rfl (hb hby d5_98) rfl (flt (own_nlt7 hj7 (own_lim hx3 ht) hf7)).2.1 (by decide) (by decide) q) ?_
                    show Dn p e below s _ _ _ T7 (mkF m 125 #[.val (.ref a1), .val (.ref a2), .val (.int x2), .val (.int x3), .val (.int x4), .val (.int i5), .val (.int (u j)), .val (.int i7), .val (.int (own_min x3 ((i5 + x4) - ln)))] [])
                    exact rest i7 (hS.symm.trans rfl)
                  | succ f7 ih7 =>
                    intro i7 j7 hS hj7 hf7
                    refine Dn.st (fun t q => XS.iload X7.here hx rfl (hb hby d5_94) rfl  q) ?_
                    show Dn p e below s _ _ _ T7 (mkF m 96 #[.val (.ref a1), .val (.ref a2), .val (.int x2), .val (.int x3), .val (.int x4), .val (.int i5), .val (.int (u j)), .val (.int i7), .val (.int (own_min x3 ((i5 + x4) - ln)))] [(.int i7)])
                    refine Dn.st (fun t q => XS.iload X7.here hx rfl (hb hby d5_96) rfl  q) ?_
                    show Dn p e below s _ _ _ T7 (mkF m 98 #[.val (.ref a1), .val (.ref a2), .val (.int x2), .val (.int x3), .val (.int x4), .val (.int i5), .val (.int (u j)), .val (.int i7), .val (.int (own_min x3 ((i5 + x4) - ln)))] [(.int (own_min x3 ((i5 + x4) - ln))), (.int i7)])
                    by_cases hlt : i7 < (own_min x3 ((i5 + x4) - ln))
                    · refine Dn.st (fun t q => XS.icmpNo X7.here hx rfl (hb hby d5_98) rfl (tlt hlt).2.1 q) ?_
                      show Dn p e below s _ _ _ T7 (mkF m 101 #[.val (.ref a1), .val (.ref a2), .val (.int x2), .val (.int x3), .val (.int x4), .val (.int i5), .val (.int (u j)), .val (.int i7), .val (.int (own_min x3 ((i5 + x4) - ln)))] [])
                      have hj73 : j7 < 3 := own_lt7 hj7 (own_lim hx3 ht) hlt
                      refine Dn.st (fun t q => XS.aloadN X7.here hx rfl (hb hby d5_101) rfl rfl  q) ?_
                      show Dn p e below s _ _ _ T7 (mkF m 102 #[.val (.ref a1), .val (.ref a2), .val (.int x2), .val (.int x3), .val (.int x4), .val (.int i5), .val (.int (u j)), .val (.int i7), .val (.int (own_min x3 ((i5 + x4) - ln)))] [(.ref a2)])
                      refine Dn.st (fun t q => XS.iload X7.here hx rfl (hb hby d5_102) rfl  q) ?_
                      show Dn p e below s _ _ _ T7 (mkF m 104 #[.val (.ref a1), .val (.ref a2), .val (.int x2), .val (.int x3), .val (.int x4), .val (.int i5), .val (.int (u j)), .val (.int i7), .val (.int (own_min x3 ((i5 + x4) - ln)))] [(.int i7), (.ref a2)])
                      refine Dn.st (aLoadB (w := u) X7 hx hZ e7 A (i := j7) hj7 hj73 (g := (mkF m 104 #[.val (.ref a1), .val (.ref a2), .val (.int x2), .val (.int x3), .val (.int x4), .val (.int i5), .val (.int (u j)), .val (.int i7), .val (.int (own_min x3 ((i5 + x4) - ln)))] [(.int i7), (.ref a2)])) rfl rfl (hb hby d5_104)) ?_
                      show Dn p e below s _ _ _ T7 (mkF m 105 #[.val (.ref a1), .val (.ref a2), .val (.int x2), .val (.int x3), .val (.int x4), .val (.int i5), .val (.int (u j)), .val (.int i7), .val (.int (own_min x3 ((i5 + x4) - ln)))] [(.int (u j7))])
                      refine Dn.st (fun t q => XS.bipush X7.here hx rfl (hb hby d5_105) q) ?_
                      show Dn p e below s _ _ _ T7 (mkF m 107 #[.val (.ref a1), .val (.ref a2), .val (.int x2), .val (.int x3), .val (.int x4), .val (.int i5), .val (.int (u j)), .val (.int i7), .val (.int (own_min x3 ((i5 + x4) - ln)))] [(.int (10 : Int32)), (.int (u j7))])
                      by_cases g10 : (u j7) = (10 : Int32)
                      · refine Dn.st (fun t q => XS.icmpYes X7.here hx rfl (pc0 := 107) (pc' := 125) rfl (hb hby d5_107) rfl (teq g10).1 (by decide) (by decide) q) ?_
                        show Dn p e below s _ _ _ T7 (mkF m 125 #[.val (.ref a1), .val (.ref a2), .val (.int x2), .val (.int x3), .val (.int x4), .val (.int i5), .val (.int (u j)), .val (.int i7), .val (.int (own_min x3 ((i5 + x4) - ln)))] [])
                        exact rest i7 (hS.symm.trans (own_scan_10 hlt hj7 g10))
                      · refine Dn.st (fun t q => XS.icmpNo X7.here hx rfl (hb hby d5_107) rfl (feq g10).1 q) ?_
                        show Dn p e below s _ _ _ T7 (mkF m 110 #[.val (.ref a1), .val (.ref a2), .val (.int x2), .val (.int x3), .val (.int x4), .val (.int i5), .val (.int (u j)), .val (.int i7), .val (.int (own_min x3 ((i5 + x4) - ln)))] [])
                        refine Dn.st (fun t q => XS.aloadN X7.here hx rfl (hb hby d5_110) rfl rfl  q) ?_
                        show Dn p e below s _ _ _ T7 (mkF m 111 #[.val (.ref a1), .val (.ref a2), .val (.int x2), .val (.int x3), .val (.int x4), .val (.int i5), .val (.int (u j)), .val (.int i7), .val (.int (own_min x3 ((i5 + x4) - ln)))] [(.ref a2)])
                        refine Dn.st (fun t q => XS.iload X7.here hx rfl (hb hby d5_111) rfl  q) ?_
                        show Dn p e below s _ _ _ T7 (mkF m 113 #[.val (.ref a1), .val (.ref a2), .val (.int x2), .val (.int x3), .val (.int x4), .val (.int i5), .val (.int (u j)), .val (.int i7), .val (.int (own_min x3 ((i5 + x4) - ln)))] [(.int i7), (.ref a2)])
                        refine Dn.st (aLoadB (w := u) X7 hx hZ e7 A (i := j7) hj7 hj73 (g := (mkF m 113 #[.val (.ref a1), .val (.ref a2), .val (.int x2), .val (.int x3), .val (.int x4), .val (.int i5), .val (.int (u j)), .val (.int i7), .val (.int (own_min x3 ((i5 + x4) - ln)))] [(.int i7), (.ref a2)])) rfl rfl (hb hby d5_113)) ?_
                        show Dn p e below s _ _ _ T7 (mkF m 114 #[.val (.ref a1), .val (.ref a2), .val (.int x2), .val (.int x3), .val (.int x4), .val (.int i5), .val (.int (u j)), .val (.int i7), .val (.int (own_min x3 ((i5 + x4) - ln)))] [(.int (u j7))])
                        refine Dn.st (fun t q => XS.bipush X7.here hx rfl (hb hby d5_114) q) ?_
                        show Dn p e below s _ _ _ T7 (mkF m 116 #[.val (.ref a1), .val (.ref a2), .val (.int x2), .val (.int x3), .val (.int x4), .val (.int i5), .val (.int (u j)), .val (.int i7), .val (.int (own_min x3 ((i5 + x4) - ln)))] [(.int (13 : Int32)), (.int (u j7))])
                        by_cases g13 : (u j7) = (13 : Int32)
                        · refine Dn.st (fun t q => XS.icmpYes X7.here hx rfl (pc0 := 116) (pc' := 125) rfl (hb hby d5_116) rfl (teq g13).1 (by decide) (by decide) q) ?_
                          show Dn p e below s _ _ _ T7 (mkF m 125 #[.val (.ref a1), .val (.ref a2), .val (.int x2), .val (.int x3), .val (.int x4), .val (.int i5), .val (.int (u j)), .val (.int i7), .val (.int (own_min x3 ((i5 + x4) - ln)))] [])
                          exact rest i7 (hS.symm.trans (own_scan_13 hlt hj7 g10 g13))
                        · refine Dn.st (fun t q => XS.icmpNo X7.here hx rfl (hb hby d5_116) rfl (feq g13).1 q) ?_
                          show Dn p e below s _ _ _ T7 (mkF m 119 #[.val (.ref a1), .val (.ref a2), .val (.int x2), .val (.int x3), .val (.int x4), .val (.int i5), .val (.int (u j)), .val (.int i7), .val (.int (own_min x3 ((i5 + x4) - ln)))] [])
                          refine Dn.st (fun t q => XS.iinc X7.here hx rfl (hb hby d5_119) rfl (l' := #[.val (.ref a1), .val (.ref a2), .val (.int x2), .val (.int x3), .val (.int x4), .val (.int i5), .val (.int (u j)), .val (.int (i7 + (1 : Int32))), .val (.int (own_min x3 ((i5 + x4) - ln)))]) rfl q) ?_
                          show Dn p e below s _ _ _ T7 (mkF m 122 #[.val (.ref a1), .val (.ref a2), .val (.int x2), .val (.int x3), .val (.int x4), .val (.int i5), .val (.int (u j)), .val (.int (i7 + (1 : Int32))), .val (.int (own_min x3 ((i5 + x4) - ln)))] [])
                          refine Dn.st (fun t q => XS.goto X7.here hx rfl (pc0 := 122) (pc' := 94) rfl (hb hby d5_122) (by decide) (by decide) q) ?_
                          show Dn p e below s _ _ _ T7 (mkF m 94 #[.val (.ref a1), .val (.ref a2), .val (.int x2), .val (.int x3), .val (.int x4), .val (.int i5), .val (.int (u j)), .val (.int (i7 + (1 : Int32))), .val (.int (own_min x3 ((i5 + x4) - ln)))] [])
                          exact ih7 (i7 + 1) (j7 + 1) ((own_scan_go hlt hj7 g10 g13).symm.trans hS) (own_up hj7 hj73) (by omega)
                    · refine Dn.st (fun t q => XS.icmpYes X7.here hx rfl (pc0 := 98) (pc' := 125) rfl (hb hby d5_98) rfl (flt hlt).2.1 (by decide) (by decide) q) ?_
                      show Dn p e below s _ _ _ T7 (mkF m 125 #[.val (.ref a1), .val (.ref a2), .val (.int x2), .val (.int x3), .val (.int x4), .val (.int i5), .val (.int (u j)), .val (.int i7), .val (.int (own_min x3 ((i5 + x4) - ln)))] [])
                      exact rest i7 (hS.symm.trans (own_scan_out hlt))
                exact lp7 4 i5 j rfl hj (by omega)
            | true =>
              exact absurd (own_ntj hnt (hcr rfl rfl) hj3) h10
        | true =>
          refine Dn.st (fun t q => XS.ifYes X2.here hx rfl (pc0 := 18) (pc' := 169) rfl (hb hby d5_18) rfl ((if0 _ _).trans (feq (by decide)).2) (by decide) (by decide) q) ?_
          show Dn p e below s _ _ _ T2 (mkF m 169 #[.val (.ref a1), .val (.ref a2), .val (.int x2), .val (.int x3), .val (.int x4), .val (.int i5), s6, s7, s8] [])
          refine Dn.st (fun t q => XS.iload X2.here hx rfl (hb hby d5_169) rfl  q) ?_
          show Dn p e below s _ _ _ T2 (mkF m 171 #[.val (.ref a1), .val (.ref a2), .val (.int x2), .val (.int x3), .val (.int x4), .val (.int i5), s6, s7, s8] [(.int i5)])
          exact Dn.retI X2 hx Bd.notSynchronized Bd.returns (hb hby d5_171) (by rw [e2]; exact own_Qout Rr xo ((own_tk_en hat).symm.trans hR) N0 K0 F_lastRun F_ended F_afterCr F_length F_overflowed) (by decide) (by decide)
      · refine Dn.st (fun t q => XS.icmpYes XL.here hx rfl (pc0 := 11) (pc' := 169) rfl (hb hby d5_11) rfl (flt hat).2.1 (by decide) (by decide) q) ?_
        show Dn p e below s _ _ _ TL (mkF m 169 #[.val (.ref a1), .val (.ref a2), .val (.int x2), .val (.int x3), .val (.int x4), .val (.int i5), s6, s7, s8] [])
        refine Dn.st (fun t q => XS.iload XL.here hx rfl (hb hby d5_169) rfl  q) ?_
        show Dn p e below s _ _ _ TL (mkF m 171 #[.val (.ref a1), .val (.ref a2), .val (.int x2), .val (.int x3), .val (.int x4), .val (.int i5), s6, s7, s8] [(.int i5)])
        exact Dn.retI XL hx Bd.notSynchronized Bd.returns (hb hby d5_171) (by rw [eL]; exact own_Qout Rr xo ((own_tk_0 (f := f + 1) hat).symm.trans hR) N0 K0 F_lastRun F_ended F_afterCr F_length F_overflowed) (by decide) (by decide)
  exact lp 4 x2 (0 : Int32) (0 : Int32) false false 0 .unset .unset .unset _ _ X1 _ e1 N0 Z0 K0 E_a1 F_lastRun F_ended F_afterCr F_length F_overflowed A One.u One.u One.u (by rw [hx2]; exact hRr) (by rw [hx2]; rfl) (by omega) (fun _ q => nomatch q)
theorem d6_0 : decode prog_28_method_5_code 0 = .ok (.aload_n 0, 1) := by decide +kernel
theorem d6_1 : decode prog_28_method_5_code 1 = .ok (.getfield 33, 3) := by decide +kernel
theorem d6_4 : decode prog_28_method_5_code 4 = .ok (.ireturn, 1) := by decide +kernel
theorem ef_rm6 (m : MethodId) (x0 : Addr) : entryFrame m #[(.ref x0)] 1 = mkF m 0 #[.val (.ref x0)] [] := by first | (simp [entryFrame, mkF, argsToLocals, Value.category]; done) | rfl
def Q6 (Z : State) (a1 : Addr) (u : Int32) (h0 : Heap) (n0 : Nat) (v : Option Value) (h : Heap) (L : List Loc) : Prop := v = some (.int (nar .boolean u)) ∧ Fr n0 L ∧ h = h0
set_option maxRecDepth 65536 in
set_option maxHeartbeats 40000000 in
theorem rm6 (l : Launch) (Z : State) (a0 : Array Value) (hw : ∀ d ∈ tables_1, d.before a0 Z = true) (ws : List Jvm.Cond) (a1 : Addr) (u : Int32) (h0 : Heap) (n0 : Nat) (Z0 : n0 ≤ h0.size) (F : Fld Z h0 a1 "com/example/coppice/coppice/http/RequestHead$Line" "overflowed" "Z" (.int u)) :
    MetFree l (⟨"com/example/coppice/coppice/http/RequestHead$Line", "overflowed", "()Z"⟩ : MethodName) (head1 (Jvm.Cond.code (⟨"com/example/coppice/coppice/http/RequestHead$Line", "overflowed", "()Z"⟩ : MethodName) prog_28_method_5_code 1 (some .boolean) :: ws) ({ frames := 0, cells := 0, slots := 0, locals := 0 } : Room)) (fun a U => a = #[(.ref a1)] ∧ Z.Warmed39 U.vm ∧ U.heap = h0) (fun _ _ _ _ _ => True) (fun _ U o U' => ∃ v L, o = .returned v ∧ Q6 Z a1 u h0 n0 v U'.heap L ∧ FrameEnd U o U' L ({ frames := 0, cells := 0, slots := 0, locals := 0 } : Room).cells ({ frames := 0, cells := 0, slots := 0, locals := 0 } : Room).slots) := by
  refine MetFree.of_bodySF (plainFor_of_name pn_1) hisR ?_
  intro p e s m args below meth c s₁ Bd hml0 hP hK
  obtain ⟨rfl, hZ, hh⟩ := hP
  have hx := Bd.exec
  have hby := Bd.bytes
  have hml : c.maxLocals = 1 := hml0
  have hown : s.vm.findClass "com/example/coppice/coppice/http/RequestHead$Line" = some m.cls := findClass_of_methodNamed Bd.named
  have hnm := (name_of_methodNamed Bd.named Bd.method).1
  have X0 : Stand p l e ({ frames := 0, cells := 0, slots := 0, locals := 0 } : Room) s m #[(.ref a1)] below meth c s₁ [] 0 0 := Stand.of_body Bd
  have e0 : s₁.heap = h0 := by rw [← hh, Bd.state]; rfl
  have N0 := Fr.nil n0
  have K0 := Keep.refl h0 []
  suffices hD : Dn p e below s (Q6 Z a1 u h0 n0) ({ frames := 0, cells := 0, slots := 0, locals := 0 } : Room).cells ({ frames := 0, cells := 0, slots := 0, locals := 0 } : Room).slots s₁ (mkF m 0 #[.val (.ref a1)] []) from by
    obtain ⟨s₂, o, q1, q2⟩ := hD
    exact ⟨s₂, o, castTop (ef_rm6 m a1) q1, q2⟩
  refine Dn.st (fun t q => XS.aloadN X0.here hx rfl (hb hby d6_0) rfl rfl  q) ?_
  show Dn p e below s _ _ _ s₁ (mkF m 1 #[.val (.ref a1)] [(.ref a1)])
  obtain ⟨T1, X1, e1, st1⟩ := getF X0 hx hZ hown (host := "") (Or.inl (hw _ (List.mem_of_getElem? (i := 29) rfl))) Via.refl e0 F (g := (mkF m 1 #[.val (.ref a1)] [(.ref a1)])) rfl rfl (hb hby d6_1)
  refine Dn.st st1 ?_
  show Dn p e below s _ _ _ T1 (mkF m 4 #[.val (.ref a1)] [(.int u)])
  exact Dn.retZ X1 hx Bd.notSynchronized (t := .boolean) Bd.returns (by simp) (hb hby d6_4) (by rw [e1]; exact ⟨rfl, N0, rfl⟩) (by decide) (by decide)
theorem d7_0 : decode prog_28_method_7_code 0 = .ok (.aload_n 0, 1) := by decide +kernel
theorem d7_1 : decode prog_28_method_7_code 1 = .ok (.getfield 7, 3) := by decide +kernel
theorem d7_4 : decode prog_28_method_7_code 4 = .ok (.ireturn, 1) := by decide +kernel
theorem ef_rm7 (m : MethodId) (x0 : Addr) : entryFrame m #[(.ref x0)] 1 = mkF m 0 #[.val (.ref x0)] [] := by first | (simp [entryFrame, mkF, argsToLocals, Value.category]; done) | rfl
def Q7 (Z : State) (a1 : Addr) (u : Int32) (h0 : Heap) (n0 : Nat) (v : Option Value) (h : Heap) (L : List Loc) : Prop := v = some (.int u) ∧ Fr n0 L ∧ h = h0
set_option maxRecDepth 65536 in
set_option maxHeartbeats 40000000 in
theorem rm7 (l : Launch) (Z : State) (a0 : Array Value) (hw : ∀ d ∈ tables_1, d.before a0 Z = true) (ws : List Jvm.Cond) (a1 : Addr) (u : Int32) (h0 : Heap) (n0 : Nat) (Z0 : n0 ≤ h0.size) (F : Fld Z h0 a1 "com/example/coppice/coppice/http/RequestHead$Line" "lastRun" "I" (.int u)) :
    MetFree l (⟨"com/example/coppice/coppice/http/RequestHead$Line", "lastRun", "()I"⟩ : MethodName) (head1 (Jvm.Cond.code (⟨"com/example/coppice/coppice/http/RequestHead$Line", "lastRun", "()I"⟩ : MethodName) prog_28_method_7_code 1 (some .int) :: ws) ({ frames := 0, cells := 0, slots := 0, locals := 0 } : Room)) (fun a U => a = #[(.ref a1)] ∧ Z.Warmed39 U.vm ∧ U.heap = h0) (fun _ _ _ _ _ => True) (fun _ U o U' => ∃ v L, o = .returned v ∧ Q7 Z a1 u h0 n0 v U'.heap L ∧ FrameEnd U o U' L ({ frames := 0, cells := 0, slots := 0, locals := 0 } : Room).cells ({ frames := 0, cells := 0, slots := 0, locals := 0 } : Room).slots) := by
  refine MetFree.of_bodySF (plainFor_of_name pn_1) hisR ?_
  intro p e s m args below meth c s₁ Bd hml0 hP hK
  obtain ⟨rfl, hZ, hh⟩ := hP
  have hx := Bd.exec
  have hby := Bd.bytes
  have hml : c.maxLocals = 1 := hml0
  have hown : s.vm.findClass "com/example/coppice/coppice/http/RequestHead$Line" = some m.cls := findClass_of_methodNamed Bd.named
  have hnm := (name_of_methodNamed Bd.named Bd.method).1
  have X0 : Stand p l e ({ frames := 0, cells := 0, slots := 0, locals := 0 } : Room) s m #[(.ref a1)] below meth c s₁ [] 0 0 := Stand.of_body Bd
  have e0 : s₁.heap = h0 := by rw [← hh, Bd.state]; rfl
  have N0 := Fr.nil n0
  have K0 := Keep.refl h0 []
  suffices hD : Dn p e below s (Q7 Z a1 u h0 n0) ({ frames := 0, cells := 0, slots := 0, locals := 0 } : Room).cells ({ frames := 0, cells := 0, slots := 0, locals := 0 } : Room).slots s₁ (mkF m 0 #[.val (.ref a1)] []) from by
    obtain ⟨s₂, o, q1, q2⟩ := hD
    exact ⟨s₂, o, castTop (ef_rm7 m a1) q1, q2⟩
  refine Dn.st (fun t q => XS.aloadN X0.here hx rfl (hb hby d7_0) rfl rfl  q) ?_
  show Dn p e below s _ _ _ s₁ (mkF m 1 #[.val (.ref a1)] [(.ref a1)])
  obtain ⟨T1, X1, e1, st1⟩ := getF X0 hx hZ hown (host := "") (Or.inl (hw _ (List.mem_of_getElem? (i := 22) rfl))) Via.refl e0 F (g := (mkF m 1 #[.val (.ref a1)] [(.ref a1)])) rfl rfl (hb hby d7_1)
  refine Dn.st st1 ?_
  show Dn p e below s _ _ _ T1 (mkF m 4 #[.val (.ref a1)] [(.int u)])
  exact Dn.retI X1 hx Bd.notSynchronized Bd.returns (hb hby d7_4) (by rw [e1]; exact ⟨rfl, N0, rfl⟩) (by decide) (by decide)
theorem d9_0 : decode prog_28_method_6_code 0 = .ok (.aload_n 0, 1) := by decide +kernel
theorem d9_1 : decode prog_28_method_6_code 1 = .ok (.getfield 24, 3) := by decide +kernel
theorem d9_4 : decode prog_28_method_6_code 4 = .ok (.ireturn, 1) := by decide +kernel
theorem ef_rm9 (m : MethodId) (x0 : Addr) : entryFrame m #[(.ref x0)] 1 = mkF m 0 #[.val (.ref x0)] [] := by first | (simp [entryFrame, mkF, argsToLocals, Value.category]; done) | rfl
def Q9 (Z : State) (a1 : Addr) (u : Int32) (h0 : Heap) (n0 : Nat) (v : Option Value) (h : Heap) (L : List Loc) : Prop := v = some (.int u) ∧ Fr n0 L ∧ h = h0
set_option maxRecDepth 65536 in
set_option maxHeartbeats 40000000 in
theorem rm9 (l : Launch) (Z : State) (a0 : Array Value) (hw : ∀ d ∈ tables_1, d.before a0 Z = true) (ws : List Jvm.Cond) (a1 : Addr) (u : Int32) (h0 : Heap) (n0 : Nat) (Z0 : n0 ≤ h0.size) (F : Fld Z h0 a1 "com/example/coppice/coppice/http/RequestHead$Line" "length" "I" (.int u)) :
    MetFree l (⟨"com/example/coppice/coppice/http/RequestHead$Line", "length", "()I"⟩ : MethodName) (head1 (Jvm.Cond.code (⟨"com/example/coppice/coppice/http/RequestHead$Line", "length", "()I"⟩ : MethodName) prog_28_method_6_code 1 (some .int) :: ws) ({ frames := 0, cells := 0, slots := 0, locals := 0 } : Room)) (fun a U => a = #[(.ref a1)] ∧ Z.Warmed39 U.vm ∧ U.heap = h0) (fun _ _ _ _ _ => True) (fun _ U o U' => ∃ v L, o = .returned v ∧ Q9 Z a1 u h0 n0 v U'.heap L ∧ FrameEnd U o U' L ({ frames := 0, cells := 0, slots := 0, locals := 0 } : Room).cells ({ frames := 0, cells := 0, slots := 0, locals := 0 } : Room).slots) := by
  refine MetFree.of_bodySF (plainFor_of_name pn_1) hisR ?_
  intro p e s m args below meth c s₁ Bd hml0 hP hK
  obtain ⟨rfl, hZ, hh⟩ := hP
  have hx := Bd.exec
  have hby := Bd.bytes
  have hml : c.maxLocals = 1 := hml0
  have hown : s.vm.findClass "com/example/coppice/coppice/http/RequestHead$Line" = some m.cls := findClass_of_methodNamed Bd.named
  have hnm := (name_of_methodNamed Bd.named Bd.method).1
  have X0 : Stand p l e ({ frames := 0, cells := 0, slots := 0, locals := 0 } : Room) s m #[(.ref a1)] below meth c s₁ [] 0 0 := Stand.of_body Bd
  have e0 : s₁.heap = h0 := by rw [← hh, Bd.state]; rfl
  have N0 := Fr.nil n0
  have K0 := Keep.refl h0 []
  suffices hD : Dn p e below s (Q9 Z a1 u h0 n0) ({ frames := 0, cells := 0, slots := 0, locals := 0 } : Room).cells ({ frames := 0, cells := 0, slots := 0, locals := 0 } : Room).slots s₁ (mkF m 0 #[.val (.ref a1)] []) from by
    obtain ⟨s₂, o, q1, q2⟩ := hD
    exact ⟨s₂, o, castTop (ef_rm9 m a1) q1, q2⟩
  refine Dn.st (fun t q => XS.aloadN X0.here hx rfl (hb hby d9_0) rfl rfl  q) ?_
  show Dn p e below s _ _ _ s₁ (mkF m 1 #[.val (.ref a1)] [(.ref a1)])
  obtain ⟨T1, X1, e1, st1⟩ := getF X0 hx hZ hown (host := "") (Or.inl (hw _ (List.mem_of_getElem? (i := 41) rfl))) Via.refl e0 F (g := (mkF m 1 #[.val (.ref a1)] [(.ref a1)])) rfl rfl (hb hby d9_1)
  refine Dn.st st1 ?_
  show Dn p e below s _ _ _ T1 (mkF m 4 #[.val (.ref a1)] [(.int u)])
  exact Dn.retI X1 hx Bd.notSynchronized Bd.returns (hb hby d9_4) (by rw [e1]; exact ⟨rfl, N0, rfl⟩) (by decide) (by decide)
theorem d10_0 : decode prog_28_method_4_code 0 = .ok (.aload_n 0, 1) := by decide +kernel
theorem d10_1 : decode prog_28_method_4_code 1 = .ok (.getfield 13, 3) := by decide +kernel
theorem d10_4 : decode prog_28_method_4_code 4 = .ok (.ireturn, 1) := by decide +kernel
theorem ef_rm10 (m : MethodId) (x0 : Addr) : entryFrame m #[(.ref x0)] 1 = mkF m 0 #[.val (.ref x0)] [] := by first | (simp [entryFrame, mkF, argsToLocals, Value.category]; done) | rfl
def Q10 (Z : State) (a1 : Addr) (u : Int32) (h0 : Heap) (n0 : Nat) (v : Option Value) (h : Heap) (L : List Loc) : Prop := v = some (.int (nar .boolean u)) ∧ Fr n0 L ∧ h = h0
set_option maxRecDepth 65536 in
set_option maxHeartbeats 40000000 in
theorem rm10 (l : Launch) (Z : State) (a0 : Array Value) (hw : ∀ d ∈ tables_1, d.before a0 Z = true) (ws : List Jvm.Cond) (a1 : Addr) (u : Int32) (h0 : Heap) (n0 : Nat) (Z0 : n0 ≤ h0.size) (F : Fld Z h0 a1 "com/example/coppice/coppice/http/RequestHead$Line" "ended" "Z" (.int u)) :
    MetFree l (⟨"com/example/coppice/coppice/http/RequestHead$Line", "ended", "()Z"⟩ : MethodName) (head1 (Jvm.Cond.code (⟨"com/example/coppice/coppice/http/RequestHead$Line", "ended", "()Z"⟩ : MethodName) prog_28_method_4_code 1 (some .boolean) :: ws) ({ frames := 0, cells := 0, slots := 0, locals := 0 } : Room)) (fun a U => a = #[(.ref a1)] ∧ Z.Warmed39 U.vm ∧ U.heap = h0) (fun _ _ _ _ _ => True) (fun _ U o U' => ∃ v L, o = .returned v ∧ Q10 Z a1 u h0 n0 v U'.heap L ∧ FrameEnd U o U' L ({ frames := 0, cells := 0, slots := 0, locals := 0 } : Room).cells ({ frames := 0, cells := 0, slots := 0, locals := 0 } : Room).slots) := by
  refine MetFree.of_bodySF (plainFor_of_name pn_1) hisR ?_
  intro p e s m args below meth c s₁ Bd hml0 hP hK
  obtain ⟨rfl, hZ, hh⟩ := hP
  have hx := Bd.exec
  have hby := Bd.bytes
  have hml : c.maxLocals = 1 := hml0
  have hown : s.vm.findClass "com/example/coppice/coppice/http/RequestHead$Line" = some m.cls := findClass_of_methodNamed Bd.named
  have hnm := (name_of_methodNamed Bd.named Bd.method).1
  have X0 : Stand p l e ({ frames := 0, cells := 0, slots := 0, locals := 0 } : Room) s m #[(.ref a1)] below meth c s₁ [] 0 0 := Stand.of_body Bd
  have e0 : s₁.heap = h0 := by rw [← hh, Bd.state]; rfl
  have N0 := Fr.nil n0
  have K0 := Keep.refl h0 []
  suffices hD : Dn p e below s (Q10 Z a1 u h0 n0) ({ frames := 0, cells := 0, slots := 0, locals := 0 } : Room).cells ({ frames := 0, cells := 0, slots := 0, locals := 0 } : Room).slots s₁ (mkF m 0 #[.val (.ref a1)] []) from by
    obtain ⟨s₂, o, q1, q2⟩ := hD
    exact ⟨s₂, o, castTop (ef_rm10 m a1) q1, q2⟩
  refine Dn.st (fun t q => XS.aloadN X0.here hx rfl (hb hby d10_0) rfl rfl  q) ?_
  show Dn p e below s _ _ _ s₁ (mkF m 1 #[.val (.ref a1)] [(.ref a1)])
  obtain ⟨T1, X1, e1, st1⟩ := getF X0 hx hZ hown (host := "") (Or.inl (hw _ (List.mem_of_getElem? (i := 45) rfl))) Via.refl e0 F (g := (mkF m 1 #[.val (.ref a1)] [(.ref a1)])) rfl rfl (hb hby d10_1)
  refine Dn.st st1 ?_
  show Dn p e below s _ _ _ T1 (mkF m 4 #[.val (.ref a1)] [(.int u)])
  exact Dn.retZ X1 hx Bd.notSynchronized (t := .boolean) Bd.returns (by simp) (hb hby d10_4) (by rw [e1]; exact ⟨rfl, N0, rfl⟩) (by decide) (by decide)
theorem d8_0 : decode prog_28_method_8_code 0 = .ok (.aload_n 0, 1) := by decide +kernel
theorem d8_1 : decode prog_28_method_8_code 1 = .ok (.iconst 0, 1) := by decide +kernel
theorem d8_2 : decode prog_28_method_8_code 2 = .ok (.putfield 24, 3) := by decide +kernel
theorem d8_5 : decode prog_28_method_8_code 5 = .ok (.aload_n 0, 1) := by decide +kernel
theorem d8_6 : decode prog_28_method_8_code 6 = .ok (.iconst 0, 1) := by decide +kernel
theorem d8_7 : decode prog_28_method_8_code 7 = .ok (.putfield 17, 3) := by decide +kernel
theorem d8_10 : decode prog_28_method_8_code 10 = .ok (.aload_n 0, 1) := by decide +kernel
theorem d8_11 : decode prog_28_method_8_code 11 = .ok (.iconst 0, 1) := by decide +kernel
theorem d8_12 : decode prog_28_method_8_code 12 = .ok (.putfield 13, 3) := by decide +kernel
theorem d8_15 : decode prog_28_method_8_code 15 = .ok (.return_, 1) := by decide +kernel
theorem ef_rm8 (m : MethodId) (x0 : Addr) : entryFrame m #[(.ref x0)] 1 = mkF m 0 #[.val (.ref x0)] [] := by first | (simp [entryFrame, mkF, argsToLocals, Value.category]; done) | rfl
def Q8 (Z : State) (a1 : Addr) (u0 : Value) (u1 : Value) (u2 : Value) (u3 : Value) (u4 : Value) (h0 : Heap) (n0 : Nat) (v : Option Value) (h : Heap) (L : List Loc) : Prop := v = none ∧ Fr n0 L ∧ Keep h0 h [a1] ∧ Fld Z h a1 "com/example/coppice/coppice/http/RequestHead$Line" "lastRun" "I" u0 ∧ Fld Z h a1 "com/example/coppice/coppice/http/RequestHead$Line" "ended" "Z" (.int (0 : Int32)) ∧ Fld Z h a1 "com/example/coppice/coppice/http/RequestHead$Line" "afterCr" "Z" (.int (0 : Int32)) ∧ Fld Z h a1 "com/example/coppice/coppice/http/RequestHead$Line" "length" "I" (.int (0 : Int32)) ∧ Fld Z h a1 "com/example/coppice/coppice/http/RequestHead$Line" "overflowed" "Z" u4
set_option maxRecDepth 65536 in
set_option maxHeartbeats 40000000 in
theorem rm8 (l : Launch) (Z : State) (a0 : Array Value) (hw : ∀ d ∈ tables_1, d.before a0 Z = true) (ws : List Jvm.Cond) (a1 : Addr) (u0 : Value) (u1 : Value) (u2 : Value) (u3 : Value) (u4 : Value) (h0 : Heap) (n0 : Nat) (Z0 : n0 ≤ h0.size) (E_a1 : Exa Z h0 a1 "com/example/coppice/coppice/http/RequestHead$Line") (F_lastRun : Fld Z h0 a1 "com/example/coppice/coppice/http/RequestHead$Line" "lastRun" "I" u0) (F_ended : Fld Z h0 a1 "com/example/coppice/coppice/http/RequestHead$Line" "ended" "Z" u1) (F_afterCr : Fld Z h0 a1 "com/example/coppice/coppice/http/RequestHead$Line" "afterCr" "Z" u2) (F_length : Fld Z h0 a1 "com/example/coppice/coppice/http/RequestHead$Line" "length" "I" u3) (F_overflowed : Fld Z h0 a1 "com/example/coppice/coppice/http/RequestHead$Line" "overflowed" "Z" u4) (g_a1 : n0 ≤ a1) :
    MetFree l (⟨"com/example/coppice/coppice/http/RequestHead$Line", "clear", "()V"⟩ : MethodName) (head1 (Jvm.Cond.code (⟨"com/example/coppice/coppice/http/RequestHead$Line", "clear", "()V"⟩ : MethodName) prog_28_method_8_code 1 none :: ws) ({ frames := 0, cells := 0, slots := 0, locals := 0 } : Room)) (fun a U => a = #[(.ref a1)] ∧ Z.Warmed39 U.vm ∧ U.heap = h0) (fun _ _ _ _ _ => True) (fun _ U o U' => ∃ v L, o = .returned v ∧ Q8 Z a1 u0 u1 u2 u3 u4 h0 n0 v U'.heap L ∧ FrameEnd U o U' L ({ frames := 0, cells := 0, slots := 0, locals := 0 } : Room).cells ({ frames := 0, cells := 0, slots := 0, locals := 0 } : Room).slots) := by
  refine MetFree.of_bodySF (plainFor_of_name pn_1) hisR ?_
  intro p e s m args below meth c s₁ Bd hml0 hP hK
  obtain ⟨rfl, hZ, hh⟩ := hP
  have hx := Bd.exec
  have hby := Bd.bytes
  have hml : c.maxLocals = 1 := hml0
  have hown : s.vm.findClass "com/example/coppice/coppice/http/RequestHead$Line" = some m.cls := findClass_of_methodNamed Bd.named
  have hnm := (name_of_methodNamed Bd.named Bd.method).1
  have X0 : Stand p l e ({ frames := 0, cells := 0, slots := 0, locals := 0 } : Room) s m #[(.ref a1)] below meth c s₁ [] 0 0 := Stand.of_body Bd
  have e0 : s₁.heap = h0 := by rw [← hh, Bd.state]; rfl
  have N0 := Fr.nil n0
  have K0 := Keep.refl h0 [a1]
  suffices hD : Dn p e below s (Q8 Z a1 u0 u1 u2 u3 u4 h0 n0) ({ frames := 0, cells := 0, slots := 0, locals := 0 } : Room).cells ({ frames := 0, cells := 0, slots := 0, locals := 0 } : Room).slots s₁ (mkF m 0 #[.val (.ref a1)] []) from by
    obtain ⟨s₂, o, q1, q2⟩ := hD
    exact ⟨s₂, o, castTop (ef_rm8 m a1) q1, q2⟩
  refine Dn.st (fun t q => XS.aloadN X0.here hx rfl (hb hby d8_0) rfl rfl  q) ?_
  show Dn p e below s _ _ _ s₁ (mkF m 1 #[.val (.ref a1)] [(.ref a1)])
  refine Dn.st (fun t q => XS.iconst X0.here hx rfl (hb hby d8_1) q) ?_
  show Dn p e below s _ _ _ s₁ (mkF m 2 #[.val (.ref a1)] [(.int (0 : Int32)), (.ref a1)])
  obtain ⟨T1, h1, X1, e1, W1, st1⟩ := putF X0 hx hZ hown (host := "") (Or.inl (hw _ (List.mem_of_getElem? (i := 41) rfl))) Via.refl e0 F_length E_a1 (Or.inl (hw _ (List.mem_of_getElem? (i := 42) rfl))) (hw _ (List.mem_of_getElem? (i := 9) rfl)) (ty := .int) (by decide) rfl rfl (g := (mkF m 2 #[.val (.ref a1)] [(.int (0 : Int32)), (.ref a1)])) rfl rfl (hb hby d8_2)
  have N0 := Fr.snoc X1 N0 g_a1
  have Z0 := Nat.le_trans Z0 (Keep.of_wr W1).1
  have K0 := K0.wr W1 (Or.inl (List.mem_of_getElem? (i := 0) rfl))
  have E_a1 := E_a1.wr W1
  have F_lastRun := F_lastRun.other W1 (Or.inr (slot_ne (Or.inl (hw _ (List.mem_of_getElem? (i := 23) rfl))) (Or.inl (hw _ (List.mem_of_getElem? (i := 42) rfl))) (by decide) (t := .int) (t' := .int) (by decide) (by decide)))
  have F_ended := F_ended.other W1 (Or.inr (slot_ne (Or.inl (hw _ (List.mem_of_getElem? (i := 46) rfl))) (Or.inl (hw _ (List.mem_of_getElem? (i := 42) rfl))) (by decide) (t := .boolean) (t' := .int) (by decide) (by decide)))
  have F_afterCr := F_afterCr.other W1 (Or.inr (slot_ne (Or.inl (hw _ (List.mem_of_getElem? (i := 44) rfl))) (Or.inl (hw _ (List.mem_of_getElem? (i := 42) rfl))) (by decide) (t := .boolean) (t' := .int) (by decide) (by decide)))
  have F_length := F_length.same W1
  have F_overflowed := F_overflowed.other W1 (Or.inr (slot_ne (Or.inl (hw _ (List.mem_of_getElem? (i := 30) rfl))) (Or.inl (hw _ (List.mem_of_getElem? (i := 42) rfl))) (by decide) (t := .boolean) (t' := .int) (by decide) (by decide)))
  refine Dn.st st1 ?_
  show Dn p e below s _ _ _ T1 (mkF m 5 #[.val (.ref a1)] [])
  refine Dn.st (fun t q => XS.aloadN X1.here hx rfl (hb hby d8_5) rfl rfl  q) ?_
  show Dn p e below s _ _ _ T1 (mkF m 6 #[.val (.ref a1)] [(.ref a1)])
  refine Dn.st (fun t q => XS.iconst X1.here hx rfl (hb hby d8_6) q) ?_
  show Dn p e below s _ _ _ T1 (mkF m 7 #[.val (.ref a1)] [(.int (0 : Int32)), (.ref a1)])
  obtain ⟨T2, h2, X2, e2, W2, st2⟩ := putFN X1 hx hZ hown (hw _ (List.mem_of_getElem? (i := 43) rfl)) Via.refl e1 F_afterCr E_a1 (Or.inl (hw _ (List.mem_of_getElem? (i := 44) rfl))) (hw _ (List.mem_of_getElem? (i := 9) rfl)) (ty := .boolean) (v' := (.int (0 : Int32))) (by decide) rfl rfl (g := (mkF m 7 #[.val (.ref a1)] [(.int (0 : Int32)), (.ref a1)])) rfl rfl (hb hby d8_7)
  have N0 := Fr.snoc X2 N0 g_a1
  have Z0 := Nat.le_trans Z0 (Keep.of_wr W2).1
  have K0 := K0.wr W2 (Or.inl (List.mem_of_getElem? (i := 0) rfl))
  have E_a1 := E_a1.wr W2
  have F_lastRun := F_lastRun.other W2 (Or.inr (slot_ne (Or.inl (hw _ (List.mem_of_getElem? (i := 23) rfl))) (Or.inl (hw _ (List.mem_of_getElem? (i := 44) rfl))) (by decide) (t := .int) (t' := .boolean) (by decide) (by decide)))
  have F_ended := F_ended.other W2 (Or.inr (slot_ne (Or.inl (hw _ (List.mem_of_getElem? (i := 46) rfl))) (Or.inl (hw _ (List.mem_of_getElem? (i := 44) rfl))) (by decide) (t := .boolean) (t' := .boolean) (by decide) (by decide)))
  have F_afterCr := F_afterCr.same W2
  have F_length := F_length.other W2 (Or.inr (slot_ne (Or.inl (hw _ (List.mem_of_getElem? (i := 42) rfl))) (Or.inl (hw _ (List.mem_of_getElem? (i := 44) rfl))) (by decide) (t := .int) (t' := .boolean) (by decide) (by decide)))
  have F_overflowed := F_overflowed.other W2 (Or.inr (slot_ne (Or.inl (hw _ (List.mem_of_getElem? (i := 30) rfl))) (Or.inl (hw _ (List.mem_of_getElem? (i := 44) rfl))) (by decide) (t := .boolean) (t' := .boolean) (by decide) (by decide)))
  refine Dn.st st2 ?_
  show Dn p e below s _ _ _ T2 (mkF m 10 #[.val (.ref a1)] [])
  refine Dn.st (fun t q => XS.aloadN X2.here hx rfl (hb hby d8_10) rfl rfl  q) ?_
  show Dn p e below s _ _ _ T2 (mkF m 11 #[.val (.ref a1)] [(.ref a1)])
  refine Dn.st (fun t q => XS.iconst X2.here hx rfl (hb hby d8_11) q) ?_
  show Dn p e below s _ _ _ T2 (mkF m 12 #[.val (.ref a1)] [(.int (0 : Int32)), (.ref a1)])
  obtain ⟨T3, h3, X3, e3, W3, st3⟩ := putFN X2 hx hZ hown (hw _ (List.mem_of_getElem? (i := 45) rfl)) Via.refl e2 F_ended E_a1 (Or.inl (hw _ (List.mem_of_getElem? (i := 46) rfl))) (hw _ (List.mem_of_getElem? (i := 9) rfl)) (ty := .boolean) (v' := (.int (0 : Int32))) (by decide) rfl rfl (g := (mkF m 12 #[.val (.ref a1)] [(.int (0 : Int32)), (.ref a1)])) rfl rfl (hb hby d8_12)
  have N0 := Fr.snoc X3 N0 g_a1
  have Z0 := Nat.le_trans Z0 (Keep.of_wr W3).1
  have K0 := K0.wr W3 (Or.inl (List.mem_of_getElem? (i := 0) rfl))
  have E_a1 := E_a1.wr W3
  have F_lastRun := F_lastRun.other W3 (Or.inr (slot_ne (Or.inl (hw _ (List.mem_of_getElem? (i := 23) rfl))) (Or.inl (hw _ (List.mem_of_getElem? (i := 46) rfl))) (by decide) (t := .int) (t' := .boolean) (by decide) (by decide)))
  have F_ended := F_ended.same W3
  have F_afterCr := F_afterCr.other W3 (Or.inr (slot_ne (Or.inl (hw _ (List.mem_of_getElem? (i := 44) rfl))) (Or.inl (hw _ (List.mem_of_getElem? (i := 46) rfl))) (by decide) (t := .boolean) (t' := .boolean) (by decide) (by decide)))
  have F_length := F_length.other W3 (Or.inr (slot_ne (Or.inl (hw _ (List.mem_of_getElem? (i := 42) rfl))) (Or.inl (hw _ (List.mem_of_getElem? (i := 46) rfl))) (by decide) (t := .int) (t' := .boolean) (by decide) (by decide)))
  have F_overflowed := F_overflowed.other W3 (Or.inr (slot_ne (Or.inl (hw _ (List.mem_of_getElem? (i := 30) rfl))) (Or.inl (hw _ (List.mem_of_getElem? (i := 46) rfl))) (by decide) (t := .boolean) (t' := .boolean) (by decide) (by decide)))
  refine Dn.st st3 ?_
  show Dn p e below s _ _ _ T3 (mkF m 15 #[.val (.ref a1)] [])
  exact Dn.retV X3 hx Bd.notSynchronized Bd.returns (hb hby d8_15) (by rw [e3]; exact ⟨rfl, N0, K0, F_lastRun, F_ended, F_afterCr, F_length, F_overflowed⟩) (by decide) (by decide)
theorem pd_1 : parseMethodDescriptor "(I)B" = some ⟨[.int], some .byte⟩ := by decide +kernel
theorem pd_2 : parseMethodDescriptor "(BI)[B" = some ⟨[.byte, .int], some (.array .byte)⟩ := by decide +kernel
theorem pd_3 : parseMethodDescriptor "()V" = some ⟨[], none⟩ := by decide +kernel
theorem pd_4 : parseMethodDescriptor "([BIII)I" = some ⟨[(.array .byte), .int, .int, .int], some .int⟩ := by decide +kernel
theorem pd_5 : parseMethodDescriptor "()Z" = some ⟨[], some .boolean⟩ := by decide +kernel
theorem pd_6 : parseMethodDescriptor "()I" = some ⟨[], some .int⟩ := by decide +kernel
theorem ef_rm0 (m : MethodId) (x0 : Int32) (x1 : Int32) (x2 : Int32) (x3 : Int32) : entryFrame m #[(.int x0), (.int x1), (.int x2), (.int x3)] maxLocals = mkF m 0 #[.val (.int x0), .val (.int x1), .val (.int x2), .val (.int x3), .unset, .unset, .unset, .unset, .unset, .unset, .unset, .unset, .unset, .unset, .unset, .unset, .unset] [] := by first | (simp [entryFrame, mkF, argsToLocals, Value.category, maxLocals]; done) | rfl
def Q0 (Z : State) (x0 : Int32) (x1 : Int32) (x2 : Int32) (x3 : Int32) (h0 : Heap) (n0 : Nat) (v : Option Value) (h : Heap) (L : List Loc) : Prop := v = some (.int 1) ∧ Fr n0 L
set_option maxRecDepth 65536 in
set_option maxHeartbeats 40000000 in
theorem rm0 (l : Launch) (Z : State) (a0 : Array Value) (hw : ∀ d ∈ tables_1, d.before a0 Z = true) (ws : List Jvm.Cond) (x0 : Int32) (x1 : Int32) (x2 : Int32) (x3 : Int32) (h0 : Heap) (n0 : Nat) (Z0 : n0 ≤ h0.size) :
    MetFree l x (head1 (Jvm.Cond.code x code maxLocals ret :: ws) room_1) (fun a U => a = #[(.int x0), (.int x1), (.int x2), (.int x3)] ∧ Z.Warmed39 U.vm ∧ U.heap = h0) (fun _ _ _ _ _ => True) (fun _ U o U' => ∃ v L, o = .returned v ∧ Q0 Z x0 x1 x2 x3 h0 n0 v U'.heap L ∧ FrameEnd U o U' L 4 16) := by
  refine MetFree.of_bodySF (plainFor_of_name pn_0) hisR ?_
  intro p e s m args below meth c s₁ Bd hml0 hP hK
  obtain ⟨rfl, hZ, hh⟩ := hP
  have hx := Bd.exec
  have hby := Bd.bytes
  have hml : c.maxLocals = 17 := hml0
  have hown : s.vm.findClass "com/example/coppice/coppice/http/LineClearPinLaw" = some m.cls := findClass_of_methodNamed Bd.named
  have hnm := (name_of_methodNamed Bd.named Bd.method).1
  have X0 : Stand p l e room_1 s m #[(.int x0), (.int x1), (.int x2), (.int x3)] below meth c s₁ [] 0 0 := Stand.of_body Bd
  have e0 : s₁.heap = h0 := by rw [← hh, Bd.state]; rfl
  have N0 := Fr.nil n0
  have K0 := Keep.refl h0 []
  suffices hD : Dn p e below s (Q0 Z x0 x1 x2 x3 h0 n0) 4 16 s₁ (mkF m 0 #[.val (.int x0), .val (.int x1), .val (.int x2), .val (.int x3), .unset, .unset, .unset, .unset, .unset, .unset, .unset, .unset, .unset, .unset, .unset, .unset, .unset] []) from by
    obtain ⟨s₂, o, q1, q2⟩ := hD
    exact ⟨s₂, o, castTop (ef_rm0 m x0 x1 x2 x3) q1, q2⟩
  refine Dn.st (fun t q => XS.iloadN X0.here hx rfl (hb hby at_0) rfl  q) ?_
  show Dn p e below s _ _ _ s₁ (mkF m 1 #[.val (.int x0), .val (.int x1), .val (.int x2), .val (.int x3), .unset, .unset, .unset, .unset, .unset, .unset, .unset, .unset, .unset, .unset, .unset, .unset, .unset] [(.int x0)])
  obtain ⟨_, _, ⟨T1, Lq1, kq_1, nq_1⟩, -, X1, ⟨Lc1, hQ1, lq1, yq1, zq1⟩, st1⟩ := Jvm.LawKit.callS X0 hx (y := (⟨"com/example/coppice/coppice/http/LineClearPinLaw", "content", "(I)B"⟩ : MethodName)) hown (mvT hZ (hw _ (List.mem_of_getElem? (i := 0) rfl))) (mvT hZ (hw _ (List.mem_of_getElem? (i := 1) rfl))) (mvT hZ (hw _ (List.mem_of_getElem? (i := 2) rfl))) (mvT hZ (hw _ (List.mem_of_getElem? (i := 3) rfl))) (by decide) (backOf (W := 0) (rm1 l Z a0 hw [] x0  h0 n0 Z0 ) hZ (hw _ (List.mem_of_getElem? (i := 3) rfl)) (hw _ (List.mem_of_getElem? (i := 2) rfl)) (by decide) (by decide)) (g := (mkF m 1 #[.val (.int x0), .val (.int x1), .val (.int x2), .val (.int x3), .unset, .unset, .unset, .unset, .unset, .unset, .unset, .unset, .unset, .unset, .unset, .unset, .unset] [(.int x0)])) rfl (by rw [hml]; rfl) (argsL := [(.int x0)]) (rest := []) (lenOf pd_1 rfl) rfl (by show 2 * 0 + _ ≤ _; exact Nat.le_of_eq rfl) (hb hby at_1) (fun _ _ => ⟨rfl, e0, (by decide : 0 + 0 ≤ _), (by decide : 0 + 0 ≤ _)⟩)
  dsimp only [Pt.U, Pt.locs, Pt.cells, Pt.slots] at X1 lq1 yq1 zq1 st1 hQ1
  subst yq1 zq1
  obtain ⟨rfl, N1q, hq1⟩ := hQ1
  have N0 : Fr n0 Lq1 := by rw [lq1]; exact Fr.app N0 N1q
  have e1 : T1.heap = h0 := hq1
  refine Dn.st st1 ?_
  show Dn p e below s _ _ _ T1 (mkF m 4 #[.val (.int x0), .val (.int x1), .val (.int x2), .val (.int x3), .unset, .unset, .unset, .unset, .unset, .unset, .unset, .unset, .unset, .unset, .unset, .unset, .unset] [(.int (own_ct x0))])
  refine Dn.st (fun t q => XS.iloadN X1.here hx rfl (hb hby at_4) rfl  q) ?_
  show Dn p e below s _ _ _ T1 (mkF m 5 #[.val (.int x0), .val (.int x1), .val (.int x2), .val (.int x3), .unset, .unset, .unset, .unset, .unset, .unset, .unset, .unset, .unset, .unset, .unset, .unset, .unset] [(.int x1), (.int (own_ct x0))])
  refine Dn.st (fun t q => XS.iconst X1.here hx rfl (hb hby at_5) q) ?_
  show Dn p e below s _ _ _ T1 (mkF m 6 #[.val (.int x0), .val (.int x1), .val (.int x2), .val (.int x3), .unset, .unset, .unset, .unset, .unset, .unset, .unset, .unset, .unset, .unset, .unset, .unset, .unset] [(.int (3 : Int32)), (.int x1), (.int (own_ct x0))])
  refine Dn.st (fun t q => XS.iand X1.here hx rfl (hb hby at_6) rfl q) ?_
  show Dn p e below s _ _ _ T1 (mkF m 7 #[.val (.int x0), .val (.int x1), .val (.int x2), .val (.int x3), .unset, .unset, .unset, .unset, .unset, .unset, .unset, .unset, .unset, .unset, .unset, .unset, .unset] [(.int (x1 &&& (3 : Int32))), (.int (own_ct x0))])
  have Zq2 := Z0
  have Kq2 := K0
  obtain ⟨_, _, ⟨T2, Lq2, kq_2, nq_2⟩, -, X2, ⟨Lc2, hQ2, lq2, yq2, zq2⟩, st2⟩ := Jvm.LawKit.callS X1 hx (y := (⟨"com/example/coppice/coppice/http/LineClearPinLaw", "bytes", "(BI)[B"⟩ : MethodName)) hown (mvT hZ (hw _ (List.mem_of_getElem? (i := 4) rfl))) (mvT hZ (hw _ (List.mem_of_getElem? (i := 5) rfl))) (mvT hZ (hw _ (List.mem_of_getElem? (i := 2) rfl))) (mvT hZ (hw _ (List.mem_of_getElem? (i := 6) rfl))) (by decide) (backOf (W := 0) (rm2 l Z a0 hw [] (own_ct x0) (x1 &&& (3 : Int32))  h0 n0 Z0 (own_ct13 _)) hZ (hw _ (List.mem_of_getElem? (i := 6) rfl)) (hw _ (List.mem_of_getElem? (i := 2) rfl)) (by decide) (by decide)) (g := (mkF m 7 #[.val (.int x0), .val (.int x1), .val (.int x2), .val (.int x3), .unset, .unset, .unset, .unset, .unset, .unset, .unset, .unset, .unset, .unset, .unset, .unset, .unset] [(.int (x1 &&& (3 : Int32))), (.int (own_ct x0))])) rfl (by rw [hml]; rfl) (argsL := [(.int (own_ct x0)), (.int (x1 &&& (3 : Int32)))]) (rest := []) (lenOf pd_2 rfl) rfl (by show 2 * 0 + _ ≤ _; exact Nat.le_of_eq rfl) (hb hby at_7) (fun _ _ => ⟨rfl, e1, (by decide : 0 + 1 ≤ _), (by decide : 0 + 3 ≤ _)⟩)
  dsimp only [Pt.U, Pt.locs, Pt.cells, Pt.slots] at X2 lq2 yq2 zq2 st2 hQ2
  subst yq2 zq2
  obtain ⟨b1, u1, rfl, N2q, K2, le2, A_b1, nt1⟩ := hQ2
  have N0 : Fr n0 Lq2 := by rw [lq2]; exact Fr.app N0 N2q
  have Z0 := Nat.le_trans Z0 K2.1
  have K0 := K0.trans K2 all0
  have g_b1 : n0 ≤ b1 := Nat.le_trans Zq2 le2
  have sz_b1 : h0.size ≤ b1 := Nat.le_trans Kq2.1 le2
  refine Dn.st st2 ?_
  show Dn p e below s _ _ _ T2 (mkF m 10 #[.val (.int x0), .val (.int x1), .val (.int x2), .val (.int x3), .unset, .unset, .unset, .unset, .unset, .unset, .unset, .unset, .unset, .unset, .unset, .unset, .unset] [(.ref b1)])
  refine Dn.st (fun t q => XS.astore X2.here hx rfl (hb hby at_10) rfl rfl (l' := #[.val (.int x0), .val (.int x1), .val (.int x2), .val (.int x3), .val (.ref b1), .unset, .unset, .unset, .unset, .unset, .unset, .unset, .unset, .unset, .unset, .unset, .unset]) rfl q) ?_
  show Dn p e below s _ _ _ T2 (mkF m 12 #[.val (.int x0), .val (.int x1), .val (.int x2), .val (.int x3), .val (.ref b1), .unset, .unset, .unset, .unset, .unset, .unset, .unset, .unset, .unset, .unset, .unset, .unset] [])
  refine Dn.st (fun t q => XS.iloadN X2.here hx rfl (hb hby at_12) rfl  q) ?_
  show Dn p e below s _ _ _ T2 (mkF m 13 #[.val (.int x0), .val (.int x1), .val (.int x2), .val (.int x3), .val (.ref b1), .unset, .unset, .unset, .unset, .unset, .unset, .unset, .unset, .unset, .unset, .unset, .unset] [(.int x1)])
  refine Dn.st (fun t q => XS.iconst X2.here hx rfl (hb hby at_13) q) ?_
  show Dn p e below s _ _ _ T2 (mkF m 14 #[.val (.int x0), .val (.int x1), .val (.int x2), .val (.int x3), .val (.ref b1), .unset, .unset, .unset, .unset, .unset, .unset, .unset, .unset, .unset, .unset, .unset, .unset] [(.int (2 : Int32)), (.int x1)])
  refine Dn.st (fun t q => XS.iushr X2.here hx rfl (hb hby at_14) rfl q) ?_
  show Dn p e below s _ _ _ T2 (mkF m 15 #[.val (.int x0), .val (.int x1), .val (.int x2), .val (.int x3), .val (.ref b1), .unset, .unset, .unset, .unset, .unset, .unset, .unset, .unset, .unset, .unset, .unset, .unset] [(.int ((x1.toUInt32 >>> ((2 : Int32) &&& 31).toUInt32).toInt32))])
  refine Dn.st (fun t q => XS.iconst X2.here hx rfl (hb hby at_15) q) ?_
  show Dn p e below s _ _ _ T2 (mkF m 16 #[.val (.int x0), .val (.int x1), .val (.int x2), .val (.int x3), .val (.ref b1), .unset, .unset, .unset, .unset, .unset, .unset, .unset, .unset, .unset, .unset, .unset, .unset] [(.int (3 : Int32)), (.int ((x1.toUInt32 >>> ((2 : Int32) &&& 31).toUInt32).toInt32))])
  refine Dn.st (fun t q => XS.iand X2.here hx rfl (hb hby at_16) rfl q) ?_
  show Dn p e below s _ _ _ T2 (mkF m 17 #[.val (.int x0), .val (.int x1), .val (.int x2), .val (.int x3), .val (.ref b1), .unset, .unset, .unset, .unset, .unset, .unset, .unset, .unset, .unset, .unset, .unset, .unset] [(.int (((x1.toUInt32 >>> ((2 : Int32) &&& 31).toUInt32).toInt32) &&& (3 : Int32)))])
  generalize ht1 : (((x1.toUInt32 >>> ((2 : Int32) &&& 31).toUInt32).toInt32) &&& (3 : Int32)) = t1
  show Dn p e below s _ _ _ T2 (mkF m 17 #[.val (.int x0), .val (.int x1), .val (.int x2), .val (.int x3), .val (.ref b1), .unset, .unset, .unset, .unset, .unset, .unset, .unset, .unset, .unset, .unset, .unset, .unset] [(.int t1)])
  obtain ⟨n1, hn1, hn13⟩ := own_and3 _ ht1
  refine Dn.st (fun t q => XS.istore X2.here hx rfl (hb hby at_17) rfl (l' := #[.val (.int x0), .val (.int x1), .val (.int x2), .val (.int x3), .val (.ref b1), .val (.int t1), .unset, .unset, .unset, .unset, .unset, .unset, .unset, .unset, .unset, .unset, .unset]) rfl q) ?_
  show Dn p e below s _ _ _ T2 (mkF m 19 #[.val (.int x0), .val (.int x1), .val (.int x2), .val (.int x3), .val (.ref b1), .val (.int t1), .unset, .unset, .unset, .unset, .unset, .unset, .unset, .unset, .unset, .unset, .unset] [])
  refine Dn.st (fun t q => XS.iloadN X2.here hx rfl (hb hby at_19) rfl  q) ?_
  show Dn p e below s _ _ _ T2 (mkF m 20 #[.val (.int x0), .val (.int x1), .val (.int x2), .val (.int x3), .val (.ref b1), .val (.int t1), .unset, .unset, .unset, .unset, .unset, .unset, .unset, .unset, .unset, .unset, .unset] [(.int x1)])
  refine Dn.st (fun t q => XS.iconst X2.here hx rfl (hb hby at_20) q) ?_
  show Dn p e below s _ _ _ T2 (mkF m 21 #[.val (.int x0), .val (.int x1), .val (.int x2), .val (.int x3), .val (.ref b1), .val (.int t1), .unset, .unset, .unset, .unset, .unset, .unset, .unset, .unset, .unset, .unset, .unset] [(.int (4 : Int32)), (.int x1)])
  refine Dn.st (fun t q => XS.iushr X2.here hx rfl (hb hby at_21) rfl q) ?_
  show Dn p e below s _ _ _ T2 (mkF m 22 #[.val (.int x0), .val (.int x1), .val (.int x2), .val (.int x3), .val (.ref b1), .val (.int t1), .unset, .unset, .unset, .unset, .unset, .unset, .unset, .unset, .unset, .unset, .unset] [(.int ((x1.toUInt32 >>> ((4 : Int32) &&& 31).toUInt32).toInt32))])
  refine Dn.st (fun t q => XS.bipush X2.here hx rfl (hb hby at_22) q) ?_
  show Dn p e below s _ _ _ T2 (mkF m 24 #[.val (.int x0), .val (.int x1), .val (.int x2), .val (.int x3), .val (.ref b1), .val (.int t1), .unset, .unset, .unset, .unset, .unset, .unset, .unset, .unset, .unset, .unset, .unset] [(.int (7 : Int32)), (.int ((x1.toUInt32 >>> ((4 : Int32) &&& 31).toUInt32).toInt32))])
  refine Dn.st (fun t q => XS.iand X2.here hx rfl (hb hby at_24) rfl q) ?_
  show Dn p e below s _ _ _ T2 (mkF m 25 #[.val (.int x0), .val (.int x1), .val (.int x2), .val (.int x3), .val (.ref b1), .val (.int t1), .unset, .unset, .unset, .unset, .unset, .unset, .unset, .unset, .unset, .unset, .unset] [(.int (((x1.toUInt32 >>> ((4 : Int32) &&& 31).toUInt32).toInt32) &&& (7 : Int32)))])
  generalize hm1 : (((x1.toUInt32 >>> ((4 : Int32) &&& 31).toUInt32).toInt32) &&& (7 : Int32)) = m1
  show Dn p e below s _ _ _ T2 (mkF m 25 #[.val (.int x0), .val (.int x1), .val (.int x2), .val (.int x3), .val (.ref b1), .val (.int t1), .unset, .unset, .unset, .unset, .unset, .unset, .unset, .unset, .unset, .unset, .unset] [(.int m1)])
  refine Dn.st (fun t q => XS.istore X2.here hx rfl (hb hby at_25) rfl (l' := #[.val (.int x0), .val (.int x1), .val (.int x2), .val (.int x3), .val (.ref b1), .val (.int t1), .val (.int m1), .unset, .unset, .unset, .unset, .unset, .unset, .unset, .unset, .unset, .unset]) rfl q) ?_
  show Dn p e below s _ _ _ T2 (mkF m 27 #[.val (.int x0), .val (.int x1), .val (.int x2), .val (.int x3), .val (.ref b1), .val (.int t1), .val (.int m1), .unset, .unset, .unset, .unset, .unset, .unset, .unset, .unset, .unset, .unset] [])
  refine Dn.st (fun t q => XS.iloadN X2.here hx rfl (hb hby at_27) rfl  q) ?_
  show Dn p e below s _ _ _ T2 (mkF m 28 #[.val (.int x0), .val (.int x1), .val (.int x2), .val (.int x3), .val (.ref b1), .val (.int t1), .val (.int m1), .unset, .unset, .unset, .unset, .unset, .unset, .unset, .unset, .unset, .unset] [(.int x2)])
  obtain ⟨_, _, ⟨T3, Lq3, kq_3, nq_3⟩, -, X3, ⟨Lc3, hQ3, lq3, yq3, zq3⟩, st3⟩ := Jvm.LawKit.callS X2 hx (y := (⟨"com/example/coppice/coppice/http/LineClearPinLaw", "content", "(I)B"⟩ : MethodName)) hown (mvT hZ (hw _ (List.mem_of_getElem? (i := 0) rfl))) (mvT hZ (hw _ (List.mem_of_getElem? (i := 1) rfl))) (mvT hZ (hw _ (List.mem_of_getElem? (i := 2) rfl))) (mvT hZ (hw _ (List.mem_of_getElem? (i := 3) rfl))) (by decide) (backOf (W := 0) (rm1 l Z a0 hw [] x2  T2.heap n0 Z0 ) hZ (hw _ (List.mem_of_getElem? (i := 3) rfl)) (hw _ (List.mem_of_getElem? (i := 2) rfl)) (by decide) (by decide)) (g := (mkF m 28 #[.val (.int x0), .val (.int x1), .val (.int x2), .val (.int x3), .val (.ref b1), .val (.int t1), .val (.int m1), .unset, .unset, .unset, .unset, .unset, .unset, .unset, .unset, .unset, .unset] [(.int x2)])) rfl (by rw [hml]; rfl) (argsL := [(.int x2)]) (rest := []) (lenOf pd_1 rfl) rfl (by show 2 * 0 + _ ≤ _; exact Nat.le_of_eq rfl) (hb hby at_28) (fun _ _ => ⟨rfl, rfl, (by decide : 1 + 0 ≤ _), (by decide : 3 + 0 ≤ _)⟩)
  dsimp only [Pt.U, Pt.locs, Pt.cells, Pt.slots] at X3 lq3 yq3 zq3 st3 hQ3
  subst yq3 zq3
  obtain ⟨rfl, N3q, hq3⟩ := hQ3
  have N0 : Fr n0 Lq3 := by rw [lq3]; exact Fr.app N0 N3q
  have e3 : T3.heap = T2.heap := hq3
  refine Dn.st st3 ?_
  show Dn p e below s _ _ _ T3 (mkF m 31 #[.val (.int x0), .val (.int x1), .val (.int x2), .val (.int x3), .val (.ref b1), .val (.int t1), .val (.int m1), .unset, .unset, .unset, .unset, .unset, .unset, .unset, .unset, .unset, .unset] [(.int (own_ct x2))])
  refine Dn.st (fun t q => XS.iloadN X3.here hx rfl (hb hby at_31) rfl  q) ?_
  show Dn p e below s _ _ _ T3 (mkF m 32 #[.val (.int x0), .val (.int x1), .val (.int x2), .val (.int x3), .val (.ref b1), .val (.int t1), .val (.int m1), .unset, .unset, .unset, .unset, .unset, .unset, .unset, .unset, .unset, .unset] [(.int x3), (.int (own_ct x2))])
  refine Dn.st (fun t q => XS.iconst X3.here hx rfl (hb hby at_32) q) ?_
  show Dn p e below s _ _ _ T3 (mkF m 33 #[.val (.int x0), .val (.int x1), .val (.int x2), .val (.int x3), .val (.ref b1), .val (.int t1), .val (.int m1), .unset, .unset, .unset, .unset, .unset, .unset, .unset, .unset, .unset, .unset] [(.int (3 : Int32)), (.int x3), (.int (own_ct x2))])
  refine Dn.st (fun t q => XS.iand X3.here hx rfl (hb hby at_33) rfl q) ?_
  show Dn p e below s _ _ _ T3 (mkF m 34 #[.val (.int x0), .val (.int x1), .val (.int x2), .val (.int x3), .val (.ref b1), .val (.int t1), .val (.int m1), .unset, .unset, .unset, .unset, .unset, .unset, .unset, .unset, .unset, .unset] [(.int (x3 &&& (3 : Int32))), (.int (own_ct x2))])
  have Zq4 := Z0
  have Kq4 := K0
  have lt_b1_4 : b1 < T2.heap.size := A_b1.lt
  obtain ⟨_, _, ⟨T4, Lq4, kq_4, nq_4⟩, -, X4, ⟨Lc4, hQ4, lq4, yq4, zq4⟩, st4⟩ := Jvm.LawKit.callS X3 hx (y := (⟨"com/example/coppice/coppice/http/LineClearPinLaw", "bytes", "(BI)[B"⟩ : MethodName)) hown (mvT hZ (hw _ (List.mem_of_getElem? (i := 4) rfl))) (mvT hZ (hw _ (List.mem_of_getElem? (i := 5) rfl))) (mvT hZ (hw _ (List.mem_of_getElem? (i := 2) rfl))) (mvT hZ (hw _ (List.mem_of_getElem? (i := 6) rfl))) (by decide) (backOf (W := 0) (rm2 l Z a0 hw [] (own_ct x2) (x3 &&& (3 : Int32))  T2.heap n0 Z0 (own_ct13 _)) hZ (hw _ (List.mem_of_getElem? (i := 6) rfl)) (hw _ (List.mem_of_getElem? (i := 2) rfl)) (by decide) (by decide)) (g := (mkF m 34 #[.val (.int x0), .val (.int x1), .val (.int x2), .val (.int x3), .val (.ref b1), .val (.int t1), .val (.int m1), .unset, .unset, .unset, .unset, .unset, .unset, .unset, .unset, .unset, .unset] [(.int (x3 &&& (3 : Int32))), (.int (own_ct x2))])) rfl (by rw [hml]; rfl) (argsL := [(.int (own_ct x2)), (.int (x3 &&& (3 : Int32)))]) (rest := []) (lenOf pd_2 rfl) rfl (by show 2 * 0 + _ ≤ _; exact Nat.le_of_eq rfl) (hb hby at_34) (fun _ _ => ⟨rfl, e3, (by decide : 1 + 1 ≤ _), (by decide : 3 + 3 ≤ _)⟩)
  dsimp only [Pt.U, Pt.locs, Pt.cells, Pt.slots] at X4 lq4 yq4 zq4 st4 hQ4
  subst yq4 zq4
  obtain ⟨b2, u2, rfl, N4q, K4, le4, A_b2, nt2⟩ := hQ4
  have N0 : Fr n0 Lq4 := by rw [lq4]; exact Fr.app N0 N4q
  have Z0 := Nat.le_trans Z0 K4.1
  have K0 := K0.trans K4 all0
  have A_b1 := A_b1.keep K4 nin0
  have ne_b1_b2 : b1 ≠ b2 := own_ne' lt_b1_4 le4
  have g_b2 : n0 ≤ b2 := Nat.le_trans Zq4 le4
  have sz_b2 : h0.size ≤ b2 := Nat.le_trans Kq4.1 le4
  refine Dn.st st4 ?_
  show Dn p e below s _ _ _ T4 (mkF m 37 #[.val (.int x0), .val (.int x1), .val (.int x2), .val (.int x3), .val (.ref b1), .val (.int t1), .val (.int m1), .unset, .unset, .unset, .unset, .unset, .unset, .unset, .unset, .unset, .unset] [(.ref b2)])
  refine Dn.st (fun t q => XS.astore X4.here hx rfl (hb hby at_37) rfl rfl (l' := #[.val (.int x0), .val (.int x1), .val (.int x2), .val (.int x3), .val (.ref b1), .val (.int t1), .val (.int m1), .val (.ref b2), .unset, .unset, .unset, .unset, .unset, .unset, .unset, .unset, .unset]) rfl q) ?_
  show Dn p e below s _ _ _ T4 (mkF m 39 #[.val (.int x0), .val (.int x1), .val (.int x2), .val (.int x3), .val (.ref b1), .val (.int t1), .val (.int m1), .val (.ref b2), .unset, .unset, .unset, .unset, .unset, .unset, .unset, .unset, .unset] [])
  refine Dn.st (fun t q => XS.iloadN X4.here hx rfl (hb hby at_39) rfl  q) ?_
  show Dn p e below s _ _ _ T4 (mkF m 40 #[.val (.int x0), .val (.int x1), .val (.int x2), .val (.int x3), .val (.ref b1), .val (.int t1), .val (.int m1), .val (.ref b2), .unset, .unset, .unset, .unset, .unset, .unset, .unset, .unset, .unset] [(.int x3)])
  refine Dn.st (fun t q => XS.iconst X4.here hx rfl (hb hby at_40) q) ?_
  show Dn p e below s _ _ _ T4 (mkF m 41 #[.val (.int x0), .val (.int x1), .val (.int x2), .val (.int x3), .val (.ref b1), .val (.int t1), .val (.int m1), .val (.ref b2), .unset, .unset, .unset, .unset, .unset, .unset, .unset, .unset, .unset] [(.int (2 : Int32)), (.int x3)])
  refine Dn.st (fun t q => XS.iushr X4.here hx rfl (hb hby at_41) rfl q) ?_
  show Dn p e below s _ _ _ T4 (mkF m 42 #[.val (.int x0), .val (.int x1), .val (.int x2), .val (.int x3), .val (.ref b1), .val (.int t1), .val (.int m1), .val (.ref b2), .unset, .unset, .unset, .unset, .unset, .unset, .unset, .unset, .unset] [(.int ((x3.toUInt32 >>> ((2 : Int32) &&& 31).toUInt32).toInt32))])
  refine Dn.st (fun t q => XS.iconst X4.here hx rfl (hb hby at_42) q) ?_
  show Dn p e below s _ _ _ T4 (mkF m 43 #[.val (.int x0), .val (.int x1), .val (.int x2), .val (.int x3), .val (.ref b1), .val (.int t1), .val (.int m1), .val (.ref b2), .unset, .unset, .unset, .unset, .unset, .unset, .unset, .unset, .unset] [(.int (3 : Int32)), (.int ((x3.toUInt32 >>> ((2 : Int32) &&& 31).toUInt32).toInt32))])
  refine Dn.st (fun t q => XS.iand X4.here hx rfl (hb hby at_43) rfl q) ?_
  show Dn p e below s _ _ _ T4 (mkF m 44 #[.val (.int x0), .val (.int x1), .val (.int x2), .val (.int x3), .val (.ref b1), .val (.int t1), .val (.int m1), .val (.ref b2), .unset, .unset, .unset, .unset, .unset, .unset, .unset, .unset, .unset] [(.int (((x3.toUInt32 >>> ((2 : Int32) &&& 31).toUInt32).toInt32) &&& (3 : Int32)))])
  generalize ht2 : (((x3.toUInt32 >>> ((2 : Int32) &&& 31).toUInt32).toInt32) &&& (3 : Int32)) = t2
  show Dn p e below s _ _ _ T4 (mkF m 44 #[.val (.int x0), .val (.int x1), .val (.int x2), .val (.int x3), .val (.ref b1), .val (.int t1), .val (.int m1), .val (.ref b2), .unset, .unset, .unset, .unset, .unset, .unset, .unset, .unset, .unset] [(.int t2)])
  obtain ⟨n2, hn2, hn23⟩ := own_and3 _ ht2
  refine Dn.st (fun t q => XS.istore X4.here hx rfl (hb hby at_44) rfl (l' := #[.val (.int x0), .val (.int x1), .val (.int x2), .val (.int x3), .val (.ref b1), .val (.int t1), .val (.int m1), .val (.ref b2), .val (.int t2), .unset, .unset, .unset, .unset, .unset, .unset, .unset, .unset]) rfl q) ?_
  show Dn p e below s _ _ _ T4 (mkF m 46 #[.val (.int x0), .val (.int x1), .val (.int x2), .val (.int x3), .val (.ref b1), .val (.int t1), .val (.int m1), .val (.ref b2), .val (.int t2), .unset, .unset, .unset, .unset, .unset, .unset, .unset, .unset] [])
  refine Dn.st (fun t q => XS.iloadN X4.here hx rfl (hb hby at_46) rfl  q) ?_
  show Dn p e below s _ _ _ T4 (mkF m 47 #[.val (.int x0), .val (.int x1), .val (.int x2), .val (.int x3), .val (.ref b1), .val (.int t1), .val (.int m1), .val (.ref b2), .val (.int t2), .unset, .unset, .unset, .unset, .unset, .unset, .unset, .unset] [(.int x3)])
  refine Dn.st (fun t q => XS.iconst X4.here hx rfl (hb hby at_47) q) ?_
  show Dn p e below s _ _ _ T4 (mkF m 48 #[.val (.int x0), .val (.int x1), .val (.int x2), .val (.int x3), .val (.ref b1), .val (.int t1), .val (.int m1), .val (.ref b2), .val (.int t2), .unset, .unset, .unset, .unset, .unset, .unset, .unset, .unset] [(.int (4 : Int32)), (.int x3)])
  refine Dn.st (fun t q => XS.iushr X4.here hx rfl (hb hby at_48) rfl q) ?_
  show Dn p e below s _ _ _ T4 (mkF m 49 #[.val (.int x0), .val (.int x1), .val (.int x2), .val (.int x3), .val (.ref b1), .val (.int t1), .val (.int m1), .val (.ref b2), .val (.int t2), .unset, .unset, .unset, .unset, .unset, .unset, .unset, .unset] [(.int ((x3.toUInt32 >>> ((4 : Int32) &&& 31).toUInt32).toInt32))])
  refine Dn.st (fun t q => XS.bipush X4.here hx rfl (hb hby at_49) q) ?_
  show Dn p e below s _ _ _ T4 (mkF m 51 #[.val (.int x0), .val (.int x1), .val (.int x2), .val (.int x3), .val (.ref b1), .val (.int t1), .val (.int m1), .val (.ref b2), .val (.int t2), .unset, .unset, .unset, .unset, .unset, .unset, .unset, .unset] [(.int (7 : Int32)), (.int ((x3.toUInt32 >>> ((4 : Int32) &&& 31).toUInt32).toInt32))])
  refine Dn.st (fun t q => XS.iand X4.here hx rfl (hb hby at_51) rfl q) ?_
  show Dn p e below s _ _ _ T4 (mkF m 52 #[.val (.int x0), .val (.int x1), .val (.int x2), .val (.int x3), .val (.ref b1), .val (.int t1), .val (.int m1), .val (.ref b2), .val (.int t2), .unset, .unset, .unset, .unset, .unset, .unset, .unset, .unset] [(.int (((x3.toUInt32 >>> ((4 : Int32) &&& 31).toUInt32).toInt32) &&& (7 : Int32)))])
  generalize hm2 : (((x3.toUInt32 >>> ((4 : Int32) &&& 31).toUInt32).toInt32) &&& (7 : Int32)) = m2
  show Dn p e below s _ _ _ T4 (mkF m 52 #[.val (.int x0), .val (.int x1), .val (.int x2), .val (.int x3), .val (.ref b1), .val (.int t1), .val (.int m1), .val (.ref b2), .val (.int t2), .unset, .unset, .unset, .unset, .unset, .unset, .unset, .unset] [(.int m2)])
  refine Dn.st (fun t q => XS.istore X4.here hx rfl (hb hby at_52) rfl (l' := #[.val (.int x0), .val (.int x1), .val (.int x2), .val (.int x3), .val (.ref b1), .val (.int t1), .val (.int m1), .val (.ref b2), .val (.int t2), .val (.int m2), .unset, .unset, .unset, .unset, .unset, .unset, .unset]) rfl q) ?_
  show Dn p e below s _ _ _ T4 (mkF m 54 #[.val (.int x0), .val (.int x1), .val (.int x2), .val (.int x3), .val (.ref b1), .val (.int t1), .val (.int m1), .val (.ref b2), .val (.int t2), .val (.int m2), .unset, .unset, .unset, .unset, .unset, .unset, .unset] [])
  obtain ⟨T5, h5, X5, e5, E5, A5, D5, -, st5⟩ := newO X4 hx hZ hown (hw _ (List.mem_of_getElem? (i := 8) rfl)) (hw _ (List.mem_of_getElem? (i := 9) rfl)) (hw _ (List.mem_of_getElem? (i := 10) rfl)) rfl (g := (mkF m 54 #[.val (.int x0), .val (.int x1), .val (.int x2), .val (.int x3), .val (.ref b1), .val (.int t1), .val (.int m1), .val (.ref b2), .val (.int t2), .val (.int m2), .unset, .unset, .unset, .unset, .unset, .unset, .unset] [])) rfl (hb hby at_54) (by decide) (by decide)
  obtain ⟨b3, g5⟩ : ∃ z, z = T4.heap.size := ⟨_, rfl⟩
  rw [← g5] at A5 D5 st5
  have ne_b1_b3 : b1 ≠ b3 := own_ne A_b1.lt g5
  have ne_b2_b3 : b2 ≠ b3 := own_ne A_b2.lt g5
  have g_b3 : n0 ≤ b3 := Nat.le_trans Z0 (Nat.le_of_eq g5.symm)
  have sz_b3 : h0.size ≤ b3 := Nat.le_trans K0.1 (Nat.le_of_eq g5.symm)
  have Z0 := Nat.le_trans Z0 E5.1
  have K0 := K0.ext E5
  have A_b1 := A_b1.ext E5
  have A_b2 := A_b2.ext E5
  have E_b3 := A5
  have F_lastRun_b3 : Fld Z h5 b3 "com/example/coppice/coppice/http/RequestHead$Line" "lastRun" "I" (.int (0 : Int32)) := D5 (Or.inl (hw _ (List.mem_of_getElem? (i := 23) rfl))) (ty := .int) (by decide)
  have F_overflowed_b3 : Fld Z h5 b3 "com/example/coppice/coppice/http/RequestHead$Line" "overflowed" "Z" (.int (0 : Int32)) := D5 (Or.inl (hw _ (List.mem_of_getElem? (i := 30) rfl))) (ty := .boolean) (by decide)
  have F_length_b3 : Fld Z h5 b3 "com/example/coppice/coppice/http/RequestHead$Line" "length" "I" (.int (0 : Int32)) := D5 (Or.inl (hw _ (List.mem_of_getElem? (i := 42) rfl))) (ty := .int) (by decide)
  have F_afterCr_b3 : Fld Z h5 b3 "com/example/coppice/coppice/http/RequestHead$Line" "afterCr" "Z" (.int (0 : Int32)) := D5 (Or.inl (hw _ (List.mem_of_getElem? (i := 44) rfl))) (ty := .boolean) (by decide)
  have F_ended_b3 : Fld Z h5 b3 "com/example/coppice/coppice/http/RequestHead$Line" "ended" "Z" (.int (0 : Int32)) := D5 (Or.inl (hw _ (List.mem_of_getElem? (i := 46) rfl))) (ty := .boolean) (by decide)
  refine Dn.st st5 ?_
  show Dn p e below s _ _ _ T5 (mkF m 57 #[.val (.int x0), .val (.int x1), .val (.int x2), .val (.int x3), .val (.ref b1), .val (.int t1), .val (.int m1), .val (.ref b2), .val (.int t2), .val (.int m2), .unset, .unset, .unset, .unset, .unset, .unset, .unset] [(.ref b3)])
  refine Dn.st (fun t q => XS.dup X5.here hx rfl (hb hby at_57) rfl rfl q) ?_
  show Dn p e below s _ _ _ T5 (mkF m 58 #[.val (.int x0), .val (.int x1), .val (.int x2), .val (.int x3), .val (.ref b1), .val (.int t1), .val (.int m1), .val (.ref b2), .val (.int t2), .val (.int m2), .unset, .unset, .unset, .unset, .unset, .unset, .unset] [(.ref b3), (.ref b3)])
  obtain ⟨_, _, ⟨T6, Lq6, kq_6, nq_6⟩, -, X6, ⟨Lc6, hQ6, lq6, yq6, zq6⟩, st6⟩ := X5.specialBack hx (y := (⟨"com/example/coppice/coppice/http/RequestHead$Line", "<init>", "()V"⟩ : MethodName)) rfl hown (mvT hZ (hw _ (List.mem_of_getElem? (i := 11) rfl))) (mvT hZ (hw _ (List.mem_of_getElem? (i := 12) rfl))) (mvT hZ (hw _ (List.mem_of_getElem? (i := 13) rfl))) (by decide) (backOf (W := 1) (rm3 l Z a0 hw [] b3  h5 n0 Z0 ) hZ (hw _ (List.mem_of_getElem? (i := 13) rfl)) (hw _ (List.mem_of_getElem? (i := 10) rfl)) (by decide) (by decide)) (g := (mkF m 58 #[.val (.int x0), .val (.int x1), .val (.int x2), .val (.int x3), .val (.ref b1), .val (.int t1), .val (.int m1), .val (.ref b2), .val (.int t2), .val (.int m2), .unset, .unset, .unset, .unset, .unset, .unset, .unset] [(.ref b3), (.ref b3)])) rfl (by rw [hml]; rfl) (Steps.refl _) (a := b3) (argsL := []) (rest := [(.ref b3)]) (lenOf pd_3 rfl) rfl (by show 2 * 0 + _ ≤ _; exact Nat.le_of_eq rfl) (hb hby at_58) (fun _ _ => ⟨rfl, e5, (by decide : 3 + 0 ≤ _), (by decide : 11 + 0 ≤ _)⟩)
  dsimp only [Pt.U, Pt.locs, Pt.cells, Pt.slots] at X6 lq6 yq6 zq6 st6 hQ6
  subst yq6 zq6
  obtain ⟨rfl, N6q, hq6⟩ := hQ6
  have N0 : Fr n0 Lq6 := by rw [lq6]; exact Fr.app N0 N6q
  have e6 : T6.heap = h5 := hq6
  refine Dn.tr st6 ?_
  show Dn p e below s _ _ _ T6 (mkF m 61 #[.val (.int x0), .val (.int x1), .val (.int x2), .val (.int x3), .val (.ref b1), .val (.int t1), .val (.int m1), .val (.ref b2), .val (.int t2), .val (.int m2), .unset, .unset, .unset, .unset, .unset, .unset, .unset] [(.ref b3)])
  refine Dn.st (fun t q => XS.astore X6.here hx rfl (hb hby at_61) rfl rfl (l' := #[.val (.int x0), .val (.int x1), .val (.int x2), .val (.int x3), .val (.ref b1), .val (.int t1), .val (.int m1), .val (.ref b2), .val (.int t2), .val (.int m2), .val (.ref b3), .unset, .unset, .unset, .unset, .unset, .unset]) rfl q) ?_
  show Dn p e below s _ _ _ T6 (mkF m 63 #[.val (.int x0), .val (.int x1), .val (.int x2), .val (.int x3), .val (.ref b1), .val (.int t1), .val (.int m1), .val (.ref b2), .val (.int t2), .val (.int m2), .val (.ref b3), .unset, .unset, .unset, .unset, .unset, .unset] [])
  obtain ⟨T7, h7, X7, e7, E7, A7, D7, -, st7⟩ := newO X6 hx hZ hown (hw _ (List.mem_of_getElem? (i := 8) rfl)) (hw _ (List.mem_of_getElem? (i := 9) rfl)) (hw _ (List.mem_of_getElem? (i := 10) rfl)) e6 (g := (mkF m 63 #[.val (.int x0), .val (.int x1), .val (.int x2), .val (.int x3), .val (.ref b1), .val (.int t1), .val (.int m1), .val (.ref b2), .val (.int t2), .val (.int m2), .val (.ref b3), .unset, .unset, .unset, .unset, .unset, .unset] [])) rfl (hb hby at_63) (by decide) (by decide)
  obtain ⟨b4, g7⟩ : ∃ z, z = h5.size := ⟨_, rfl⟩
  rw [← g7] at A7 D7 st7
  have ne_b1_b4 : b1 ≠ b4 := own_ne A_b1.lt g7
  have ne_b2_b4 : b2 ≠ b4 := own_ne A_b2.lt g7
  have ne_b3_b4 : b3 ≠ b4 := own_ne E_b3.lt g7
  have g_b4 : n0 ≤ b4 := Nat.le_trans Z0 (Nat.le_of_eq g7.symm)
  have sz_b4 : h0.size ≤ b4 := Nat.le_trans K0.1 (Nat.le_of_eq g7.symm)
  have Z0 := Nat.le_trans Z0 E7.1
  have K0 := K0.ext E7
  have A_b1 := A_b1.ext E7
  have A_b2 := A_b2.ext E7
  have E_b3 := E_b3.ext E7
  have F_lastRun_b3 := F_lastRun_b3.ext E7
  have F_overflowed_b3 := F_overflowed_b3.ext E7
  have F_length_b3 := F_length_b3.ext E7
  have F_afterCr_b3 := F_afterCr_b3.ext E7
  have F_ended_b3 := F_ended_b3.ext E7
  have E_b4 := A7
  have F_lastRun_b4 : Fld Z h7 b4 "com/example/coppice/coppice/http/RequestHead$Line" "lastRun" "I" (.int (0 : Int32)) := D7 (Or.inl (hw _ (List.mem_of_getElem? (i := 23) rfl))) (ty := .int) (by decide)
  have F_overflowed_b4 : Fld Z h7 b4 "com/example/coppice/coppice/http/RequestHead$Line" "overflowed" "Z" (.int (0 : Int32)) := D7 (Or.inl (hw _ (List.mem_of_getElem? (i := 30) rfl))) (ty := .boolean) (by decide)
  have F_length_b4 : Fld Z h7 b4 "com/example/coppice/coppice/http/RequestHead$Line" "length" "I" (.int (0 : Int32)) := D7 (Or.inl (hw _ (List.mem_of_getElem? (i := 42) rfl))) (ty := .int) (by decide)
  have F_afterCr_b4 : Fld Z h7 b4 "com/example/coppice/coppice/http/RequestHead$Line" "afterCr" "Z" (.int (0 : Int32)) := D7 (Or.inl (hw _ (List.mem_of_getElem? (i := 44) rfl))) (ty := .boolean) (by decide)
  have F_ended_b4 : Fld Z h7 b4 "com/example/coppice/coppice/http/RequestHead$Line" "ended" "Z" (.int (0 : Int32)) := D7 (Or.inl (hw _ (List.mem_of_getElem? (i := 46) rfl))) (ty := .boolean) (by decide)
  refine Dn.st st7 ?_
  show Dn p e below s _ _ _ T7 (mkF m 66 #[.val (.int x0), .val (.int x1), .val (.int x2), .val (.int x3), .val (.ref b1), .val (.int t1), .val (.int m1), .val (.ref b2), .val (.int t2), .val (.int m2), .val (.ref b3), .unset, .unset, .unset, .unset, .unset, .unset] [(.ref b4)])
  refine Dn.st (fun t q => XS.dup X7.here hx rfl (hb hby at_66) rfl rfl q) ?_
  show Dn p e below s _ _ _ T7 (mkF m 67 #[.val (.int x0), .val (.int x1), .val (.int x2), .val (.int x3), .val (.ref b1), .val (.int t1), .val (.int m1), .val (.ref b2), .val (.int t2), .val (.int m2), .val (.ref b3), .unset, .unset, .unset, .unset, .unset, .unset] [(.ref b4), (.ref b4)])
  obtain ⟨_, _, ⟨T8, Lq8, kq_8, nq_8⟩, -, X8, ⟨Lc8, hQ8, lq8, yq8, zq8⟩, st8⟩ := X7.specialBack hx (y := (⟨"com/example/coppice/coppice/http/RequestHead$Line", "<init>", "()V"⟩ : MethodName)) rfl hown (mvT hZ (hw _ (List.mem_of_getElem? (i := 11) rfl))) (mvT hZ (hw _ (List.mem_of_getElem? (i := 12) rfl))) (mvT hZ (hw _ (List.mem_of_getElem? (i := 13) rfl))) (by decide) (backOf (W := 1) (rm3 l Z a0 hw [] b4  h7 n0 Z0 ) hZ (hw _ (List.mem_of_getElem? (i := 13) rfl)) (hw _ (List.mem_of_getElem? (i := 10) rfl)) (by decide) (by decide)) (g := (mkF m 67 #[.val (.int x0), .val (.int x1), .val (.int x2), .val (.int x3), .val (.ref b1), .val (.int t1), .val (.int m1), .val (.ref b2), .val (.int t2), .val (.int m2), .val (.ref b3), .unset, .unset, .unset, .unset, .unset, .unset] [(.ref b4), (.ref b4)])) rfl (by rw [hml]; rfl) (Steps.refl _) (a := b4) (argsL := []) (rest := [(.ref b4)]) (lenOf pd_3 rfl) rfl (by show 2 * 0 + _ ≤ _; exact Nat.le_of_eq rfl) (hb hby at_67) (fun _ _ => ⟨rfl, e7, (by decide : 4 + 0 ≤ _), (by decide : 16 + 0 ≤ _)⟩)
  dsimp only [Pt.U, Pt.locs, Pt.cells, Pt.slots] at X8 lq8 yq8 zq8 st8 hQ8
  subst yq8 zq8
  obtain ⟨rfl, N8q, hq8⟩ := hQ8
  have N0 : Fr n0 Lq8 := by rw [lq8]; exact Fr.app N0 N8q
  have e8 : T8.heap = h7 := hq8
  refine Dn.tr st8 ?_
  show Dn p e below s _ _ _ T8 (mkF m 70 #[.val (.int x0), .val (.int x1), .val (.int x2), .val (.int x3), .val (.ref b1), .val (.int t1), .val (.int m1), .val (.ref b2), .val (.int t2), .val (.int m2), .val (.ref b3), .unset, .unset, .unset, .unset, .unset, .unset] [(.ref b4)])
  refine Dn.st (fun t q => XS.astore X8.here hx rfl (hb hby at_70) rfl rfl (l' := #[.val (.int x0), .val (.int x1), .val (.int x2), .val (.int x3), .val (.ref b1), .val (.int t1), .val (.int m1), .val (.ref b2), .val (.int t2), .val (.int m2), .val (.ref b3), .val (.ref b4), .unset, .unset, .unset, .unset, .unset]) rfl q) ?_
  show Dn p e below s _ _ _ T8 (mkF m 72 #[.val (.int x0), .val (.int x1), .val (.int x2), .val (.int x3), .val (.ref b1), .val (.int t1), .val (.int m1), .val (.ref b2), .val (.int t2), .val (.int m2), .val (.ref b3), .val (.ref b4), .unset, .unset, .unset, .unset, .unset] [])
  refine Dn.st (fun t q => XS.aload X8.here hx rfl (hb hby at_72) rfl rfl  q) ?_
  show Dn p e below s _ _ _ T8 (mkF m 74 #[.val (.int x0), .val (.int x1), .val (.int x2), .val (.int x3), .val (.ref b1), .val (.int t1), .val (.int m1), .val (.ref b2), .val (.int t2), .val (.int m2), .val (.ref b3), .val (.ref b4), .unset, .unset, .unset, .unset, .unset] [(.ref b3)])
  refine Dn.st (fun t q => XS.aload X8.here hx rfl (hb hby at_74) rfl rfl  q) ?_
  show Dn p e below s _ _ _ T8 (mkF m 76 #[.val (.int x0), .val (.int x1), .val (.int x2), .val (.int x3), .val (.ref b1), .val (.int t1), .val (.int m1), .val (.ref b2), .val (.int t2), .val (.int m2), .val (.ref b3), .val (.ref b4), .unset, .unset, .unset, .unset, .unset] [(.ref b1), (.ref b3)])
  refine Dn.st (fun t q => XS.iconst X8.here hx rfl (hb hby at_76) q) ?_
  show Dn p e below s _ _ _ T8 (mkF m 77 #[.val (.int x0), .val (.int x1), .val (.int x2), .val (.int x3), .val (.ref b1), .val (.int t1), .val (.int m1), .val (.ref b2), .val (.int t2), .val (.int m2), .val (.ref b3), .val (.ref b4), .unset, .unset, .unset, .unset, .unset] [(.int (0 : Int32)), (.ref b1), (.ref b3)])
  refine Dn.st (fun t q => XS.iload X8.here hx rfl (hb hby at_77) rfl  q) ?_
  show Dn p e below s _ _ _ T8 (mkF m 79 #[.val (.int x0), .val (.int x1), .val (.int x2), .val (.int x3), .val (.ref b1), .val (.int t1), .val (.int m1), .val (.ref b2), .val (.int t2), .val (.int m2), .val (.ref b3), .val (.ref b4), .unset, .unset, .unset, .unset, .unset] [(.int t1), (.int (0 : Int32)), (.ref b1), (.ref b3)])
  refine Dn.st (fun t q => XS.iload X8.here hx rfl (hb hby at_79) rfl  q) ?_
  show Dn p e below s _ _ _ T8 (mkF m 81 #[.val (.int x0), .val (.int x1), .val (.int x2), .val (.int x3), .val (.ref b1), .val (.int t1), .val (.int m1), .val (.ref b2), .val (.int t2), .val (.int m2), .val (.ref b3), .val (.ref b4), .unset, .unset, .unset, .unset, .unset] [(.int m1), (.int t1), (.int (0 : Int32)), (.ref b1), (.ref b3)])
  obtain ⟨R1, hR1⟩ : ∃ z, own_R u1 t1 m1 = z := ⟨_, rfl⟩
  obtain ⟨R2, hR2⟩ : ∃ z, own_R u2 t2 m2 = z := ⟨_, rfl⟩
  obtain ⟨cq9, kq9, q9a, q9b, q9c⟩ := isOf hZ e8 E_b3
  obtain ⟨_, _, ⟨T9, Lq9, kq_9, nq_9⟩, -, X9, ⟨Lc9, hQ9, lq9, yq9, zq9⟩, st9⟩ := X8.virtualBack hx (y := (⟨"com/example/coppice/coppice/http/RequestHead$Line", "take", "([BIII)I"⟩ : MethodName)) (z := (⟨"com/example/coppice/coppice/http/RequestHead$Line", "take", "([BIII)I"⟩ : MethodName)) hown (mvT hZ (hw _ (List.mem_of_getElem? (i := 17) rfl))) (mvT hZ (hw _ (List.mem_of_getElem? (i := 18) rfl))) (notFace_of_selects (args := #[]) (mvT hZ (hw _ (List.mem_of_getElem? (i := 20) rfl)))) (mvT hZ (hw _ (List.mem_of_getElem? (i := 20) rfl))) (mvT hZ (hw _ (List.mem_of_getElem? (i := 19) rfl))) (by decide) (backOf (W := 0) (rm5 l Z a0 hw [] b3 b1 (0 : Int32) t1 m1 u1 n1 (0 : Int32) (.int (0 : Int32)) R1 h7 n0 Z0 E_b3 F_lastRun_b3 F_ended_b3 F_afterCr_b3 F_length_b3 F_overflowed_b3 A_b1 (Ne.symm ne_b1_b3) g_b3 nt1 rfl hn1 hn13 hR1) hZ (hw _ (List.mem_of_getElem? (i := 21) rfl)) (hw _ (List.mem_of_getElem? (i := 10) rfl)) (by decide) (by decide)) q9a q9c (g := (mkF m 81 #[.val (.int x0), .val (.int x1), .val (.int x2), .val (.int x3), .val (.ref b1), .val (.int t1), .val (.int m1), .val (.ref b2), .val (.int t2), .val (.int m2), .val (.ref b3), .val (.ref b4), .unset, .unset, .unset, .unset, .unset] [(.int m1), (.int t1), (.int (0 : Int32)), (.ref b1), (.ref b3)])) rfl (by rw [hml]; rfl) (Steps.refl _) (argsL := [(.ref b1), (.int (0 : Int32)), (.int t1), (.int m1)]) (rest := []) (lenOf pd_4 rfl) rfl (by show 2 * 0 + _ ≤ _; exact Nat.le_of_eq rfl) (hb hby at_81) (fun _ _ => ⟨rfl, e8, (by decide : 4 + 0 ≤ _), (by decide : 16 + 0 ≤ _)⟩)
  dsimp only [Pt.U, Pt.locs, Pt.cells, Pt.slots] at X9 lq9 yq9 zq9 st9 hQ9
  subst yq9 zq9
  obtain ⟨rfl, N9q, K9, F_lastRun_b3, F_ended_b3, F_afterCr_b3, F_length_b3, F_overflowed_b3⟩ := hQ9
  have N0 : Fr n0 Lq9 := by rw [lq9]; exact Fr.app N0 N9q
  have Z0 := Nat.le_trans Z0 K9.1
  have K0 := K0.trans K9 (allS (Or.inr sz_b3) all0)
  have A_b1 := A_b1.keep K9 (ninS ne_b1_b3 nin0)
  have A_b2 := A_b2.keep K9 (ninS ne_b2_b3 nin0)
  have E_b3 := E_b3.keep K9
  have E_b4 := E_b4.keep K9
  have F_lastRun_b4 := F_lastRun_b4.keep K9 (ninS (Ne.symm ne_b3_b4) nin0)
  have F_overflowed_b4 := F_overflowed_b4.keep K9 (ninS (Ne.symm ne_b3_b4) nin0)
  have F_length_b4 := F_length_b4.keep K9 (ninS (Ne.symm ne_b3_b4) nin0)
  have F_afterCr_b4 := F_afterCr_b4.keep K9 (ninS (Ne.symm ne_b3_b4) nin0)
  have F_ended_b4 := F_ended_b4.keep K9 (ninS (Ne.symm ne_b3_b4) nin0)
  refine Dn.tr st9 ?_
  show Dn p e below s _ _ _ T9 (mkF m 84 #[.val (.int x0), .val (.int x1), .val (.int x2), .val (.int x3), .val (.ref b1), .val (.int t1), .val (.int m1), .val (.ref b2), .val (.int t2), .val (.int m2), .val (.ref b3), .val (.ref b4), .unset, .unset, .unset, .unset, .unset] [(.int R1.1)])
  refine Dn.st (fun t q => XS.pop X9.here hx rfl (hb hby at_84) rfl rfl q) ?_
  show Dn p e below s _ _ _ T9 (mkF m 85 #[.val (.int x0), .val (.int x1), .val (.int x2), .val (.int x3), .val (.ref b1), .val (.int t1), .val (.int m1), .val (.ref b2), .val (.int t2), .val (.int m2), .val (.ref b3), .val (.ref b4), .unset, .unset, .unset, .unset, .unset] [])
  refine Dn.st (fun t q => XS.aload X9.here hx rfl (hb hby at_85) rfl rfl  q) ?_
  show Dn p e below s _ _ _ T9 (mkF m 87 #[.val (.int x0), .val (.int x1), .val (.int x2), .val (.int x3), .val (.ref b1), .val (.int t1), .val (.int m1), .val (.ref b2), .val (.int t2), .val (.int m2), .val (.ref b3), .val (.ref b4), .unset, .unset, .unset, .unset, .unset] [(.ref b3)])
  obtain ⟨cq10, kq10, q10a, q10b, q10c⟩ := isOf hZ rfl E_b3
  obtain ⟨_, _, ⟨T10, Lq10, kq_10, nq_10⟩, -, X10, ⟨Lc10, hQ10, lq10, yq10, zq10⟩, st10⟩ := X9.virtualBack hx (y := (⟨"com/example/coppice/coppice/http/RequestHead$Line", "overflowed", "()Z"⟩ : MethodName)) (z := (⟨"com/example/coppice/coppice/http/RequestHead$Line", "overflowed", "()Z"⟩ : MethodName)) hown (mvT hZ (hw _ (List.mem_of_getElem? (i := 24) rfl))) (mvT hZ (hw _ (List.mem_of_getElem? (i := 25) rfl))) (notFace_of_selects (args := #[]) (mvT hZ (hw _ (List.mem_of_getElem? (i := 27) rfl)))) (mvT hZ (hw _ (List.mem_of_getElem? (i := 27) rfl))) (mvT hZ (hw _ (List.mem_of_getElem? (i := 26) rfl))) (by decide) (backOf (W := 0) (rm6 l Z a0 hw [] b3 (own_ov R1.2.2.2.2.2 (0 : Int32)) T9.heap n0 Z0 F_overflowed_b3) hZ (hw _ (List.mem_of_getElem? (i := 28) rfl)) (hw _ (List.mem_of_getElem? (i := 10) rfl)) (by decide) (by decide)) q10a q10c (g := (mkF m 87 #[.val (.int x0), .val (.int x1), .val (.int x2), .val (.int x3), .val (.ref b1), .val (.int t1), .val (.int m1), .val (.ref b2), .val (.int t2), .val (.int m2), .val (.ref b3), .val (.ref b4), .unset, .unset, .unset, .unset, .unset] [(.ref b3)])) rfl (by rw [hml]; rfl) (Steps.refl _) (argsL := []) (rest := []) (lenOf pd_5 rfl) rfl (by show 2 * 0 + _ ≤ _; exact Nat.le_of_eq rfl) (hb hby at_87) (fun _ _ => ⟨rfl, rfl, (by decide : 4 + 0 ≤ _), (by decide : 16 + 0 ≤ _)⟩)
  dsimp only [Pt.U, Pt.locs, Pt.cells, Pt.slots] at X10 lq10 yq10 zq10 st10 hQ10
  subst yq10 zq10
  obtain ⟨rfl, N10q, hq10⟩ := hQ10
  have N0 : Fr n0 Lq10 := by rw [lq10]; exact Fr.app N0 N10q
  have e10 : T10.heap = T9.heap := hq10
  refine Dn.tr st10 ?_
  show Dn p e below s _ _ _ T10 (mkF m 90 #[.val (.int x0), .val (.int x1), .val (.int x2), .val (.int x3), .val (.ref b1), .val (.int t1), .val (.int m1), .val (.ref b2), .val (.int t2), .val (.int m2), .val (.ref b3), .val (.ref b4), .unset, .unset, .unset, .unset, .unset] [(.int (nar .boolean (own_ov R1.2.2.2.2.2 (0 : Int32))))])
  refine Dn.st (fun t q => XS.istore X10.here hx rfl (hb hby at_90) rfl (l' := #[.val (.int x0), .val (.int x1), .val (.int x2), .val (.int x3), .val (.ref b1), .val (.int t1), .val (.int m1), .val (.ref b2), .val (.int t2), .val (.int m2), .val (.ref b3), .val (.ref b4), .val (.int (nar .boolean (own_ov R1.2.2.2.2.2 (0 : Int32)))), .unset, .unset, .unset, .unset]) rfl q) ?_
  show Dn p e below s _ _ _ T10 (mkF m 92 #[.val (.int x0), .val (.int x1), .val (.int x2), .val (.int x3), .val (.ref b1), .val (.int t1), .val (.int m1), .val (.ref b2), .val (.int t2), .val (.int m2), .val (.ref b3), .val (.ref b4), .val (.int (nar .boolean (own_ov R1.2.2.2.2.2 (0 : Int32)))), .unset, .unset, .unset, .unset] [])
  refine Dn.st (fun t q => XS.aload X10.here hx rfl (hb hby at_92) rfl rfl  q) ?_
  show Dn p e below s _ _ _ T10 (mkF m 94 #[.val (.int x0), .val (.int x1), .val (.int x2), .val (.int x3), .val (.ref b1), .val (.int t1), .val (.int m1), .val (.ref b2), .val (.int t2), .val (.int m2), .val (.ref b3), .val (.ref b4), .val (.int (nar .boolean (own_ov R1.2.2.2.2.2 (0 : Int32)))), .unset, .unset, .unset, .unset] [(.ref b3)])
  obtain ⟨cq11, kq11, q11a, q11b, q11c⟩ := isOf hZ e10 E_b3
  obtain ⟨_, _, ⟨T11, Lq11, kq_11, nq_11⟩, -, X11, ⟨Lc11, hQ11, lq11, yq11, zq11⟩, st11⟩ := X10.virtualBack hx (y := (⟨"com/example/coppice/coppice/http/RequestHead$Line", "lastRun", "()I"⟩ : MethodName)) (z := (⟨"com/example/coppice/coppice/http/RequestHead$Line", "lastRun", "()I"⟩ : MethodName)) hown (mvT hZ (hw _ (List.mem_of_getElem? (i := 31) rfl))) (mvT hZ (hw _ (List.mem_of_getElem? (i := 32) rfl))) (notFace_of_selects (args := #[]) (mvT hZ (hw _ (List.mem_of_getElem? (i := 34) rfl)))) (mvT hZ (hw _ (List.mem_of_getElem? (i := 34) rfl))) (mvT hZ (hw _ (List.mem_of_getElem? (i := 33) rfl))) (by decide) (backOf (W := 0) (rm7 l Z a0 hw [] b3 R1.2.1 T9.heap n0 Z0 F_lastRun_b3) hZ (hw _ (List.mem_of_getElem? (i := 35) rfl)) (hw _ (List.mem_of_getElem? (i := 10) rfl)) (by decide) (by decide)) q11a q11c (g := (mkF m 94 #[.val (.int x0), .val (.int x1), .val (.int x2), .val (.int x3), .val (.ref b1), .val (.int t1), .val (.int m1), .val (.ref b2), .val (.int t2), .val (.int m2), .val (.ref b3), .val (.ref b4), .val (.int (nar .boolean (own_ov R1.2.2.2.2.2 (0 : Int32)))), .unset, .unset, .unset, .unset] [(.ref b3)])) rfl (by rw [hml]; rfl) (Steps.refl _) (argsL := []) (rest := []) (lenOf pd_6 rfl) rfl (by show 2 * 0 + _ ≤ _; exact Nat.le_of_eq rfl) (hb hby at_94) (fun _ _ => ⟨rfl, e10, (by decide : 4 + 0 ≤ _), (by decide : 16 + 0 ≤ _)⟩)
  dsimp only [Pt.U, Pt.locs, Pt.cells, Pt.slots] at X11 lq11 yq11 zq11 st11 hQ11
  subst yq11 zq11
  obtain ⟨rfl, N11q, hq11⟩ := hQ11
  have N0 : Fr n0 Lq11 := by rw [lq11]; exact Fr.app N0 N11q
  have e11 : T11.heap = T9.heap := hq11
  refine Dn.tr st11 ?_
  show Dn p e below s _ _ _ T11 (mkF m 97 #[.val (.int x0), .val (.int x1), .val (.int x2), .val (.int x3), .val (.ref b1), .val (.int t1), .val (.int m1), .val (.ref b2), .val (.int t2), .val (.int m2), .val (.ref b3), .val (.ref b4), .val (.int (nar .boolean (own_ov R1.2.2.2.2.2 (0 : Int32)))), .unset, .unset, .unset, .unset] [(.int R1.2.1)])
  refine Dn.st (fun t q => XS.istore X11.here hx rfl (hb hby at_97) rfl (l' := #[.val (.int x0), .val (.int x1), .val (.int x2), .val (.int x3), .val (.ref b1), .val (.int t1), .val (.int m1), .val (.ref b2), .val (.int t2), .val (.int m2), .val (.ref b3), .val (.ref b4), .val (.int (nar .boolean (own_ov R1.2.2.2.2.2 (0 : Int32)))), .val (.int R1.2.1), .unset, .unset, .unset]) rfl q) ?_
  show Dn p e below s _ _ _ T11 (mkF m 99 #[.val (.int x0), .val (.int x1), .val (.int x2), .val (.int x3), .val (.ref b1), .val (.int t1), .val (.int m1), .val (.ref b2), .val (.int t2), .val (.int m2), .val (.ref b3), .val (.ref b4), .val (.int (nar .boolean (own_ov R1.2.2.2.2.2 (0 : Int32)))), .val (.int R1.2.1), .unset, .unset, .unset] [])
  refine Dn.st (fun t q => XS.aload X11.here hx rfl (hb hby at_99) rfl rfl  q) ?_
  show Dn p e below s _ _ _ T11 (mkF m 101 #[.val (.int x0), .val (.int x1), .val (.int x2), .val (.int x3), .val (.ref b1), .val (.int t1), .val (.int m1), .val (.ref b2), .val (.int t2), .val (.int m2), .val (.ref b3), .val (.ref b4), .val (.int (nar .boolean (own_ov R1.2.2.2.2.2 (0 : Int32)))), .val (.int R1.2.1), .unset, .unset, .unset] [(.ref b3)])
  obtain ⟨cq12, kq12, q12a, q12b, q12c⟩ := isOf hZ e11 E_b3
  obtain ⟨_, _, ⟨T12, Lq12, kq_12, nq_12⟩, -, X12, ⟨Lc12, hQ12, lq12, yq12, zq12⟩, st12⟩ := X11.virtualBack hx (y := (⟨"com/example/coppice/coppice/http/RequestHead$Line", "clear", "()V"⟩ : MethodName)) (z := (⟨"com/example/coppice/coppice/http/RequestHead$Line", "clear", "()V"⟩ : MethodName)) hown (mvT hZ (hw _ (List.mem_of_getElem? (i := 36) rfl))) (mvT hZ (hw _ (List.mem_of_getElem? (i := 37) rfl))) (notFace_of_selects (args := #[]) (mvT hZ (hw _ (List.mem_of_getElem? (i := 39) rfl)))) (mvT hZ (hw _ (List.mem_of_getElem? (i := 39) rfl))) (mvT hZ (hw _ (List.mem_of_getElem? (i := 38) rfl))) (by decide) (backOf (W := 0) (rm8 l Z a0 hw [] b3 (.int R1.2.1) (.int (own_bi R1.2.2.2.1)) (.int (own_bi R1.2.2.2.2.1)) (.int R1.2.2.1) (.int (own_ov R1.2.2.2.2.2 (0 : Int32))) T9.heap n0 Z0 E_b3 F_lastRun_b3 F_ended_b3 F_afterCr_b3 F_length_b3 F_overflowed_b3 g_b3) hZ (hw _ (List.mem_of_getElem? (i := 40) rfl)) (hw _ (List.mem_of_getElem? (i := 10) rfl)) (by decide) (by decide)) q12a q12c (g := (mkF m 101 #[.val (.int x0), .val (.int x1), .val (.int x2), .val (.int x3), .val (.ref b1), .val (.int t1), .val (.int m1), .val (.ref b2), .val (.int t2), .val (.int m2), .val (.ref b3), .val (.ref b4), .val (.int (nar .boolean (own_ov R1.2.2.2.2.2 (0 : Int32)))), .val (.int R1.2.1), .unset, .unset, .unset] [(.ref b3)])) rfl (by rw [hml]; rfl) (Steps.refl _) (argsL := []) (rest := []) (lenOf pd_3 rfl) rfl (by show 2 * 0 + _ ≤ _; exact Nat.le_of_eq rfl) (hb hby at_101) (fun _ _ => ⟨rfl, e11, (by decide : 4 + 0 ≤ _), (by decide : 16 + 0 ≤ _)⟩)
  dsimp only [Pt.U, Pt.locs, Pt.cells, Pt.slots] at X12 lq12 yq12 zq12 st12 hQ12
  subst yq12 zq12
  obtain ⟨rfl, N12q, K12, F_lastRun_b3, F_ended_b3, F_afterCr_b3, F_length_b3, F_overflowed_b3⟩ := hQ12
  have N0 : Fr n0 Lq12 := by rw [lq12]; exact Fr.app N0 N12q
  have Z0 := Nat.le_trans Z0 K12.1
  have K0 := K0.trans K12 (allS (Or.inr sz_b3) all0)
  have A_b1 := A_b1.keep K12 (ninS ne_b1_b3 nin0)
  have A_b2 := A_b2.keep K12 (ninS ne_b2_b3 nin0)
  have E_b3 := E_b3.keep K12
  have E_b4 := E_b4.keep K12
  have F_lastRun_b4 := F_lastRun_b4.keep K12 (ninS (Ne.symm ne_b3_b4) nin0)
  have F_overflowed_b4 := F_overflowed_b4.keep K12 (ninS (Ne.symm ne_b3_b4) nin0)
  have F_length_b4 := F_length_b4.keep K12 (ninS (Ne.symm ne_b3_b4) nin0)
  have F_afterCr_b4 := F_afterCr_b4.keep K12 (ninS (Ne.symm ne_b3_b4) nin0)
  have F_ended_b4 := F_ended_b4.keep K12 (ninS (Ne.symm ne_b3_b4) nin0)
  refine Dn.tr st12 ?_
  show Dn p e below s _ _ _ T12 (mkF m 104 #[.val (.int x0), .val (.int x1), .val (.int x2), .val (.int x3), .val (.ref b1), .val (.int t1), .val (.int m1), .val (.ref b2), .val (.int t2), .val (.int m2), .val (.ref b3), .val (.ref b4), .val (.int (nar .boolean (own_ov R1.2.2.2.2.2 (0 : Int32)))), .val (.int R1.2.1), .unset, .unset, .unset] [])
  refine Dn.st (fun t q => XS.aload X12.here hx rfl (hb hby at_104) rfl rfl  q) ?_
  show Dn p e below s _ _ _ T12 (mkF m 106 #[.val (.int x0), .val (.int x1), .val (.int x2), .val (.int x3), .val (.ref b1), .val (.int t1), .val (.int m1), .val (.ref b2), .val (.int t2), .val (.int m2), .val (.ref b3), .val (.ref b4), .val (.int (nar .boolean (own_ov R1.2.2.2.2.2 (0 : Int32)))), .val (.int R1.2.1), .unset, .unset, .unset] [(.ref b3)])
  obtain ⟨cq13, kq13, q13a, q13b, q13c⟩ := isOf hZ rfl E_b3
  obtain ⟨_, _, ⟨T13, Lq13, kq_13, nq_13⟩, -, X13, ⟨Lc13, hQ13, lq13, yq13, zq13⟩, st13⟩ := X12.virtualBack hx (y := (⟨"com/example/coppice/coppice/http/RequestHead$Line", "length", "()I"⟩ : MethodName)) (z := (⟨"com/example/coppice/coppice/http/RequestHead$Line", "length", "()I"⟩ : MethodName)) hown (mvT hZ (hw _ (List.mem_of_getElem? (i := 47) rfl))) (mvT hZ (hw _ (List.mem_of_getElem? (i := 48) rfl))) (notFace_of_selects (args := #[]) (mvT hZ (hw _ (List.mem_of_getElem? (i := 50) rfl)))) (mvT hZ (hw _ (List.mem_of_getElem? (i := 50) rfl))) (mvT hZ (hw _ (List.mem_of_getElem? (i := 49) rfl))) (by decide) (backOf (W := 0) (rm9 l Z a0 hw [] b3 (0 : Int32) T12.heap n0 Z0 F_length_b3) hZ (hw _ (List.mem_of_getElem? (i := 51) rfl)) (hw _ (List.mem_of_getElem? (i := 10) rfl)) (by decide) (by decide)) q13a q13c (g := (mkF m 106 #[.val (.int x0), .val (.int x1), .val (.int x2), .val (.int x3), .val (.ref b1), .val (.int t1), .val (.int m1), .val (.ref b2), .val (.int t2), .val (.int m2), .val (.ref b3), .val (.ref b4), .val (.int (nar .boolean (own_ov R1.2.2.2.2.2 (0 : Int32)))), .val (.int R1.2.1), .unset, .unset, .unset] [(.ref b3)])) rfl (by rw [hml]; rfl) (Steps.refl _) (argsL := []) (rest := []) (lenOf pd_6 rfl) rfl (by show 2 * 0 + _ ≤ _; exact Nat.le_of_eq rfl) (hb hby at_106) (fun _ _ => ⟨rfl, rfl, (by decide : 4 + 0 ≤ _), (by decide : 16 + 0 ≤ _)⟩)
  dsimp only [Pt.U, Pt.locs, Pt.cells, Pt.slots] at X13 lq13 yq13 zq13 st13 hQ13
  subst yq13 zq13
  obtain ⟨rfl, N13q, hq13⟩ := hQ13
  have N0 : Fr n0 Lq13 := by rw [lq13]; exact Fr.app N0 N13q
  have e13 : T13.heap = T12.heap := hq13
  refine Dn.tr st13 ?_
  show Dn p e below s _ _ _ T13 (mkF m 109 #[.val (.int x0), .val (.int x1), .val (.int x2), .val (.int x3), .val (.ref b1), .val (.int t1), .val (.int m1), .val (.ref b2), .val (.int t2), .val (.int m2), .val (.ref b3), .val (.ref b4), .val (.int (nar .boolean (own_ov R1.2.2.2.2.2 (0 : Int32)))), .val (.int R1.2.1), .unset, .unset, .unset] [(.int (0 : Int32))])
  refine Dn.st (fun t q => XS.ifNo X13.here hx rfl (hb hby at_109) rfl ((if0 _ _).trans (teq rfl).2) q) ?_
  show Dn p e below s _ _ _ T13 (mkF m 112 #[.val (.int x0), .val (.int x1), .val (.int x2), .val (.int x3), .val (.ref b1), .val (.int t1), .val (.int m1), .val (.ref b2), .val (.int t2), .val (.int m2), .val (.ref b3), .val (.ref b4), .val (.int (nar .boolean (own_ov R1.2.2.2.2.2 (0 : Int32)))), .val (.int R1.2.1), .unset, .unset, .unset] [])
  refine Dn.st (fun t q => XS.aload X13.here hx rfl (hb hby at_112) rfl rfl  q) ?_
  show Dn p e below s _ _ _ T13 (mkF m 114 #[.val (.int x0), .val (.int x1), .val (.int x2), .val (.int x3), .val (.ref b1), .val (.int t1), .val (.int m1), .val (.ref b2), .val (.int t2), .val (.int m2), .val (.ref b3), .val (.ref b4), .val (.int (nar .boolean (own_ov R1.2.2.2.2.2 (0 : Int32)))), .val (.int R1.2.1), .unset, .unset, .unset] [(.ref b3)])
  obtain ⟨cq14, kq14, q14a, q14b, q14c⟩ := isOf hZ e13 E_b3
  obtain ⟨_, _, ⟨T14, Lq14, kq_14, nq_14⟩, -, X14, ⟨Lc14, hQ14, lq14, yq14, zq14⟩, st14⟩ := X13.virtualBack hx (y := (⟨"com/example/coppice/coppice/http/RequestHead$Line", "ended", "()Z"⟩ : MethodName)) (z := (⟨"com/example/coppice/coppice/http/RequestHead$Line", "ended", "()Z"⟩ : MethodName)) hown (mvT hZ (hw _ (List.mem_of_getElem? (i := 52) rfl))) (mvT hZ (hw _ (List.mem_of_getElem? (i := 53) rfl))) (notFace_of_selects (args := #[]) (mvT hZ (hw _ (List.mem_of_getElem? (i := 55) rfl)))) (mvT hZ (hw _ (List.mem_of_getElem? (i := 55) rfl))) (mvT hZ (hw _ (List.mem_of_getElem? (i := 54) rfl))) (by decide) (backOf (W := 0) (rm10 l Z a0 hw [] b3 (0 : Int32) T12.heap n0 Z0 F_ended_b3) hZ (hw _ (List.mem_of_getElem? (i := 56) rfl)) (hw _ (List.mem_of_getElem? (i := 10) rfl)) (by decide) (by decide)) q14a q14c (g := (mkF m 114 #[.val (.int x0), .val (.int x1), .val (.int x2), .val (.int x3), .val (.ref b1), .val (.int t1), .val (.int m1), .val (.ref b2), .val (.int t2), .val (.int m2), .val (.ref b3), .val (.ref b4), .val (.int (nar .boolean (own_ov R1.2.2.2.2.2 (0 : Int32)))), .val (.int R1.2.1), .unset, .unset, .unset] [(.ref b3)])) rfl (by rw [hml]; rfl) (Steps.refl _) (argsL := []) (rest := []) (lenOf pd_5 rfl) rfl (by show 2 * 0 + _ ≤ _; exact Nat.le_of_eq rfl) (hb hby at_114) (fun _ _ => ⟨rfl, e13, (by decide : 4 + 0 ≤ _), (by decide : 16 + 0 ≤ _)⟩)
  dsimp only [Pt.U, Pt.locs, Pt.cells, Pt.slots] at X14 lq14 yq14 zq14 st14 hQ14
  subst yq14 zq14
  obtain ⟨rfl, N14q, hq14⟩ := hQ14
  have N0 : Fr n0 Lq14 := by rw [lq14]; exact Fr.app N0 N14q
  have e14 : T14.heap = T12.heap := hq14
  refine Dn.tr st14 ?_
  show Dn p e below s _ _ _ T14 (mkF m 117 #[.val (.int x0), .val (.int x1), .val (.int x2), .val (.int x3), .val (.ref b1), .val (.int t1), .val (.int m1), .val (.ref b2), .val (.int t2), .val (.int m2), .val (.ref b3), .val (.ref b4), .val (.int (nar .boolean (own_ov R1.2.2.2.2.2 (0 : Int32)))), .val (.int R1.2.1), .unset, .unset, .unset] [(.int (nar .boolean (0 : Int32)))])
  refine Dn.st (fun t q => XS.ifNo X14.here hx rfl (hb hby at_117) rfl ((if0 _ _).trans (teq rfl).2) q) ?_
  show Dn p e below s _ _ _ T14 (mkF m 120 #[.val (.int x0), .val (.int x1), .val (.int x2), .val (.int x3), .val (.ref b1), .val (.int t1), .val (.int m1), .val (.ref b2), .val (.int t2), .val (.int m2), .val (.ref b3), .val (.ref b4), .val (.int (nar .boolean (own_ov R1.2.2.2.2.2 (0 : Int32)))), .val (.int R1.2.1), .unset, .unset, .unset] [])
  refine Dn.st (fun t q => XS.aload X14.here hx rfl (hb hby at_120) rfl rfl  q) ?_
  show Dn p e below s _ _ _ T14 (mkF m 122 #[.val (.int x0), .val (.int x1), .val (.int x2), .val (.int x3), .val (.ref b1), .val (.int t1), .val (.int m1), .val (.ref b2), .val (.int t2), .val (.int m2), .val (.ref b3), .val (.ref b4), .val (.int (nar .boolean (own_ov R1.2.2.2.2.2 (0 : Int32)))), .val (.int R1.2.1), .unset, .unset, .unset] [(.ref b3)])
  obtain ⟨cq15, kq15, q15a, q15b, q15c⟩ := isOf hZ e14 E_b3
  obtain ⟨_, _, ⟨T15, Lq15, kq_15, nq_15⟩, -, X15, ⟨Lc15, hQ15, lq15, yq15, zq15⟩, st15⟩ := X14.virtualBack hx (y := (⟨"com/example/coppice/coppice/http/RequestHead$Line", "overflowed", "()Z"⟩ : MethodName)) (z := (⟨"com/example/coppice/coppice/http/RequestHead$Line", "overflowed", "()Z"⟩ : MethodName)) hown (mvT hZ (hw _ (List.mem_of_getElem? (i := 24) rfl))) (mvT hZ (hw _ (List.mem_of_getElem? (i := 25) rfl))) (notFace_of_selects (args := #[]) (mvT hZ (hw _ (List.mem_of_getElem? (i := 27) rfl)))) (mvT hZ (hw _ (List.mem_of_getElem? (i := 27) rfl))) (mvT hZ (hw _ (List.mem_of_getElem? (i := 26) rfl))) (by decide) (backOf (W := 0) (rm6 l Z a0 hw [] b3 (own_ov R1.2.2.2.2.2 (0 : Int32)) T12.heap n0 Z0 F_overflowed_b3) hZ (hw _ (List.mem_of_getElem? (i := 28) rfl)) (hw _ (List.mem_of_getElem? (i := 10) rfl)) (by decide) (by decide)) q15a q15c (g := (mkF m 122 #[.val (.int x0), .val (.int x1), .val (.int x2), .val (.int x3), .val (.ref b1), .val (.int t1), .val (.int m1), .val (.ref b2), .val (.int t2), .val (.int m2), .val (.ref b3), .val (.ref b4), .val (.int (nar .boolean (own_ov R1.2.2.2.2.2 (0 : Int32)))), .val (.int R1.2.1), .unset, .unset, .unset] [(.ref b3)])) rfl (by rw [hml]; rfl) (Steps.refl _) (argsL := []) (rest := []) (lenOf pd_5 rfl) rfl (by show 2 * 0 + _ ≤ _; exact Nat.le_of_eq rfl) (hb hby at_122) (fun _ _ => ⟨rfl, e14, (by decide : 4 + 0 ≤ _), (by decide : 16 + 0 ≤ _)⟩)
  dsimp only [Pt.U, Pt.locs, Pt.cells, Pt.slots] at X15 lq15 yq15 zq15 st15 hQ15
  subst yq15 zq15
  obtain ⟨rfl, N15q, hq15⟩ := hQ15
  have N0 : Fr n0 Lq15 := by rw [lq15]; exact Fr.app N0 N15q
  have e15 : T15.heap = T12.heap := hq15
  refine Dn.tr st15 ?_
  show Dn p e below s _ _ _ T15 (mkF m 125 #[.val (.int x0), .val (.int x1), .val (.int x2), .val (.int x3), .val (.ref b1), .val (.int t1), .val (.int m1), .val (.ref b2), .val (.int t2), .val (.int m2), .val (.ref b3), .val (.ref b4), .val (.int (nar .boolean (own_ov R1.2.2.2.2.2 (0 : Int32)))), .val (.int R1.2.1), .unset, .unset, .unset] [(.int (nar .boolean (own_ov R1.2.2.2.2.2 (0 : Int32))))])
  refine Dn.st (fun t q => XS.iload X15.here hx rfl (hb hby at_125) rfl  q) ?_
  show Dn p e below s _ _ _ T15 (mkF m 127 #[.val (.int x0), .val (.int x1), .val (.int x2), .val (.int x3), .val (.ref b1), .val (.int t1), .val (.int m1), .val (.ref b2), .val (.int t2), .val (.int m2), .val (.ref b3), .val (.ref b4), .val (.int (nar .boolean (own_ov R1.2.2.2.2.2 (0 : Int32)))), .val (.int R1.2.1), .unset, .unset, .unset] [(.int (nar .boolean (own_ov R1.2.2.2.2.2 (0 : Int32)))), (.int (nar .boolean (own_ov R1.2.2.2.2.2 (0 : Int32))))])
  refine Dn.st (fun t q => XS.icmpNo X15.here hx rfl (hb hby at_127) rfl (teq rfl).2 q) ?_
  show Dn p e below s _ _ _ T15 (mkF m 130 #[.val (.int x0), .val (.int x1), .val (.int x2), .val (.int x3), .val (.ref b1), .val (.int t1), .val (.int m1), .val (.ref b2), .val (.int t2), .val (.int m2), .val (.ref b3), .val (.ref b4), .val (.int (nar .boolean (own_ov R1.2.2.2.2.2 (0 : Int32)))), .val (.int R1.2.1), .unset, .unset, .unset] [])
  refine Dn.st (fun t q => XS.aload X15.here hx rfl (hb hby at_130) rfl rfl  q) ?_
  show Dn p e below s _ _ _ T15 (mkF m 132 #[.val (.int x0), .val (.int x1), .val (.int x2), .val (.int x3), .val (.ref b1), .val (.int t1), .val (.int m1), .val (.ref b2), .val (.int t2), .val (.int m2), .val (.ref b3), .val (.ref b4), .val (.int (nar .boolean (own_ov R1.2.2.2.2.2 (0 : Int32)))), .val (.int R1.2.1), .unset, .unset, .unset] [(.ref b3)])
  obtain ⟨cq16, kq16, q16a, q16b, q16c⟩ := isOf hZ e15 E_b3
  obtain ⟨_, _, ⟨T16, Lq16, kq_16, nq_16⟩, -, X16, ⟨Lc16, hQ16, lq16, yq16, zq16⟩, st16⟩ := X15.virtualBack hx (y := (⟨"com/example/coppice/coppice/http/RequestHead$Line", "lastRun", "()I"⟩ : MethodName)) (z := (⟨"com/example/coppice/coppice/http/RequestHead$Line", "lastRun", "()I"⟩ : MethodName)) hown (mvT hZ (hw _ (List.mem_of_getElem? (i := 31) rfl))) (mvT hZ (hw _ (List.mem_of_getElem? (i := 32) rfl))) (notFace_of_selects (args := #[]) (mvT hZ (hw _ (List.mem_of_getElem? (i := 34) rfl)))) (mvT hZ (hw _ (List.mem_of_getElem? (i := 34) rfl))) (mvT hZ (hw _ (List.mem_of_getElem? (i := 33) rfl))) (by decide) (backOf (W := 0) (rm7 l Z a0 hw [] b3 R1.2.1 T12.heap n0 Z0 F_lastRun_b3) hZ (hw _ (List.mem_of_getElem? (i := 35) rfl)) (hw _ (List.mem_of_getElem? (i := 10) rfl)) (by decide) (by decide)) q16a q16c (g := (mkF m 132 #[.val (.int x0), .val (.int x1), .val (.int x2), .val (.int x3), .val (.ref b1), .val (.int t1), .val (.int m1), .val (.ref b2), .val (.int t2), .val (.int m2), .val (.ref b3), .val (.ref b4), .val (.int (nar .boolean (own_ov R1.2.2.2.2.2 (0 : Int32)))), .val (.int R1.2.1), .unset, .unset, .unset] [(.ref b3)])) rfl (by rw [hml]; rfl) (Steps.refl _) (argsL := []) (rest := []) (lenOf pd_6 rfl) rfl (by show 2 * 0 + _ ≤ _; exact Nat.le_of_eq rfl) (hb hby at_132) (fun _ _ => ⟨rfl, e15, (by decide : 4 + 0 ≤ _), (by decide : 16 + 0 ≤ _)⟩)
  dsimp only [Pt.U, Pt.locs, Pt.cells, Pt.slots] at X16 lq16 yq16 zq16 st16 hQ16
  subst yq16 zq16
  obtain ⟨rfl, N16q, hq16⟩ := hQ16
  have N0 : Fr n0 Lq16 := by rw [lq16]; exact Fr.app N0 N16q
  have e16 : T16.heap = T12.heap := hq16
  refine Dn.tr st16 ?_
  show Dn p e below s _ _ _ T16 (mkF m 135 #[.val (.int x0), .val (.int x1), .val (.int x2), .val (.int x3), .val (.ref b1), .val (.int t1), .val (.int m1), .val (.ref b2), .val (.int t2), .val (.int m2), .val (.ref b3), .val (.ref b4), .val (.int (nar .boolean (own_ov R1.2.2.2.2.2 (0 : Int32)))), .val (.int R1.2.1), .unset, .unset, .unset] [(.int R1.2.1)])
  refine Dn.st (fun t q => XS.iload X16.here hx rfl (hb hby at_135) rfl  q) ?_
  show Dn p e below s _ _ _ T16 (mkF m 137 #[.val (.int x0), .val (.int x1), .val (.int x2), .val (.int x3), .val (.ref b1), .val (.int t1), .val (.int m1), .val (.ref b2), .val (.int t2), .val (.int m2), .val (.ref b3), .val (.ref b4), .val (.int (nar .boolean (own_ov R1.2.2.2.2.2 (0 : Int32)))), .val (.int R1.2.1), .unset, .unset, .unset] [(.int R1.2.1), (.int R1.2.1)])
  refine Dn.st (fun t q => XS.icmpNo X16.here hx rfl (hb hby at_137) rfl (teq rfl).2 q) ?_
  show Dn p e below s _ _ _ T16 (mkF m 140 #[.val (.int x0), .val (.int x1), .val (.int x2), .val (.int x3), .val (.ref b1), .val (.int t1), .val (.int m1), .val (.ref b2), .val (.int t2), .val (.int m2), .val (.ref b3), .val (.ref b4), .val (.int (nar .boolean (own_ov R1.2.2.2.2.2 (0 : Int32)))), .val (.int R1.2.1), .unset, .unset, .unset] [])
  refine Dn.st (fun t q => XS.iconst X16.here hx rfl (hb hby at_140) q) ?_
  show Dn p e below s _ _ _ T16 (mkF m 141 #[.val (.int x0), .val (.int x1), .val (.int x2), .val (.int x3), .val (.ref b1), .val (.int t1), .val (.int m1), .val (.ref b2), .val (.int t2), .val (.int m2), .val (.ref b3), .val (.ref b4), .val (.int (nar .boolean (own_ov R1.2.2.2.2.2 (0 : Int32)))), .val (.int R1.2.1), .unset, .unset, .unset] [(.int (1 : Int32))])
  refine Dn.st (fun t q => XS.goto X16.here hx rfl (pc0 := 141) (pc' := 145) rfl (hb hby at_141) (by decide) (by decide) q) ?_
  show Dn p e below s _ _ _ T16 (mkF m 145 #[.val (.int x0), .val (.int x1), .val (.int x2), .val (.int x3), .val (.ref b1), .val (.int t1), .val (.int m1), .val (.ref b2), .val (.int t2), .val (.int m2), .val (.ref b3), .val (.ref b4), .val (.int (nar .boolean (own_ov R1.2.2.2.2.2 (0 : Int32)))), .val (.int R1.2.1), .unset, .unset, .unset] [(.int (1 : Int32))])
  refine Dn.st (fun t q => XS.istore X16.here hx rfl (hb hby at_145) rfl (l' := #[.val (.int x0), .val (.int x1), .val (.int x2), .val (.int x3), .val (.ref b1), .val (.int t1), .val (.int m1), .val (.ref b2), .val (.int t2), .val (.int m2), .val (.ref b3), .val (.ref b4), .val (.int (nar .boolean (own_ov R1.2.2.2.2.2 (0 : Int32)))), .val (.int R1.2.1), .val (.int (1 : Int32)), .unset, .unset]) rfl q) ?_
  show Dn p e below s _ _ _ T16 (mkF m 147 #[.val (.int x0), .val (.int x1), .val (.int x2), .val (.int x3), .val (.ref b1), .val (.int t1), .val (.int m1), .val (.ref b2), .val (.int t2), .val (.int m2), .val (.ref b3), .val (.ref b4), .val (.int (nar .boolean (own_ov R1.2.2.2.2.2 (0 : Int32)))), .val (.int R1.2.1), .val (.int (1 : Int32)), .unset, .unset] [])
  refine Dn.st (fun t q => XS.aload X16.here hx rfl (hb hby at_147) rfl rfl  q) ?_
  show Dn p e below s _ _ _ T16 (mkF m 149 #[.val (.int x0), .val (.int x1), .val (.int x2), .val (.int x3), .val (.ref b1), .val (.int t1), .val (.int m1), .val (.ref b2), .val (.int t2), .val (.int m2), .val (.ref b3), .val (.ref b4), .val (.int (nar .boolean (own_ov R1.2.2.2.2.2 (0 : Int32)))), .val (.int R1.2.1), .val (.int (1 : Int32)), .unset, .unset] [(.ref b3)])
  refine Dn.st (fun t q => XS.aload X16.here hx rfl (hb hby at_149) rfl rfl  q) ?_
  show Dn p e below s _ _ _ T16 (mkF m 151 #[.val (.int x0), .val (.int x1), .val (.int x2), .val (.int x3), .val (.ref b1), .val (.int t1), .val (.int m1), .val (.ref b2), .val (.int t2), .val (.int m2), .val (.ref b3), .val (.ref b4), .val (.int (nar .boolean (own_ov R1.2.2.2.2.2 (0 : Int32)))), .val (.int R1.2.1), .val (.int (1 : Int32)), .unset, .unset] [(.ref b2), (.ref b3)])
  refine Dn.st (fun t q => XS.iconst X16.here hx rfl (hb hby at_151) q) ?_
  show Dn p e below s _ _ _ T16 (mkF m 152 #[.val (.int x0), .val (.int x1), .val (.int x2), .val (.int x3), .val (.ref b1), .val (.int t1), .val (.int m1), .val (.ref b2), .val (.int t2), .val (.int m2), .val (.ref b3), .val (.ref b4), .val (.int (nar .boolean (own_ov R1.2.2.2.2.2 (0 : Int32)))), .val (.int R1.2.1), .val (.int (1 : Int32)), .unset, .unset] [(.int (0 : Int32)), (.ref b2), (.ref b3)])
  refine Dn.st (fun t q => XS.iload X16.here hx rfl (hb hby at_152) rfl  q) ?_
  show Dn p e below s _ _ _ T16 (mkF m 154 #[.val (.int x0), .val (.int x1), .val (.int x2), .val (.int x3), .val (.ref b1), .val (.int t1), .val (.int m1), .val (.ref b2), .val (.int t2), .val (.int m2), .val (.ref b3), .val (.ref b4), .val (.int (nar .boolean (own_ov R1.2.2.2.2.2 (0 : Int32)))), .val (.int R1.2.1), .val (.int (1 : Int32)), .unset, .unset] [(.int t2), (.int (0 : Int32)), (.ref b2), (.ref b3)])
  refine Dn.st (fun t q => XS.iload X16.here hx rfl (hb hby at_154) rfl  q) ?_
  show Dn p e below s _ _ _ T16 (mkF m 156 #[.val (.int x0), .val (.int x1), .val (.int x2), .val (.int x3), .val (.ref b1), .val (.int t1), .val (.int m1), .val (.ref b2), .val (.int t2), .val (.int m2), .val (.ref b3), .val (.ref b4), .val (.int (nar .boolean (own_ov R1.2.2.2.2.2 (0 : Int32)))), .val (.int R1.2.1), .val (.int (1 : Int32)), .unset, .unset] [(.int m2), (.int t2), (.int (0 : Int32)), (.ref b2), (.ref b3)])
  obtain ⟨cq17, kq17, q17a, q17b, q17c⟩ := isOf hZ e16 E_b3
  obtain ⟨_, _, ⟨T17, Lq17, kq_17, nq_17⟩, -, X17, ⟨Lc17, hQ17, lq17, yq17, zq17⟩, st17⟩ := X16.virtualBack hx (y := (⟨"com/example/coppice/coppice/http/RequestHead$Line", "take", "([BIII)I"⟩ : MethodName)) (z := (⟨"com/example/coppice/coppice/http/RequestHead$Line", "take", "([BIII)I"⟩ : MethodName)) hown (mvT hZ (hw _ (List.mem_of_getElem? (i := 17) rfl))) (mvT hZ (hw _ (List.mem_of_getElem? (i := 18) rfl))) (notFace_of_selects (args := #[]) (mvT hZ (hw _ (List.mem_of_getElem? (i := 20) rfl)))) (mvT hZ (hw _ (List.mem_of_getElem? (i := 20) rfl))) (mvT hZ (hw _ (List.mem_of_getElem? (i := 19) rfl))) (by decide) (backOf (W := 0) (rm5 l Z a0 hw [] b3 b2 (0 : Int32) t2 m2 u2 n2 (own_ov R1.2.2.2.2.2 (0 : Int32)) (.int R1.2.1) R2 T12.heap n0 Z0 E_b3 F_lastRun_b3 F_ended_b3 F_afterCr_b3 F_length_b3 F_overflowed_b3 A_b2 (Ne.symm ne_b2_b3) g_b3 nt2 rfl hn2 hn23 hR2) hZ (hw _ (List.mem_of_getElem? (i := 21) rfl)) (hw _ (List.mem_of_getElem? (i := 10) rfl)) (by decide) (by decide)) q17a q17c (g := (mkF m 156 #[.val (.int x0), .val (.int x1), .val (.int x2), .val (.int x3), .val (.ref b1), .val (.int t1), .val (.int m1), .val (.ref b2), .val (.int t2), .val (.int m2), .val (.ref b3), .val (.ref b4), .val (.int (nar .boolean (own_ov R1.2.2.2.2.2 (0 : Int32)))), .val (.int R1.2.1), .val (.int (1 : Int32)), .unset, .unset] [(.int m2), (.int t2), (.int (0 : Int32)), (.ref b2), (.ref b3)])) rfl (by rw [hml]; rfl) (Steps.refl _) (argsL := [(.ref b2), (.int (0 : Int32)), (.int t2), (.int m2)]) (rest := []) (lenOf pd_4 rfl) rfl (by show 2 * 0 + _ ≤ _; exact Nat.le_of_eq rfl) (hb hby at_156) (fun _ _ => ⟨rfl, e16, (by decide : 4 + 0 ≤ _), (by decide : 16 + 0 ≤ _)⟩)
  dsimp only [Pt.U, Pt.locs, Pt.cells, Pt.slots] at X17 lq17 yq17 zq17 st17 hQ17
  subst yq17 zq17
  obtain ⟨rfl, N17q, K17, F_lastRun_b3, F_ended_b3, F_afterCr_b3, F_length_b3, F_overflowed_b3⟩ := hQ17
  have N0 : Fr n0 Lq17 := by rw [lq17]; exact Fr.app N0 N17q
  have Z0 := Nat.le_trans Z0 K17.1
  have K0 := K0.trans K17 (allS (Or.inr sz_b3) all0)
  have A_b1 := A_b1.keep K17 (ninS ne_b1_b3 nin0)
  have A_b2 := A_b2.keep K17 (ninS ne_b2_b3 nin0)
  have E_b3 := E_b3.keep K17
  have E_b4 := E_b4.keep K17
  have F_lastRun_b4 := F_lastRun_b4.keep K17 (ninS (Ne.symm ne_b3_b4) nin0)
  have F_overflowed_b4 := F_overflowed_b4.keep K17 (ninS (Ne.symm ne_b3_b4) nin0)
  have F_length_b4 := F_length_b4.keep K17 (ninS (Ne.symm ne_b3_b4) nin0)
  have F_afterCr_b4 := F_afterCr_b4.keep K17 (ninS (Ne.symm ne_b3_b4) nin0)
  have F_ended_b4 := F_ended_b4.keep K17 (ninS (Ne.symm ne_b3_b4) nin0)
  refine Dn.tr st17 ?_
  show Dn p e below s _ _ _ T17 (mkF m 159 #[.val (.int x0), .val (.int x1), .val (.int x2), .val (.int x3), .val (.ref b1), .val (.int t1), .val (.int m1), .val (.ref b2), .val (.int t2), .val (.int m2), .val (.ref b3), .val (.ref b4), .val (.int (nar .boolean (own_ov R1.2.2.2.2.2 (0 : Int32)))), .val (.int R1.2.1), .val (.int (1 : Int32)), .unset, .unset] [(.int R2.1)])
  refine Dn.st (fun t q => XS.istore X17.here hx rfl (hb hby at_159) rfl (l' := #[.val (.int x0), .val (.int x1), .val (.int x2), .val (.int x3), .val (.ref b1), .val (.int t1), .val (.int m1), .val (.ref b2), .val (.int t2), .val (.int m2), .val (.ref b3), .val (.ref b4), .val (.int (nar .boolean (own_ov R1.2.2.2.2.2 (0 : Int32)))), .val (.int R1.2.1), .val (.int (1 : Int32)), .val (.int R2.1), .unset]) rfl q) ?_
  show Dn p e below s _ _ _ T17 (mkF m 161 #[.val (.int x0), .val (.int x1), .val (.int x2), .val (.int x3), .val (.ref b1), .val (.int t1), .val (.int m1), .val (.ref b2), .val (.int t2), .val (.int m2), .val (.ref b3), .val (.ref b4), .val (.int (nar .boolean (own_ov R1.2.2.2.2.2 (0 : Int32)))), .val (.int R1.2.1), .val (.int (1 : Int32)), .val (.int R2.1), .unset] [])
  refine Dn.st (fun t q => XS.aload X17.here hx rfl (hb hby at_161) rfl rfl  q) ?_
  show Dn p e below s _ _ _ T17 (mkF m 163 #[.val (.int x0), .val (.int x1), .val (.int x2), .val (.int x3), .val (.ref b1), .val (.int t1), .val (.int m1), .val (.ref b2), .val (.int t2), .val (.int m2), .val (.ref b3), .val (.ref b4), .val (.int (nar .boolean (own_ov R1.2.2.2.2.2 (0 : Int32)))), .val (.int R1.2.1), .val (.int (1 : Int32)), .val (.int R2.1), .unset] [(.ref b4)])
  refine Dn.st (fun t q => XS.aload X17.here hx rfl (hb hby at_163) rfl rfl  q) ?_
  show Dn p e below s _ _ _ T17 (mkF m 165 #[.val (.int x0), .val (.int x1), .val (.int x2), .val (.int x3), .val (.ref b1), .val (.int t1), .val (.int m1), .val (.ref b2), .val (.int t2), .val (.int m2), .val (.ref b3), .val (.ref b4), .val (.int (nar .boolean (own_ov R1.2.2.2.2.2 (0 : Int32)))), .val (.int R1.2.1), .val (.int (1 : Int32)), .val (.int R2.1), .unset] [(.ref b2), (.ref b4)])
  refine Dn.st (fun t q => XS.iconst X17.here hx rfl (hb hby at_165) q) ?_
  show Dn p e below s _ _ _ T17 (mkF m 166 #[.val (.int x0), .val (.int x1), .val (.int x2), .val (.int x3), .val (.ref b1), .val (.int t1), .val (.int m1), .val (.ref b2), .val (.int t2), .val (.int m2), .val (.ref b3), .val (.ref b4), .val (.int (nar .boolean (own_ov R1.2.2.2.2.2 (0 : Int32)))), .val (.int R1.2.1), .val (.int (1 : Int32)), .val (.int R2.1), .unset] [(.int (0 : Int32)), (.ref b2), (.ref b4)])
  refine Dn.st (fun t q => XS.iload X17.here hx rfl (hb hby at_166) rfl  q) ?_
  show Dn p e below s _ _ _ T17 (mkF m 168 #[.val (.int x0), .val (.int x1), .val (.int x2), .val (.int x3), .val (.ref b1), .val (.int t1), .val (.int m1), .val (.ref b2), .val (.int t2), .val (.int m2), .val (.ref b3), .val (.ref b4), .val (.int (nar .boolean (own_ov R1.2.2.2.2.2 (0 : Int32)))), .val (.int R1.2.1), .val (.int (1 : Int32)), .val (.int R2.1), .unset] [(.int t2), (.int (0 : Int32)), (.ref b2), (.ref b4)])
  refine Dn.st (fun t q => XS.iload X17.here hx rfl (hb hby at_168) rfl  q) ?_
  show Dn p e below s _ _ _ T17 (mkF m 170 #[.val (.int x0), .val (.int x1), .val (.int x2), .val (.int x3), .val (.ref b1), .val (.int t1), .val (.int m1), .val (.ref b2), .val (.int t2), .val (.int m2), .val (.ref b3), .val (.ref b4), .val (.int (nar .boolean (own_ov R1.2.2.2.2.2 (0 : Int32)))), .val (.int R1.2.1), .val (.int (1 : Int32)), .val (.int R2.1), .unset] [(.int m2), (.int t2), (.int (0 : Int32)), (.ref b2), (.ref b4)])
  obtain ⟨cq18, kq18, q18a, q18b, q18c⟩ := isOf hZ rfl E_b4
  obtain ⟨_, _, ⟨T18, Lq18, kq_18, nq_18⟩, -, X18, ⟨Lc18, hQ18, lq18, yq18, zq18⟩, st18⟩ := X17.virtualBack hx (y := (⟨"com/example/coppice/coppice/http/RequestHead$Line", "take", "([BIII)I"⟩ : MethodName)) (z := (⟨"com/example/coppice/coppice/http/RequestHead$Line", "take", "([BIII)I"⟩ : MethodName)) hown (mvT hZ (hw _ (List.mem_of_getElem? (i := 17) rfl))) (mvT hZ (hw _ (List.mem_of_getElem? (i := 18) rfl))) (notFace_of_selects (args := #[]) (mvT hZ (hw _ (List.mem_of_getElem? (i := 20) rfl)))) (mvT hZ (hw _ (List.mem_of_getElem? (i := 20) rfl))) (mvT hZ (hw _ (List.mem_of_getElem? (i := 19) rfl))) (by decide) (backOf (W := 0) (rm5 l Z a0 hw [] b4 b2 (0 : Int32) t2 m2 u2 n2 (0 : Int32) (.int (0 : Int32)) R2 T17.heap n0 Z0 E_b4 F_lastRun_b4 F_ended_b4 F_afterCr_b4 F_length_b4 F_overflowed_b4 A_b2 (Ne.symm ne_b2_b4) g_b4 nt2 rfl hn2 hn23 hR2) hZ (hw _ (List.mem_of_getElem? (i := 21) rfl)) (hw _ (List.mem_of_getElem? (i := 10) rfl)) (by decide) (by decide)) q18a q18c (g := (mkF m 170 #[.val (.int x0), .val (.int x1), .val (.int x2), .val (.int x3), .val (.ref b1), .val (.int t1), .val (.int m1), .val (.ref b2), .val (.int t2), .val (.int m2), .val (.ref b3), .val (.ref b4), .val (.int (nar .boolean (own_ov R1.2.2.2.2.2 (0 : Int32)))), .val (.int R1.2.1), .val (.int (1 : Int32)), .val (.int R2.1), .unset] [(.int m2), (.int t2), (.int (0 : Int32)), (.ref b2), (.ref b4)])) rfl (by rw [hml]; rfl) (Steps.refl _) (argsL := [(.ref b2), (.int (0 : Int32)), (.int t2), (.int m2)]) (rest := []) (lenOf pd_4 rfl) rfl (by show 2 * 0 + _ ≤ _; exact Nat.le_of_eq rfl) (hb hby at_170) (fun _ _ => ⟨rfl, rfl, (by decide : 4 + 0 ≤ _), (by decide : 16 + 0 ≤ _)⟩)
  dsimp only [Pt.U, Pt.locs, Pt.cells, Pt.slots] at X18 lq18 yq18 zq18 st18 hQ18
  subst yq18 zq18
  obtain ⟨rfl, N18q, K18, F_lastRun_b4, F_ended_b4, F_afterCr_b4, F_length_b4, F_overflowed_b4⟩ := hQ18
  have N0 : Fr n0 Lq18 := by rw [lq18]; exact Fr.app N0 N18q
  have Z0 := Nat.le_trans Z0 K18.1
  have K0 := K0.trans K18 (allS (Or.inr sz_b4) all0)
  have A_b1 := A_b1.keep K18 (ninS ne_b1_b4 nin0)
  have A_b2 := A_b2.keep K18 (ninS ne_b2_b4 nin0)
  have E_b3 := E_b3.keep K18
  have E_b4 := E_b4.keep K18
  have F_lastRun_b3 := F_lastRun_b3.keep K18 (ninS ne_b3_b4 nin0)
  have F_ended_b3 := F_ended_b3.keep K18 (ninS ne_b3_b4 nin0)
  have F_afterCr_b3 := F_afterCr_b3.keep K18 (ninS ne_b3_b4 nin0)
  have F_length_b3 := F_length_b3.keep K18 (ninS ne_b3_b4 nin0)
  have F_overflowed_b3 := F_overflowed_b3.keep K18 (ninS ne_b3_b4 nin0)
  refine Dn.tr st18 ?_
  show Dn p e below s _ _ _ T18 (mkF m 173 #[.val (.int x0), .val (.int x1), .val (.int x2), .val (.int x3), .val (.ref b1), .val (.int t1), .val (.int m1), .val (.ref b2), .val (.int t2), .val (.int m2), .val (.ref b3), .val (.ref b4), .val (.int (nar .boolean (own_ov R1.2.2.2.2.2 (0 : Int32)))), .val (.int R1.2.1), .val (.int (1 : Int32)), .val (.int R2.1), .unset] [(.int R2.1)])
  refine Dn.st (fun t q => XS.istore X18.here hx rfl (hb hby at_173) rfl (l' := #[.val (.int x0), .val (.int x1), .val (.int x2), .val (.int x3), .val (.ref b1), .val (.int t1), .val (.int m1), .val (.ref b2), .val (.int t2), .val (.int m2), .val (.ref b3), .val (.ref b4), .val (.int (nar .boolean (own_ov R1.2.2.2.2.2 (0 : Int32)))), .val (.int R1.2.1), .val (.int (1 : Int32)), .val (.int R2.1), .val (.int R2.1)]) rfl q) ?_
  show Dn p e below s _ _ _ T18 (mkF m 175 #[.val (.int x0), .val (.int x1), .val (.int x2), .val (.int x3), .val (.ref b1), .val (.int t1), .val (.int m1), .val (.ref b2), .val (.int t2), .val (.int m2), .val (.ref b3), .val (.ref b4), .val (.int (nar .boolean (own_ov R1.2.2.2.2.2 (0 : Int32)))), .val (.int R1.2.1), .val (.int (1 : Int32)), .val (.int R2.1), .val (.int R2.1)] [])
  refine Dn.st (fun t q => XS.iload X18.here hx rfl (hb hby at_175) rfl  q) ?_
  show Dn p e below s _ _ _ T18 (mkF m 177 #[.val (.int x0), .val (.int x1), .val (.int x2), .val (.int x3), .val (.ref b1), .val (.int t1), .val (.int m1), .val (.ref b2), .val (.int t2), .val (.int m2), .val (.ref b3), .val (.ref b4), .val (.int (nar .boolean (own_ov R1.2.2.2.2.2 (0 : Int32)))), .val (.int R1.2.1), .val (.int (1 : Int32)), .val (.int R2.1), .val (.int R2.1)] [(.int (1 : Int32))])
  refine Dn.st (fun t q => XS.ifNo X18.here hx rfl (hb hby at_177) rfl ((if0 _ _).trans (feq (by decide)).1) q) ?_
  show Dn p e below s _ _ _ T18 (mkF m 180 #[.val (.int x0), .val (.int x1), .val (.int x2), .val (.int x3), .val (.ref b1), .val (.int t1), .val (.int m1), .val (.ref b2), .val (.int t2), .val (.int m2), .val (.ref b3), .val (.ref b4), .val (.int (nar .boolean (own_ov R1.2.2.2.2.2 (0 : Int32)))), .val (.int R1.2.1), .val (.int (1 : Int32)), .val (.int R2.1), .val (.int R2.1)] [])
  refine Dn.st (fun t q => XS.iload X18.here hx rfl (hb hby at_180) rfl  q) ?_
  show Dn p e below s _ _ _ T18 (mkF m 182 #[.val (.int x0), .val (.int x1), .val (.int x2), .val (.int x3), .val (.ref b1), .val (.int t1), .val (.int m1), .val (.ref b2), .val (.int t2), .val (.int m2), .val (.ref b3), .val (.ref b4), .val (.int (nar .boolean (own_ov R1.2.2.2.2.2 (0 : Int32)))), .val (.int R1.2.1), .val (.int (1 : Int32)), .val (.int R2.1), .val (.int R2.1)] [(.int R2.1)])
  refine Dn.st (fun t q => XS.iload X18.here hx rfl (hb hby at_182) rfl  q) ?_
  show Dn p e below s _ _ _ T18 (mkF m 184 #[.val (.int x0), .val (.int x1), .val (.int x2), .val (.int x3), .val (.ref b1), .val (.int t1), .val (.int m1), .val (.ref b2), .val (.int t2), .val (.int m2), .val (.ref b3), .val (.ref b4), .val (.int (nar .boolean (own_ov R1.2.2.2.2.2 (0 : Int32)))), .val (.int R1.2.1), .val (.int (1 : Int32)), .val (.int R2.1), .val (.int R2.1)] [(.int R2.1), (.int R2.1)])
  refine Dn.st (fun t q => XS.icmpNo X18.here hx rfl (hb hby at_184) rfl (teq rfl).2 q) ?_
  show Dn p e below s _ _ _ T18 (mkF m 187 #[.val (.int x0), .val (.int x1), .val (.int x2), .val (.int x3), .val (.ref b1), .val (.int t1), .val (.int m1), .val (.ref b2), .val (.int t2), .val (.int m2), .val (.ref b3), .val (.ref b4), .val (.int (nar .boolean (own_ov R1.2.2.2.2.2 (0 : Int32)))), .val (.int R1.2.1), .val (.int (1 : Int32)), .val (.int R2.1), .val (.int R2.1)] [])
  refine Dn.st (fun t q => XS.aload X18.here hx rfl (hb hby at_187) rfl rfl  q) ?_
  show Dn p e below s _ _ _ T18 (mkF m 189 #[.val (.int x0), .val (.int x1), .val (.int x2), .val (.int x3), .val (.ref b1), .val (.int t1), .val (.int m1), .val (.ref b2), .val (.int t2), .val (.int m2), .val (.ref b3), .val (.ref b4), .val (.int (nar .boolean (own_ov R1.2.2.2.2.2 (0 : Int32)))), .val (.int R1.2.1), .val (.int (1 : Int32)), .val (.int R2.1), .val (.int R2.1)] [(.ref b3)])
  obtain ⟨cq19, kq19, q19a, q19b, q19c⟩ := isOf hZ rfl E_b3
  obtain ⟨_, _, ⟨T19, Lq19, kq_19, nq_19⟩, -, X19, ⟨Lc19, hQ19, lq19, yq19, zq19⟩, st19⟩ := X18.virtualBack hx (y := (⟨"com/example/coppice/coppice/http/RequestHead$Line", "lastRun", "()I"⟩ : MethodName)) (z := (⟨"com/example/coppice/coppice/http/RequestHead$Line", "lastRun", "()I"⟩ : MethodName)) hown (mvT hZ (hw _ (List.mem_of_getElem? (i := 31) rfl))) (mvT hZ (hw _ (List.mem_of_getElem? (i := 32) rfl))) (notFace_of_selects (args := #[]) (mvT hZ (hw _ (List.mem_of_getElem? (i := 34) rfl)))) (mvT hZ (hw _ (List.mem_of_getElem? (i := 34) rfl))) (mvT hZ (hw _ (List.mem_of_getElem? (i := 33) rfl))) (by decide) (backOf (W := 0) (rm7 l Z a0 hw [] b3 R2.2.1 T18.heap n0 Z0 F_lastRun_b3) hZ (hw _ (List.mem_of_getElem? (i := 35) rfl)) (hw _ (List.mem_of_getElem? (i := 10) rfl)) (by decide) (by decide)) q19a q19c (g := (mkF m 189 #[.val (.int x0), .val (.int x1), .val (.int x2), .val (.int x3), .val (.ref b1), .val (.int t1), .val (.int m1), .val (.ref b2), .val (.int t2), .val (.int m2), .val (.ref b3), .val (.ref b4), .val (.int (nar .boolean (own_ov R1.2.2.2.2.2 (0 : Int32)))), .val (.int R1.2.1), .val (.int (1 : Int32)), .val (.int R2.1), .val (.int R2.1)] [(.ref b3)])) rfl (by rw [hml]; rfl) (Steps.refl _) (argsL := []) (rest := []) (lenOf pd_6 rfl) rfl (by show 2 * 0 + _ ≤ _; exact Nat.le_of_eq rfl) (hb hby at_189) (fun _ _ => ⟨rfl, rfl, (by decide : 4 + 0 ≤ _), (by decide : 16 + 0 ≤ _)⟩)
  dsimp only [Pt.U, Pt.locs, Pt.cells, Pt.slots] at X19 lq19 yq19 zq19 st19 hQ19
  subst yq19 zq19
  obtain ⟨rfl, N19q, hq19⟩ := hQ19
  have N0 : Fr n0 Lq19 := by rw [lq19]; exact Fr.app N0 N19q
  have e19 : T19.heap = T18.heap := hq19
  refine Dn.tr st19 ?_
  show Dn p e below s _ _ _ T19 (mkF m 192 #[.val (.int x0), .val (.int x1), .val (.int x2), .val (.int x3), .val (.ref b1), .val (.int t1), .val (.int m1), .val (.ref b2), .val (.int t2), .val (.int m2), .val (.ref b3), .val (.ref b4), .val (.int (nar .boolean (own_ov R1.2.2.2.2.2 (0 : Int32)))), .val (.int R1.2.1), .val (.int (1 : Int32)), .val (.int R2.1), .val (.int R2.1)] [(.int R2.2.1)])
  refine Dn.st (fun t q => XS.aload X19.here hx rfl (hb hby at_192) rfl rfl  q) ?_
  show Dn p e below s _ _ _ T19 (mkF m 194 #[.val (.int x0), .val (.int x1), .val (.int x2), .val (.int x3), .val (.ref b1), .val (.int t1), .val (.int m1), .val (.ref b2), .val (.int t2), .val (.int m2), .val (.ref b3), .val (.ref b4), .val (.int (nar .boolean (own_ov R1.2.2.2.2.2 (0 : Int32)))), .val (.int R1.2.1), .val (.int (1 : Int32)), .val (.int R2.1), .val (.int R2.1)] [(.ref b4), (.int R2.2.1)])
  obtain ⟨cq20, kq20, q20a, q20b, q20c⟩ := isOf hZ e19 E_b4
  obtain ⟨_, _, ⟨T20, Lq20, kq_20, nq_20⟩, -, X20, ⟨Lc20, hQ20, lq20, yq20, zq20⟩, st20⟩ := X19.virtualBack hx (y := (⟨"com/example/coppice/coppice/http/RequestHead$Line", "lastRun", "()I"⟩ : MethodName)) (z := (⟨"com/example/coppice/coppice/http/RequestHead$Line", "lastRun", "()I"⟩ : MethodName)) hown (mvT hZ (hw _ (List.mem_of_getElem? (i := 31) rfl))) (mvT hZ (hw _ (List.mem_of_getElem? (i := 32) rfl))) (notFace_of_selects (args := #[]) (mvT hZ (hw _ (List.mem_of_getElem? (i := 34) rfl)))) (mvT hZ (hw _ (List.mem_of_getElem? (i := 34) rfl))) (mvT hZ (hw _ (List.mem_of_getElem? (i := 33) rfl))) (by decide) (backOf (W := 1) (rm7 l Z a0 hw [] b4 R2.2.1 T18.heap n0 Z0 F_lastRun_b4) hZ (hw _ (List.mem_of_getElem? (i := 35) rfl)) (hw _ (List.mem_of_getElem? (i := 10) rfl)) (by decide) (by decide)) q20a q20c (g := (mkF m 194 #[.val (.int x0), .val (.int x1), .val (.int x2), .val (.int x3), .val (.ref b1), .val (.int t1), .val (.int m1), .val (.ref b2), .val (.int t2), .val (.int m2), .val (.ref b3), .val (.ref b4), .val (.int (nar .boolean (own_ov R1.2.2.2.2.2 (0 : Int32)))), .val (.int R1.2.1), .val (.int (1 : Int32)), .val (.int R2.1), .val (.int R2.1)] [(.ref b4), (.int R2.2.1)])) rfl (by rw [hml]; rfl) (Steps.refl _) (argsL := []) (rest := [(.int R2.2.1)]) (lenOf pd_6 rfl) rfl (by show 2 * 0 + _ ≤ _; exact Nat.le_of_eq rfl) (hb hby at_194) (fun _ _ => ⟨rfl, e19, (by decide : 4 + 0 ≤ _), (by decide : 16 + 0 ≤ _)⟩)
  dsimp only [Pt.U, Pt.locs, Pt.cells, Pt.slots] at X20 lq20 yq20 zq20 st20 hQ20
  subst yq20 zq20
  obtain ⟨rfl, N20q, hq20⟩ := hQ20
  have N0 : Fr n0 Lq20 := by rw [lq20]; exact Fr.app N0 N20q
  have e20 : T20.heap = T18.heap := hq20
  refine Dn.tr st20 ?_
  show Dn p e below s _ _ _ T20 (mkF m 197 #[.val (.int x0), .val (.int x1), .val (.int x2), .val (.int x3), .val (.ref b1), .val (.int t1), .val (.int m1), .val (.ref b2), .val (.int t2), .val (.int m2), .val (.ref b3), .val (.ref b4), .val (.int (nar .boolean (own_ov R1.2.2.2.2.2 (0 : Int32)))), .val (.int R1.2.1), .val (.int (1 : Int32)), .val (.int R2.1), .val (.int R2.1)] [(.int R2.2.1), (.int R2.2.1)])
  refine Dn.st (fun t q => XS.icmpNo X20.here hx rfl (hb hby at_197) rfl (teq rfl).2 q) ?_
  show Dn p e below s _ _ _ T20 (mkF m 200 #[.val (.int x0), .val (.int x1), .val (.int x2), .val (.int x3), .val (.ref b1), .val (.int t1), .val (.int m1), .val (.ref b2), .val (.int t2), .val (.int m2), .val (.ref b3), .val (.ref b4), .val (.int (nar .boolean (own_ov R1.2.2.2.2.2 (0 : Int32)))), .val (.int R1.2.1), .val (.int (1 : Int32)), .val (.int R2.1), .val (.int R2.1)] [])
  refine Dn.st (fun t q => XS.aload X20.here hx rfl (hb hby at_200) rfl rfl  q) ?_
  show Dn p e below s _ _ _ T20 (mkF m 202 #[.val (.int x0), .val (.int x1), .val (.int x2), .val (.int x3), .val (.ref b1), .val (.int t1), .val (.int m1), .val (.ref b2), .val (.int t2), .val (.int m2), .val (.ref b3), .val (.ref b4), .val (.int (nar .boolean (own_ov R1.2.2.2.2.2 (0 : Int32)))), .val (.int R1.2.1), .val (.int (1 : Int32)), .val (.int R2.1), .val (.int R2.1)] [(.ref b3)])
  obtain ⟨cq21, kq21, q21a, q21b, q21c⟩ := isOf hZ e20 E_b3
  obtain ⟨_, _, ⟨T21, Lq21, kq_21, nq_21⟩, -, X21, ⟨Lc21, hQ21, lq21, yq21, zq21⟩, st21⟩ := X20.virtualBack hx (y := (⟨"com/example/coppice/coppice/http/RequestHead$Line", "length", "()I"⟩ : MethodName)) (z := (⟨"com/example/coppice/coppice/http/RequestHead$Line", "length", "()I"⟩ : MethodName)) hown (mvT hZ (hw _ (List.mem_of_getElem? (i := 47) rfl))) (mvT hZ (hw _ (List.mem_of_getElem? (i := 48) rfl))) (notFace_of_selects (args := #[]) (mvT hZ (hw _ (List.mem_of_getElem? (i := 50) rfl)))) (mvT hZ (hw _ (List.mem_of_getElem? (i := 50) rfl))) (mvT hZ (hw _ (List.mem_of_getElem? (i := 49) rfl))) (by decide) (backOf (W := 0) (rm9 l Z a0 hw [] b3 R2.2.2.1 T18.heap n0 Z0 F_length_b3) hZ (hw _ (List.mem_of_getElem? (i := 51) rfl)) (hw _ (List.mem_of_getElem? (i := 10) rfl)) (by decide) (by decide)) q21a q21c (g := (mkF m 202 #[.val (.int x0), .val (.int x1), .val (.int x2), .val (.int x3), .val (.ref b1), .val (.int t1), .val (.int m1), .val (.ref b2), .val (.int t2), .val (.int m2), .val (.ref b3), .val (.ref b4), .val (.int (nar .boolean (own_ov R1.2.2.2.2.2 (0 : Int32)))), .val (.int R1.2.1), .val (.int (1 : Int32)), .val (.int R2.1), .val (.int R2.1)] [(.ref b3)])) rfl (by rw [hml]; rfl) (Steps.refl _) (argsL := []) (rest := []) (lenOf pd_6 rfl) rfl (by show 2 * 0 + _ ≤ _; exact Nat.le_of_eq rfl) (hb hby at_202) (fun _ _ => ⟨rfl, e20, (by decide : 4 + 0 ≤ _), (by decide : 16 + 0 ≤ _)⟩)
  dsimp only [Pt.U, Pt.locs, Pt.cells, Pt.slots] at X21 lq21 yq21 zq21 st21 hQ21
  subst yq21 zq21
  obtain ⟨rfl, N21q, hq21⟩ := hQ21
  have N0 : Fr n0 Lq21 := by rw [lq21]; exact Fr.app N0 N21q
  have e21 : T21.heap = T18.heap := hq21
  refine Dn.tr st21 ?_
  show Dn p e below s _ _ _ T21 (mkF m 205 #[.val (.int x0), .val (.int x1), .val (.int x2), .val (.int x3), .val (.ref b1), .val (.int t1), .val (.int m1), .val (.ref b2), .val (.int t2), .val (.int m2), .val (.ref b3), .val (.ref b4), .val (.int (nar .boolean (own_ov R1.2.2.2.2.2 (0 : Int32)))), .val (.int R1.2.1), .val (.int (1 : Int32)), .val (.int R2.1), .val (.int R2.1)] [(.int R2.2.2.1)])
  refine Dn.st (fun t q => XS.aload X21.here hx rfl (hb hby at_205) rfl rfl  q) ?_
  show Dn p e below s _ _ _ T21 (mkF m 207 #[.val (.int x0), .val (.int x1), .val (.int x2), .val (.int x3), .val (.ref b1), .val (.int t1), .val (.int m1), .val (.ref b2), .val (.int t2), .val (.int m2), .val (.ref b3), .val (.ref b4), .val (.int (nar .boolean (own_ov R1.2.2.2.2.2 (0 : Int32)))), .val (.int R1.2.1), .val (.int (1 : Int32)), .val (.int R2.1), .val (.int R2.1)] [(.ref b4), (.int R2.2.2.1)])
  obtain ⟨cq22, kq22, q22a, q22b, q22c⟩ := isOf hZ e21 E_b4
  obtain ⟨_, _, ⟨T22, Lq22, kq_22, nq_22⟩, -, X22, ⟨Lc22, hQ22, lq22, yq22, zq22⟩, st22⟩ := X21.virtualBack hx (y := (⟨"com/example/coppice/coppice/http/RequestHead$Line", "length", "()I"⟩ : MethodName)) (z := (⟨"com/example/coppice/coppice/http/RequestHead$Line", "length", "()I"⟩ : MethodName)) hown (mvT hZ (hw _ (List.mem_of_getElem? (i := 47) rfl))) (mvT hZ (hw _ (List.mem_of_getElem? (i := 48) rfl))) (notFace_of_selects (args := #[]) (mvT hZ (hw _ (List.mem_of_getElem? (i := 50) rfl)))) (mvT hZ (hw _ (List.mem_of_getElem? (i := 50) rfl))) (mvT hZ (hw _ (List.mem_of_getElem? (i := 49) rfl))) (by decide) (backOf (W := 1) (rm9 l Z a0 hw [] b4 R2.2.2.1 T18.heap n0 Z0 F_length_b4) hZ (hw _ (List.mem_of_getElem? (i := 51) rfl)) (hw _ (List.mem_of_getElem? (i := 10) rfl)) (by decide) (by decide)) q22a q22c (g := (mkF m 207 #[.val (.int x0), .val (.int x1), .val (.int x2), .val (.int x3), .val (.ref b1), .val (.int t1), .val (.int m1), .val (.ref b2), .val (.int t2), .val (.int m2), .val (.ref b3), .val (.ref b4), .val (.int (nar .boolean (own_ov R1.2.2.2.2.2 (0 : Int32)))), .val (.int R1.2.1), .val (.int (1 : Int32)), .val (.int R2.1), .val (.int R2.1)] [(.ref b4), (.int R2.2.2.1)])) rfl (by rw [hml]; rfl) (Steps.refl _) (argsL := []) (rest := [(.int R2.2.2.1)]) (lenOf pd_6 rfl) rfl (by show 2 * 0 + _ ≤ _; exact Nat.le_of_eq rfl) (hb hby at_207) (fun _ _ => ⟨rfl, e21, (by decide : 4 + 0 ≤ _), (by decide : 16 + 0 ≤ _)⟩)
  dsimp only [Pt.U, Pt.locs, Pt.cells, Pt.slots] at X22 lq22 yq22 zq22 st22 hQ22
  subst yq22 zq22
  obtain ⟨rfl, N22q, hq22⟩ := hQ22
  have N0 : Fr n0 Lq22 := by rw [lq22]; exact Fr.app N0 N22q
  have e22 : T22.heap = T18.heap := hq22
  refine Dn.tr st22 ?_
  show Dn p e below s _ _ _ T22 (mkF m 210 #[.val (.int x0), .val (.int x1), .val (.int x2), .val (.int x3), .val (.ref b1), .val (.int t1), .val (.int m1), .val (.ref b2), .val (.int t2), .val (.int m2), .val (.ref b3), .val (.ref b4), .val (.int (nar .boolean (own_ov R1.2.2.2.2.2 (0 : Int32)))), .val (.int R1.2.1), .val (.int (1 : Int32)), .val (.int R2.1), .val (.int R2.1)] [(.int R2.2.2.1), (.int R2.2.2.1)])
  refine Dn.st (fun t q => XS.icmpNo X22.here hx rfl (hb hby at_210) rfl (teq rfl).2 q) ?_
  show Dn p e below s _ _ _ T22 (mkF m 213 #[.val (.int x0), .val (.int x1), .val (.int x2), .val (.int x3), .val (.ref b1), .val (.int t1), .val (.int m1), .val (.ref b2), .val (.int t2), .val (.int m2), .val (.ref b3), .val (.ref b4), .val (.int (nar .boolean (own_ov R1.2.2.2.2.2 (0 : Int32)))), .val (.int R1.2.1), .val (.int (1 : Int32)), .val (.int R2.1), .val (.int R2.1)] [])
  refine Dn.st (fun t q => XS.aload X22.here hx rfl (hb hby at_213) rfl rfl  q) ?_
  show Dn p e below s _ _ _ T22 (mkF m 215 #[.val (.int x0), .val (.int x1), .val (.int x2), .val (.int x3), .val (.ref b1), .val (.int t1), .val (.int m1), .val (.ref b2), .val (.int t2), .val (.int m2), .val (.ref b3), .val (.ref b4), .val (.int (nar .boolean (own_ov R1.2.2.2.2.2 (0 : Int32)))), .val (.int R1.2.1), .val (.int (1 : Int32)), .val (.int R2.1), .val (.int R2.1)] [(.ref b3)])
  obtain ⟨cq23, kq23, q23a, q23b, q23c⟩ := isOf hZ e22 E_b3
  obtain ⟨_, _, ⟨T23, Lq23, kq_23, nq_23⟩, -, X23, ⟨Lc23, hQ23, lq23, yq23, zq23⟩, st23⟩ := X22.virtualBack hx (y := (⟨"com/example/coppice/coppice/http/RequestHead$Line", "ended", "()Z"⟩ : MethodName)) (z := (⟨"com/example/coppice/coppice/http/RequestHead$Line", "ended", "()Z"⟩ : MethodName)) hown (mvT hZ (hw _ (List.mem_of_getElem? (i := 52) rfl))) (mvT hZ (hw _ (List.mem_of_getElem? (i := 53) rfl))) (notFace_of_selects (args := #[]) (mvT hZ (hw _ (List.mem_of_getElem? (i := 55) rfl)))) (mvT hZ (hw _ (List.mem_of_getElem? (i := 55) rfl))) (mvT hZ (hw _ (List.mem_of_getElem? (i := 54) rfl))) (by decide) (backOf (W := 0) (rm10 l Z a0 hw [] b3 (own_bi R2.2.2.2.1) T18.heap n0 Z0 F_ended_b3) hZ (hw _ (List.mem_of_getElem? (i := 56) rfl)) (hw _ (List.mem_of_getElem? (i := 10) rfl)) (by decide) (by decide)) q23a q23c (g := (mkF m 215 #[.val (.int x0), .val (.int x1), .val (.int x2), .val (.int x3), .val (.ref b1), .val (.int t1), .val (.int m1), .val (.ref b2), .val (.int t2), .val (.int m2), .val (.ref b3), .val (.ref b4), .val (.int (nar .boolean (own_ov R1.2.2.2.2.2 (0 : Int32)))), .val (.int R1.2.1), .val (.int (1 : Int32)), .val (.int R2.1), .val (.int R2.1)] [(.ref b3)])) rfl (by rw [hml]; rfl) (Steps.refl _) (argsL := []) (rest := []) (lenOf pd_5 rfl) rfl (by show 2 * 0 + _ ≤ _; exact Nat.le_of_eq rfl) (hb hby at_215) (fun _ _ => ⟨rfl, e22, (by decide : 4 + 0 ≤ _), (by decide : 16 + 0 ≤ _)⟩)
  dsimp only [Pt.U, Pt.locs, Pt.cells, Pt.slots] at X23 lq23 yq23 zq23 st23 hQ23
  subst yq23 zq23
  obtain ⟨rfl, N23q, hq23⟩ := hQ23
  have N0 : Fr n0 Lq23 := by rw [lq23]; exact Fr.app N0 N23q
  have e23 : T23.heap = T18.heap := hq23
  refine Dn.tr st23 ?_
  show Dn p e below s _ _ _ T23 (mkF m 218 #[.val (.int x0), .val (.int x1), .val (.int x2), .val (.int x3), .val (.ref b1), .val (.int t1), .val (.int m1), .val (.ref b2), .val (.int t2), .val (.int m2), .val (.ref b3), .val (.ref b4), .val (.int (nar .boolean (own_ov R1.2.2.2.2.2 (0 : Int32)))), .val (.int R1.2.1), .val (.int (1 : Int32)), .val (.int R2.1), .val (.int R2.1)] [(.int (nar .boolean (own_bi R2.2.2.2.1)))])
  refine Dn.st (fun t q => XS.aload X23.here hx rfl (hb hby at_218) rfl rfl  q) ?_
  show Dn p e below s _ _ _ T23 (mkF m 220 #[.val (.int x0), .val (.int x1), .val (.int x2), .val (.int x3), .val (.ref b1), .val (.int t1), .val (.int m1), .val (.ref b2), .val (.int t2), .val (.int m2), .val (.ref b3), .val (.ref b4), .val (.int (nar .boolean (own_ov R1.2.2.2.2.2 (0 : Int32)))), .val (.int R1.2.1), .val (.int (1 : Int32)), .val (.int R2.1), .val (.int R2.1)] [(.ref b4), (.int (nar .boolean (own_bi R2.2.2.2.1)))])
  obtain ⟨cq24, kq24, q24a, q24b, q24c⟩ := isOf hZ e23 E_b4
  obtain ⟨_, _, ⟨T24, Lq24, kq_24, nq_24⟩, -, X24, ⟨Lc24, hQ24, lq24, yq24, zq24⟩, st24⟩ := X23.virtualBack hx (y := (⟨"com/example/coppice/coppice/http/RequestHead$Line", "ended", "()Z"⟩ : MethodName)) (z := (⟨"com/example/coppice/coppice/http/RequestHead$Line", "ended", "()Z"⟩ : MethodName)) hown (mvT hZ (hw _ (List.mem_of_getElem? (i := 52) rfl))) (mvT hZ (hw _ (List.mem_of_getElem? (i := 53) rfl))) (notFace_of_selects (args := #[]) (mvT hZ (hw _ (List.mem_of_getElem? (i := 55) rfl)))) (mvT hZ (hw _ (List.mem_of_getElem? (i := 55) rfl))) (mvT hZ (hw _ (List.mem_of_getElem? (i := 54) rfl))) (by decide) (backOf (W := 1) (rm10 l Z a0 hw [] b4 (own_bi R2.2.2.2.1) T18.heap n0 Z0 F_ended_b4) hZ (hw _ (List.mem_of_getElem? (i := 56) rfl)) (hw _ (List.mem_of_getElem? (i := 10) rfl)) (by decide) (by decide)) q24a q24c (g := (mkF m 220 #[.val (.int x0), .val (.int x1), .val (.int x2), .val (.int x3), .val (.ref b1), .val (.int t1), .val (.int m1), .val (.ref b2), .val (.int t2), .val (.int m2), .val (.ref b3), .val (.ref b4), .val (.int (nar .boolean (own_ov R1.2.2.2.2.2 (0 : Int32)))), .val (.int R1.2.1), .val (.int (1 : Int32)), .val (.int R2.1), .val (.int R2.1)] [(.ref b4), (.int (nar .boolean (own_bi R2.2.2.2.1)))])) rfl (by rw [hml]; rfl) (Steps.refl _) (argsL := []) (rest := [(.int (nar .boolean (own_bi R2.2.2.2.1)))]) (lenOf pd_5 rfl) rfl (by show 2 * 0 + _ ≤ _; exact Nat.le_of_eq rfl) (hb hby at_220) (fun _ _ => ⟨rfl, e23, (by decide : 4 + 0 ≤ _), (by decide : 16 + 0 ≤ _)⟩)
  dsimp only [Pt.U, Pt.locs, Pt.cells, Pt.slots] at X24 lq24 yq24 zq24 st24 hQ24
  subst yq24 zq24
  obtain ⟨rfl, N24q, hq24⟩ := hQ24
  have N0 : Fr n0 Lq24 := by rw [lq24]; exact Fr.app N0 N24q
  have e24 : T24.heap = T18.heap := hq24
  refine Dn.tr st24 ?_
  show Dn p e below s _ _ _ T24 (mkF m 223 #[.val (.int x0), .val (.int x1), .val (.int x2), .val (.int x3), .val (.ref b1), .val (.int t1), .val (.int m1), .val (.ref b2), .val (.int t2), .val (.int m2), .val (.ref b3), .val (.ref b4), .val (.int (nar .boolean (own_ov R1.2.2.2.2.2 (0 : Int32)))), .val (.int R1.2.1), .val (.int (1 : Int32)), .val (.int R2.1), .val (.int R2.1)] [(.int (nar .boolean (own_bi R2.2.2.2.1))), (.int (nar .boolean (own_bi R2.2.2.2.1)))])
  refine Dn.st (fun t q => XS.icmpNo X24.here hx rfl (hb hby at_223) rfl (teq rfl).2 q) ?_
  show Dn p e below s _ _ _ T24 (mkF m 226 #[.val (.int x0), .val (.int x1), .val (.int x2), .val (.int x3), .val (.ref b1), .val (.int t1), .val (.int m1), .val (.ref b2), .val (.int t2), .val (.int m2), .val (.ref b3), .val (.ref b4), .val (.int (nar .boolean (own_ov R1.2.2.2.2.2 (0 : Int32)))), .val (.int R1.2.1), .val (.int (1 : Int32)), .val (.int R2.1), .val (.int R2.1)] [])
  refine Dn.st (fun t q => XS.aload X24.here hx rfl (hb hby at_226) rfl rfl  q) ?_
  show Dn p e below s _ _ _ T24 (mkF m 228 #[.val (.int x0), .val (.int x1), .val (.int x2), .val (.int x3), .val (.ref b1), .val (.int t1), .val (.int m1), .val (.ref b2), .val (.int t2), .val (.int m2), .val (.ref b3), .val (.ref b4), .val (.int (nar .boolean (own_ov R1.2.2.2.2.2 (0 : Int32)))), .val (.int R1.2.1), .val (.int (1 : Int32)), .val (.int R2.1), .val (.int R2.1)] [(.ref b3)])
  obtain ⟨cq25, kq25, q25a, q25b, q25c⟩ := isOf hZ e24 E_b3
  obtain ⟨_, _, ⟨T25, Lq25, kq_25, nq_25⟩, -, X25, ⟨Lc25, hQ25, lq25, yq25, zq25⟩, st25⟩ := X24.virtualBack hx (y := (⟨"com/example/coppice/coppice/http/RequestHead$Line", "overflowed", "()Z"⟩ : MethodName)) (z := (⟨"com/example/coppice/coppice/http/RequestHead$Line", "overflowed", "()Z"⟩ : MethodName)) hown (mvT hZ (hw _ (List.mem_of_getElem? (i := 24) rfl))) (mvT hZ (hw _ (List.mem_of_getElem? (i := 25) rfl))) (notFace_of_selects (args := #[]) (mvT hZ (hw _ (List.mem_of_getElem? (i := 27) rfl)))) (mvT hZ (hw _ (List.mem_of_getElem? (i := 27) rfl))) (mvT hZ (hw _ (List.mem_of_getElem? (i := 26) rfl))) (by decide) (backOf (W := 0) (rm6 l Z a0 hw [] b3 (own_ov R2.2.2.2.2.2 (own_ov R1.2.2.2.2.2 (0 : Int32))) T18.heap n0 Z0 F_overflowed_b3) hZ (hw _ (List.mem_of_getElem? (i := 28) rfl)) (hw _ (List.mem_of_getElem? (i := 10) rfl)) (by decide) (by decide)) q25a q25c (g := (mkF m 228 #[.val (.int x0), .val (.int x1), .val (.int x2), .val (.int x3), .val (.ref b1), .val (.int t1), .val (.int m1), .val (.ref b2), .val (.int t2), .val (.int m2), .val (.ref b3), .val (.ref b4), .val (.int (nar .boolean (own_ov R1.2.2.2.2.2 (0 : Int32)))), .val (.int R1.2.1), .val (.int (1 : Int32)), .val (.int R2.1), .val (.int R2.1)] [(.ref b3)])) rfl (by rw [hml]; rfl) (Steps.refl _) (argsL := []) (rest := []) (lenOf pd_5 rfl) rfl (by show 2 * 0 + _ ≤ _; exact Nat.le_of_eq rfl) (hb hby at_228) (fun _ _ => ⟨rfl, e24, (by decide : 4 + 0 ≤ _), (by decide : 16 + 0 ≤ _)⟩)
  dsimp only [Pt.U, Pt.locs, Pt.cells, Pt.slots] at X25 lq25 yq25 zq25 st25 hQ25
  subst yq25 zq25
  obtain ⟨rfl, N25q, hq25⟩ := hQ25
  have N0 : Fr n0 Lq25 := by rw [lq25]; exact Fr.app N0 N25q
  have e25 : T25.heap = T18.heap := hq25
  refine Dn.tr st25 ?_
  show Dn p e below s _ _ _ T25 (mkF m 231 #[.val (.int x0), .val (.int x1), .val (.int x2), .val (.int x3), .val (.ref b1), .val (.int t1), .val (.int m1), .val (.ref b2), .val (.int t2), .val (.int m2), .val (.ref b3), .val (.ref b4), .val (.int (nar .boolean (own_ov R1.2.2.2.2.2 (0 : Int32)))), .val (.int R1.2.1), .val (.int (1 : Int32)), .val (.int R2.1), .val (.int R2.1)] [(.int (nar .boolean (own_ov R2.2.2.2.2.2 (own_ov R1.2.2.2.2.2 (0 : Int32)))))])
  refine Dn.st (fun t q => XS.iload X25.here hx rfl (hb hby at_231) rfl  q) ?_
  show Dn p e below s _ _ _ T25 (mkF m 233 #[.val (.int x0), .val (.int x1), .val (.int x2), .val (.int x3), .val (.ref b1), .val (.int t1), .val (.int m1), .val (.ref b2), .val (.int t2), .val (.int m2), .val (.ref b3), .val (.ref b4), .val (.int (nar .boolean (own_ov R1.2.2.2.2.2 (0 : Int32)))), .val (.int R1.2.1), .val (.int (1 : Int32)), .val (.int R2.1), .val (.int R2.1)] [(.int (nar .boolean (own_ov R1.2.2.2.2.2 (0 : Int32)))), (.int (nar .boolean (own_ov R2.2.2.2.2.2 (own_ov R1.2.2.2.2.2 (0 : Int32)))))])
  by_cases h1 : (nar .boolean (own_ov R1.2.2.2.2.2 (0 : Int32))) = (0 : Int32)
  · refine Dn.st (fun t q => XS.ifNo X25.here hx rfl (hb hby at_233) rfl ((if0 _ _).trans (teq h1).2) q) ?_
    show Dn p e below s _ _ _ T25 (mkF m 236 #[.val (.int x0), .val (.int x1), .val (.int x2), .val (.int x3), .val (.ref b1), .val (.int t1), .val (.int m1), .val (.ref b2), .val (.int t2), .val (.int m2), .val (.ref b3), .val (.ref b4), .val (.int (nar .boolean (own_ov R1.2.2.2.2.2 (0 : Int32)))), .val (.int R1.2.1), .val (.int (1 : Int32)), .val (.int R2.1), .val (.int R2.1)] [(.int (nar .boolean (own_ov R2.2.2.2.2.2 (own_ov R1.2.2.2.2.2 (0 : Int32)))))])
    refine Dn.st (fun t q => XS.aload X25.here hx rfl (hb hby at_236) rfl rfl  q) ?_
    show Dn p e below s _ _ _ T25 (mkF m 238 #[.val (.int x0), .val (.int x1), .val (.int x2), .val (.int x3), .val (.ref b1), .val (.int t1), .val (.int m1), .val (.ref b2), .val (.int t2), .val (.int m2), .val (.ref b3), .val (.ref b4), .val (.int (nar .boolean (own_ov R1.2.2.2.2.2 (0 : Int32)))), .val (.int R1.2.1), .val (.int (1 : Int32)), .val (.int R2.1), .val (.int R2.1)] [(.ref b4), (.int (nar .boolean (own_ov R2.2.2.2.2.2 (own_ov R1.2.2.2.2.2 (0 : Int32)))))])
    obtain ⟨cq26, kq26, q26a, q26b, q26c⟩ := isOf hZ e25 E_b4
    obtain ⟨_, _, ⟨T26, Lq26, kq_26, nq_26⟩, -, X26, ⟨Lc26, hQ26, lq26, yq26, zq26⟩, st26⟩ := X25.virtualBack hx (y := (⟨"com/example/coppice/coppice/http/RequestHead$Line", "overflowed", "()Z"⟩ : MethodName)) (z := (⟨"com/example/coppice/coppice/http/RequestHead$Line", "overflowed", "()Z"⟩ : MethodName)) hown (mvT hZ (hw _ (List.mem_of_getElem? (i := 24) rfl))) (mvT hZ (hw _ (List.mem_of_getElem? (i := 25) rfl))) (notFace_of_selects (args := #[]) (mvT hZ (hw _ (List.mem_of_getElem? (i := 27) rfl)))) (mvT hZ (hw _ (List.mem_of_getElem? (i := 27) rfl))) (mvT hZ (hw _ (List.mem_of_getElem? (i := 26) rfl))) (by decide) (backOf (W := 1) (rm6 l Z a0 hw [] b4 (own_ov R2.2.2.2.2.2 (0 : Int32)) T18.heap n0 Z0 F_overflowed_b4) hZ (hw _ (List.mem_of_getElem? (i := 28) rfl)) (hw _ (List.mem_of_getElem? (i := 10) rfl)) (by decide) (by decide)) q26a q26c (g := (mkF m 238 #[.val (.int x0), .val (.int x1), .val (.int x2), .val (.int x3), .val (.ref b1), .val (.int t1), .val (.int m1), .val (.ref b2), .val (.int t2), .val (.int m2), .val (.ref b3), .val (.ref b4), .val (.int (nar .boolean (own_ov R1.2.2.2.2.2 (0 : Int32)))), .val (.int R1.2.1), .val (.int (1 : Int32)), .val (.int R2.1), .val (.int R2.1)] [(.ref b4), (.int (nar .boolean (own_ov R2.2.2.2.2.2 (own_ov R1.2.2.2.2.2 (0 : Int32)))))])) rfl (by rw [hml]; rfl) (Steps.refl _) (argsL := []) (rest := [(.int (nar .boolean (own_ov R2.2.2.2.2.2 (own_ov R1.2.2.2.2.2 (0 : Int32)))))]) (lenOf pd_5 rfl) rfl (by show 2 * 0 + _ ≤ _; exact Nat.le_of_eq rfl) (hb hby at_238) (fun _ _ => ⟨rfl, e25, (by decide : 4 + 0 ≤ _), (by decide : 16 + 0 ≤ _)⟩)
    dsimp only [Pt.U, Pt.locs, Pt.cells, Pt.slots] at X26 lq26 yq26 zq26 st26 hQ26
    subst yq26 zq26
    obtain ⟨rfl, N26q, hq26⟩ := hQ26
    have N0 : Fr n0 Lq26 := by rw [lq26]; exact Fr.app N0 N26q
    have e26 : T26.heap = T18.heap := hq26
    refine Dn.tr st26 ?_
    show Dn p e below s _ _ _ T26 (mkF m 241 #[.val (.int x0), .val (.int x1), .val (.int x2), .val (.int x3), .val (.ref b1), .val (.int t1), .val (.int m1), .val (.ref b2), .val (.int t2), .val (.int m2), .val (.ref b3), .val (.ref b4), .val (.int (nar .boolean (own_ov R1.2.2.2.2.2 (0 : Int32)))), .val (.int R1.2.1), .val (.int (1 : Int32)), .val (.int R2.1), .val (.int R2.1)] [(.int (nar .boolean (own_ov R2.2.2.2.2.2 (0 : Int32)))), (.int (nar .boolean (own_ov R2.2.2.2.2.2 (own_ov R1.2.2.2.2.2 (0 : Int32)))))])
    by_cases h2 : (nar .boolean (own_ov R2.2.2.2.2.2 (0 : Int32))) = (0 : Int32)
    · refine Dn.st (fun t q => XS.ifYes X26.here hx rfl (pc0 := 241) (pc' := 248) rfl (hb hby at_241) rfl ((if0 _ _).trans (teq h2).1) (by decide) (by decide) q) ?_
      show Dn p e below s _ _ _ T26 (mkF m 248 #[.val (.int x0), .val (.int x1), .val (.int x2), .val (.int x3), .val (.ref b1), .val (.int t1), .val (.int m1), .val (.ref b2), .val (.int t2), .val (.int m2), .val (.ref b3), .val (.ref b4), .val (.int (nar .boolean (own_ov R1.2.2.2.2.2 (0 : Int32)))), .val (.int R1.2.1), .val (.int (1 : Int32)), .val (.int R2.1), .val (.int R2.1)] [(.int (nar .boolean (own_ov R2.2.2.2.2.2 (own_ov R1.2.2.2.2.2 (0 : Int32)))))])
      refine Dn.st (fun t q => XS.iconst X26.here hx rfl (hb hby at_248) q) ?_
      show Dn p e below s _ _ _ T26 (mkF m 249 #[.val (.int x0), .val (.int x1), .val (.int x2), .val (.int x3), .val (.ref b1), .val (.int t1), .val (.int m1), .val (.ref b2), .val (.int t2), .val (.int m2), .val (.ref b3), .val (.ref b4), .val (.int (nar .boolean (own_ov R1.2.2.2.2.2 (0 : Int32)))), .val (.int R1.2.1), .val (.int (1 : Int32)), .val (.int R2.1), .val (.int R2.1)] [(.int (0 : Int32)), (.int (nar .boolean (own_ov R2.2.2.2.2.2 (own_ov R1.2.2.2.2.2 (0 : Int32)))))])
      refine Dn.st (fun t q => XS.icmpNo X26.here hx rfl (hb hby at_249) rfl (teq (own_f00 R1.2.2.2.2.2 R2.2.2.2.2.2 h1 h2)).2 q) ?_
      show Dn p e below s _ _ _ T26 (mkF m 252 #[.val (.int x0), .val (.int x1), .val (.int x2), .val (.int x3), .val (.ref b1), .val (.int t1), .val (.int m1), .val (.ref b2), .val (.int t2), .val (.int m2), .val (.ref b3), .val (.ref b4), .val (.int (nar .boolean (own_ov R1.2.2.2.2.2 (0 : Int32)))), .val (.int R1.2.1), .val (.int (1 : Int32)), .val (.int R2.1), .val (.int R2.1)] [])
      refine Dn.st (fun t q => XS.iconst X26.here hx rfl (hb hby at_252) q) ?_
      show Dn p e below s _ _ _ T26 (mkF m 253 #[.val (.int x0), .val (.int x1), .val (.int x2), .val (.int x3), .val (.ref b1), .val (.int t1), .val (.int m1), .val (.ref b2), .val (.int t2), .val (.int m2), .val (.ref b3), .val (.ref b4), .val (.int (nar .boolean (own_ov R1.2.2.2.2.2 (0 : Int32)))), .val (.int R1.2.1), .val (.int (1 : Int32)), .val (.int R2.1), .val (.int R2.1)] [(.int (1 : Int32))])
      refine Dn.st (fun t q => XS.goto X26.here hx rfl (pc0 := 253) (pc' := 257) rfl (hb hby at_253) (by decide) (by decide) q) ?_
      show Dn p e below s _ _ _ T26 (mkF m 257 #[.val (.int x0), .val (.int x1), .val (.int x2), .val (.int x3), .val (.ref b1), .val (.int t1), .val (.int m1), .val (.ref b2), .val (.int t2), .val (.int m2), .val (.ref b3), .val (.ref b4), .val (.int (nar .boolean (own_ov R1.2.2.2.2.2 (0 : Int32)))), .val (.int R1.2.1), .val (.int (1 : Int32)), .val (.int R2.1), .val (.int R2.1)] [(.int (1 : Int32))])
      exact Dn.retZ X26 hx Bd.notSynchronized (t := .boolean) Bd.returns (by simp) (hb hby at_257) (by rw [e26]; exact ⟨rfl, N0⟩) (by decide) (by decide)
    · refine Dn.st (fun t q => XS.ifNo X26.here hx rfl (hb hby at_241) rfl ((if0 _ _).trans (feq h2).1) q) ?_
      show Dn p e below s _ _ _ T26 (mkF m 244 #[.val (.int x0), .val (.int x1), .val (.int x2), .val (.int x3), .val (.ref b1), .val (.int t1), .val (.int m1), .val (.ref b2), .val (.int t2), .val (.int m2), .val (.ref b3), .val (.ref b4), .val (.int (nar .boolean (own_ov R1.2.2.2.2.2 (0 : Int32)))), .val (.int R1.2.1), .val (.int (1 : Int32)), .val (.int R2.1), .val (.int R2.1)] [(.int (nar .boolean (own_ov R2.2.2.2.2.2 (own_ov R1.2.2.2.2.2 (0 : Int32)))))])
      refine Dn.st (fun t q => XS.iconst X26.here hx rfl (hb hby at_244) q) ?_
      show Dn p e below s _ _ _ T26 (mkF m 245 #[.val (.int x0), .val (.int x1), .val (.int x2), .val (.int x3), .val (.ref b1), .val (.int t1), .val (.int m1), .val (.ref b2), .val (.int t2), .val (.int m2), .val (.ref b3), .val (.ref b4), .val (.int (nar .boolean (own_ov R1.2.2.2.2.2 (0 : Int32)))), .val (.int R1.2.1), .val (.int (1 : Int32)), .val (.int R2.1), .val (.int R2.1)] [(.int (1 : Int32)), (.int (nar .boolean (own_ov R2.2.2.2.2.2 (own_ov R1.2.2.2.2.2 (0 : Int32)))))])
      refine Dn.st (fun t q => XS.goto X26.here hx rfl (pc0 := 245) (pc' := 249) rfl (hb hby at_245) (by decide) (by decide) q) ?_
      show Dn p e below s _ _ _ T26 (mkF m 249 #[.val (.int x0), .val (.int x1), .val (.int x2), .val (.int x3), .val (.ref b1), .val (.int t1), .val (.int m1), .val (.ref b2), .val (.int t2), .val (.int m2), .val (.ref b3), .val (.ref b4), .val (.int (nar .boolean (own_ov R1.2.2.2.2.2 (0 : Int32)))), .val (.int R1.2.1), .val (.int (1 : Int32)), .val (.int R2.1), .val (.int R2.1)] [(.int (1 : Int32)), (.int (nar .boolean (own_ov R2.2.2.2.2.2 (own_ov R1.2.2.2.2.2 (0 : Int32)))))])
      refine Dn.st (fun t q => XS.icmpNo X26.here hx rfl (hb hby at_249) rfl (teq (own_f01 R1.2.2.2.2.2 R2.2.2.2.2.2 h1 h2)).2 q) ?_
      show Dn p e below s _ _ _ T26 (mkF m 252 #[.val (.int x0), .val (.int x1), .val (.int x2), .val (.int x3), .val (.ref b1), .val (.int t1), .val (.int m1), .val (.ref b2), .val (.int t2), .val (.int m2), .val (.ref b3), .val (.ref b4), .val (.int (nar .boolean (own_ov R1.2.2.2.2.2 (0 : Int32)))), .val (.int R1.2.1), .val (.int (1 : Int32)), .val (.int R2.1), .val (.int R2.1)] [])
      refine Dn.st (fun t q => XS.iconst X26.here hx rfl (hb hby at_252) q) ?_
      show Dn p e below s _ _ _ T26 (mkF m 253 #[.val (.int x0), .val (.int x1), .val (.int x2), .val (.int x3), .val (.ref b1), .val (.int t1), .val (.int m1), .val (.ref b2), .val (.int t2), .val (.int m2), .val (.ref b3), .val (.ref b4), .val (.int (nar .boolean (own_ov R1.2.2.2.2.2 (0 : Int32)))), .val (.int R1.2.1), .val (.int (1 : Int32)), .val (.int R2.1), .val (.int R2.1)] [(.int (1 : Int32))])
      refine Dn.st (fun t q => XS.goto X26.here hx rfl (pc0 := 253) (pc' := 257) rfl (hb hby at_253) (by decide) (by decide) q) ?_
      show Dn p e below s _ _ _ T26 (mkF m 257 #[.val (.int x0), .val (.int x1), .val (.int x2), .val (.int x3), .val (.ref b1), .val (.int t1), .val (.int m1), .val (.ref b2), .val (.int t2), .val (.int m2), .val (.ref b3), .val (.ref b4), .val (.int (nar .boolean (own_ov R1.2.2.2.2.2 (0 : Int32)))), .val (.int R1.2.1), .val (.int (1 : Int32)), .val (.int R2.1), .val (.int R2.1)] [(.int (1 : Int32))])
      exact Dn.retZ X26 hx Bd.notSynchronized (t := .boolean) Bd.returns (by simp) (hb hby at_257) (by rw [e26]; exact ⟨rfl, N0⟩) (by decide) (by decide)
  · refine Dn.st (fun t q => XS.ifYes X25.here hx rfl (pc0 := 233) (pc' := 244) rfl (hb hby at_233) rfl ((if0 _ _).trans (feq h1).2) (by decide) (by decide) q) ?_
    show Dn p e below s _ _ _ T25 (mkF m 244 #[.val (.int x0), .val (.int x1), .val (.int x2), .val (.int x3), .val (.ref b1), .val (.int t1), .val (.int m1), .val (.ref b2), .val (.int t2), .val (.int m2), .val (.ref b3), .val (.ref b4), .val (.int (nar .boolean (own_ov R1.2.2.2.2.2 (0 : Int32)))), .val (.int R1.2.1), .val (.int (1 : Int32)), .val (.int R2.1), .val (.int R2.1)] [(.int (nar .boolean (own_ov R2.2.2.2.2.2 (own_ov R1.2.2.2.2.2 (0 : Int32)))))])
    refine Dn.st (fun t q => XS.iconst X25.here hx rfl (hb hby at_244) q) ?_
    show Dn p e below s _ _ _ T25 (mkF m 245 #[.val (.int x0), .val (.int x1), .val (.int x2), .val (.int x3), .val (.ref b1), .val (.int t1), .val (.int m1), .val (.ref b2), .val (.int t2), .val (.int m2), .val (.ref b3), .val (.ref b4), .val (.int (nar .boolean (own_ov R1.2.2.2.2.2 (0 : Int32)))), .val (.int R1.2.1), .val (.int (1 : Int32)), .val (.int R2.1), .val (.int R2.1)] [(.int (1 : Int32)), (.int (nar .boolean (own_ov R2.2.2.2.2.2 (own_ov R1.2.2.2.2.2 (0 : Int32)))))])
    refine Dn.st (fun t q => XS.goto X25.here hx rfl (pc0 := 245) (pc' := 249) rfl (hb hby at_245) (by decide) (by decide) q) ?_
    show Dn p e below s _ _ _ T25 (mkF m 249 #[.val (.int x0), .val (.int x1), .val (.int x2), .val (.int x3), .val (.ref b1), .val (.int t1), .val (.int m1), .val (.ref b2), .val (.int t2), .val (.int m2), .val (.ref b3), .val (.ref b4), .val (.int (nar .boolean (own_ov R1.2.2.2.2.2 (0 : Int32)))), .val (.int R1.2.1), .val (.int (1 : Int32)), .val (.int R2.1), .val (.int R2.1)] [(.int (1 : Int32)), (.int (nar .boolean (own_ov R2.2.2.2.2.2 (own_ov R1.2.2.2.2.2 (0 : Int32)))))])
    refine Dn.st (fun t q => XS.icmpNo X25.here hx rfl (hb hby at_249) rfl (teq (own_f1 R1.2.2.2.2.2 R2.2.2.2.2.2 h1)).2 q) ?_
    show Dn p e below s _ _ _ T25 (mkF m 252 #[.val (.int x0), .val (.int x1), .val (.int x2), .val (.int x3), .val (.ref b1), .val (.int t1), .val (.int m1), .val (.ref b2), .val (.int t2), .val (.int m2), .val (.ref b3), .val (.ref b4), .val (.int (nar .boolean (own_ov R1.2.2.2.2.2 (0 : Int32)))), .val (.int R1.2.1), .val (.int (1 : Int32)), .val (.int R2.1), .val (.int R2.1)] [])
    refine Dn.st (fun t q => XS.iconst X25.here hx rfl (hb hby at_252) q) ?_
    show Dn p e below s _ _ _ T25 (mkF m 253 #[.val (.int x0), .val (.int x1), .val (.int x2), .val (.int x3), .val (.ref b1), .val (.int t1), .val (.int m1), .val (.ref b2), .val (.int t2), .val (.int m2), .val (.ref b3), .val (.ref b4), .val (.int (nar .boolean (own_ov R1.2.2.2.2.2 (0 : Int32)))), .val (.int R1.2.1), .val (.int (1 : Int32)), .val (.int R2.1), .val (.int R2.1)] [(.int (1 : Int32))])
    refine Dn.st (fun t q => XS.goto X25.here hx rfl (pc0 := 253) (pc' := 257) rfl (hb hby at_253) (by decide) (by decide) q) ?_
    show Dn p e below s _ _ _ T25 (mkF m 257 #[.val (.int x0), .val (.int x1), .val (.int x2), .val (.int x3), .val (.ref b1), .val (.int t1), .val (.int m1), .val (.ref b2), .val (.int t2), .val (.int m2), .val (.ref b3), .val (.ref b4), .val (.int (nar .boolean (own_ov R1.2.2.2.2.2 (0 : Int32)))), .val (.int R1.2.1), .val (.int (1 : Int32)), .val (.int R2.1), .val (.int R2.1)] [(.int (1 : Int32))])
    exact Dn.retZ X25 hx Bd.notSynchronized (t := .boolean) Bd.returns (by simp) (hb hby at_257) (by rw [e25]; exact ⟨rfl, N0⟩) (by decide) (by decide)
set_option maxRecDepth 65536 in
set_option maxHeartbeats 40000000 in
theorem comes_1 {Post : Tables → Env → Array Value → State → Outcome → State → Prop} (hpost : ∀ tb e args s v u, (limb_1_1.after args s (.returned v) u = true ∧ limb_1_2.after args s (.returned v) u = true ∧ True) → FrameEnd s (.returned v) u (Jvm.fieldLocs frame_1_writes args s ++ Jvm.arrayLocs frame_1_arrays args s ++ Jvm.staticLocs frame_1_statics s) 16 128 → Post tb e args s (.returned v) u) :
    ArmFor flags0 classFile x code maxLocals ret World_1 tables_1 room_1 Calls_1 rest_1 Pre_1 Post := by
  intro l hfl _ _ p e ha hc hk s m args below hf hA hF happ hP
  obtain ⟨hcalls, hrest, hpre⟩ := hP
  obtain ⟨-, -, -, hnamed, -, -, -, hat⟩ := (Spec.applies_iff hf).mp happ
  obtain ⟨hg, hn⟩ := and_e (Cond.before_iff.mp (show (Jvm.Cond.and given_1 narrow_1).before args s = true from hpre))
  obtain ⟨g1, g2⟩ := and_e hg
  obtain ⟨g3, g4⟩ := and_e g2
  obtain ⟨g5, g6⟩ := and_e g4
  obtain ⟨g7, g8⟩ := and_e g6
  obtain ⟨w0, w1, w2, w3, rfl⟩ : ∃ w0 w1 w2 w3 : Value, args = #[w0, w1, w2, w3] := by
    have hs : args.size = 4 := by simpa [Cond.value, given_1] using g1
    obtain ⟨L⟩ := args
    match L, hs with
    | [w0, w1, w2, w3], _ => exact ⟨w0, w1, w2, w3, rfl⟩
  have hw := fun d (hd : d ∈ tables_1) => atoms_spec (ws := Jvm.Cond.code x code maxLocals ret :: tables_1) hat d (List.mem_cons_of_mem _ hd)
  obtain ⟨i0, ei0⟩ := is_v g3
  obtain rfl : w0 = (.int i0) := Option.some.inj ei0
  obtain ⟨i1, ei1⟩ := is_v g5
  obtain rfl : w1 = (.int i1) := Option.some.inj ei1
  obtain ⟨i2, ei2⟩ := is_v g7
  obtain rfl : w2 = (.int i2) := Option.some.inj ei2
  obtain ⟨i3, ei3⟩ := is_v g8
  obtain rfl : w3 = (.int i3) := Option.some.inj ei3
  obtain ⟨n, o, h1, h2, h3, _, L, rfl, ⟨rfl, N⟩, hq⟩ := rm0 l s _ hw tables_1 i0 i1 i2 i3 s.heap s.heap.size (Nat.le_refl _)  p e ha hc hk s m _ below hf ((Spec.applies_iff_loose hf).mp happ).1 ⟨rfl, State.Warmed39.refl s, rfl⟩ trivial
  refine ⟨n, _, h1, h2, h3, hpost _ _ _ _ _ _ ⟨Cond.after_iff.mpr rfl, Cond.after_iff.mpr (eq_i res_at (Term.int_eval (1)) rfl), trivial⟩ ⟨hq.1, hq.2.1, (hq.2.2.sift fun y hy => Or.inr (N y hy)).mono (by decide) (by decide)⟩⟩
theorem main_1_1 : Claimed_1_1 := comes_1 fun _ _ _ _ _ _ h hF => ⟨h.1, hF⟩
theorem main_1_2 : Claimed_1_2 := comes_1 fun _ _ _ _ _ _ h hF => ⟨h.2.1, hF⟩
end Jvm.Pilot.@@N@@
namespace Jvm.Pilot.@@N@@
open Jvm Jvm.ClassFile Sem Op Lib Jvm.Free Jvm.Stand Jvm.Pilot.@@N@@.Jvm.D
/-! MADE BY PROGRAM (witnessworld.py) out of the Statement's table words and the real class files: 10 classes; the members and pool entries that the words name. The judged class is class 1, her method 3. -/
namespace start1
open Jvm.ClassFile
def u (s : String) : CpInfo := .utf8 (stringToUtf16 s)
/-- a pool by its gaps: so many unusable entries, then the entry; so many at the end -/
def gap : Nat → List CpInfo → List CpInfo
  | 0, r => r
  | n + 1, r => .unusable :: gap n r
def poolList (es : List (Nat × CpInfo)) (last : Nat) : List CpInfo := es.foldr (fun e r => gap e.1 (e.2 :: r)) (gap last [])
def pool (es : List (Nat × CpInfo)) (last : Nat) : Array CpInfo := ⟨poolList es last⟩
def fileOf (pool : Array CpInfo) (this : Nat) (attrs : Array Attribute := #[]) (ms : Array MethodInfo := #[]) (fl : Nat := 33) (sup : Nat := 0) (ifs : Array Nat := #[]) (fds : Array FieldInfo := #[]) : ClassFile where
  minorVersion := 0
  majorVersion := 65
  constantPool := pool
  accessFlags := fl
  thisClass := this
  superClass := sup
  interfaces := ifs
  fields := fds
  methods := ms
  attributes := attrs
def plain (name : String) (sup : Option ClassId) : Class where
  name := name
  kind := .ordinary
  loader := none
  accessFlags := 33
  super := sup
  interfaces := #[]
  cf := none
  fields := #[]
  methods := #[]
  instanceTypes := #[]
  staticTypes := #[]
  resolved := #[]
  callSites := []
  init := .initialized
  statics := none
  mirror := none

def pool0 : Array CpInfo := pool [(5, u "<init>"), (0, u "()V"), (1, .class_ 10), (1, u "java/lang/Object")] 113

def k0c0 : Code := { maxStack := 0, maxLocals := 1, code := object_method_1_code, exceptionTable := #[], attributes := #[] }
def k0m0 : Method := { name := "<init>", desc := "()V", sig := { parameters := [], returnType := none }, accessFlags := 1, code := some k0c0 }
/-- java/lang/Object -/
def k0 : Class := { plain "java/lang/Object" none with
  accessFlags := 33
  interfaces := #[]
  cf := some (fileOf pool0 8 #[] #[{ accessFlags := 1, nameIndex := 5, descriptorIndex := 6, attributes := #[] }] 33 0 #[] #[])
  fields := #[]
  methods := #[k0m0]
  instanceTypes := #[]
  staticTypes := #[]
  resolved := Array.replicate 124 none
  statics := none }

def pool1 : Array CpInfo := pool [(2, .class_ 4), (0, .nameAndType 5 6), (0, u "java/lang/Object"), (0, u "<init>"), (0, u "()V"), (0, .methodref 8 9), (0, .class_ 10), (0, .nameAndType 11 12), (0, u "com/example/coppice/coppice/http/LineClearPinLaw"), (0, u "content"), (0, u "(I)B"), (0, .methodref 8 14), (0, .nameAndType 15 16), (0, u "bytes"), (0, u "(BI)[B"), (0, .class_ 18), (0, u "com/example/coppice/coppice/http/RequestHead$Line"), (0, .methodref 17 3), (0, .methodref 17 21), (0, .nameAndType 22 23), (0, u "take"), (0, u "([BIII)I"), (0, .methodref 17 25), (0, .nameAndType 26 27), (0, u "overflowed"), (0, u "()Z"), (0, .methodref 17 29), (0, .nameAndType 30 31), (0, u "lastRun"), (0, u "()I"), (0, .methodref 17 33), (0, .nameAndType 34 6), (0, u "clear"), (0, .methodref 17 36), (0, .nameAndType 37 31), (0, u "length"), (0, .methodref 17 39), (0, .nameAndType 40 27), (0, u "ended"), (5, u "law"), (0, u "(IIII)Z")] 9

def k1m0 : Method := { name := "<init>", desc := "()V", sig := { parameters := [], returnType := none }, accessFlags := 2, code := none }
def k1c1 : Code := { maxStack := 2, maxLocals := 2, code := method_2_code, exceptionTable := #[], attributes := #[] }
def k1m1 : Method := { name := "content", desc := "(I)B", sig := { parameters := [.int], returnType := some .byte }, accessFlags := 10, code := some k1c1 }
def k1c2 : Code := { maxStack := 3, maxLocals := 3, code := method_3_code, exceptionTable := #[], attributes := #[] }
def k1m2 : Method := { name := "bytes", desc := "(BI)[B", sig := { parameters := [.byte, .int], returnType := some (.array .byte) }, accessFlags := 10, code := some k1c2 }
def k1c3 : Code := { maxStack := 5, maxLocals := 17, code := code, exceptionTable := #[], attributes := #[] }
def k1m3 : Method := { name := "law", desc := "(IIII)Z", sig := { parameters := [.int, .int, .int, .int], returnType := some .boolean }, accessFlags := 9, code := some k1c3 }
/-- com/example/coppice/coppice/http/LineClearPinLaw -/
def k1 : Class := { plain "com/example/coppice/coppice/http/LineClearPinLaw" (some 0) with
  accessFlags := 49
  interfaces := #[]
  cf := some (fileOf pool1 8 #[] #[{ accessFlags := 2, nameIndex := 5, descriptorIndex := 6, attributes := #[] }, { accessFlags := 10, nameIndex := 11, descriptorIndex := 12, attributes := #[] }, { accessFlags := 10, nameIndex := 15, descriptorIndex := 16, attributes := #[] }, { accessFlags := 9, nameIndex := 46, descriptorIndex := 47, attributes := #[] }] 49 2 #[] #[])
  fields := #[]
  methods := #[k1m0, k1m1, k1m2, k1m3]
  instanceTypes := #[]
  staticTypes := #[]
  resolved := Array.replicate 57 none
  statics := none }

def pool2 : Array CpInfo := pool [(1, .methodref 2 3), (0, .class_ 4), (0, .nameAndType 5 6), (0, u "java/lang/Object"), (0, u "<init>"), (0, u "()V"), (0, .fieldref 8 9), (0, .class_ 10), (0, .nameAndType 11 12), (0, u "com/example/coppice/coppice/http/RequestHead$Line"), (0, u "lastRun"), (0, u "I"), (0, .fieldref 8 14), (0, .nameAndType 15 16), (0, u "ended"), (0, u "Z"), (0, .fieldref 8 18), (0, .nameAndType 19 16), (0, u "afterCr"), (4, .fieldref 8 25), (0, .nameAndType 26 12), (0, u "length"), (0, .methodref 28 29), (0, .class_ 30), (0, .nameAndType 31 32), (0, u "java/lang/Math"), (0, u "min"), (0, u "(II)I"), (0, .fieldref 8 34), (0, .nameAndType 35 16), (0, u "overflowed"), (3, .class_ 41), (1, u "com/example/coppice/coppice/http/RequestHead"), (4, u "take"), (0, u "([BIII)I"), (4, u "()Z"), (0, u "()I"), (0, u "clear")] 6

def k2c0 : Code := { maxStack := 1, maxLocals := 1, code := prog_28_method_1_code, exceptionTable := #[], attributes := #[] }
def k2m0 : Method := { name := "<init>", desc := "()V", sig := { parameters := [], returnType := none }, accessFlags := 0, code := some k2c0 }
def k2c1 : Code := { maxStack := 3, maxLocals := 9, code := prog_28_method_2_code, exceptionTable := #[], attributes := #[] }
def k2m1 : Method := { name := "take", desc := "([BIII)I", sig := { parameters := [(.array .byte), .int, .int, .int], returnType := some .int }, accessFlags := 0, code := some k2c1 }
def k2c2 : Code := { maxStack := 1, maxLocals := 1, code := prog_28_method_4_code, exceptionTable := #[], attributes := #[] }
def k2m2 : Method := { name := "ended", desc := "()Z", sig := { parameters := [], returnType := some .boolean }, accessFlags := 0, code := some k2c2 }
def k2c3 : Code := { maxStack := 1, maxLocals := 1, code := prog_28_method_5_code, exceptionTable := #[], attributes := #[] }
def k2m3 : Method := { name := "overflowed", desc := "()Z", sig := { parameters := [], returnType := some .boolean }, accessFlags := 0, code := some k2c3 }
def k2c4 : Code := { maxStack := 1, maxLocals := 1, code := prog_28_method_6_code, exceptionTable := #[], attributes := #[] }
def k2m4 : Method := { name := "length", desc := "()I", sig := { parameters := [], returnType := some .int }, accessFlags := 0, code := some k2c4 }
def k2c5 : Code := { maxStack := 1, maxLocals := 1, code := prog_28_method_7_code, exceptionTable := #[], attributes := #[] }
def k2m5 : Method := { name := "lastRun", desc := "()I", sig := { parameters := [], returnType := some .int }, accessFlags := 0, code := some k2c5 }
def k2c6 : Code := { maxStack := 2, maxLocals := 1, code := prog_28_method_8_code, exceptionTable := #[], attributes := #[] }
def k2m6 : Method := { name := "clear", desc := "()V", sig := { parameters := [], returnType := none }, accessFlags := 0, code := some k2c6 }
/-- com/example/coppice/coppice/http/RequestHead$Line -/
def k2 : Class := { plain "com/example/coppice/coppice/http/RequestHead$Line" (some 0) with
  accessFlags := 48
  interfaces := #[]
  cf := some (fileOf pool2 8 #[.nestHost 39] #[{ accessFlags := 0, nameIndex := 5, descriptorIndex := 6, attributes := #[] }, { accessFlags := 0, nameIndex := 46, descriptorIndex := 47, attributes := #[] }, { accessFlags := 0, nameIndex := 15, descriptorIndex := 52, attributes := #[] }, { accessFlags := 0, nameIndex := 35, descriptorIndex := 52, attributes := #[] }, { accessFlags := 0, nameIndex := 26, descriptorIndex := 53, attributes := #[] }, { accessFlags := 0, nameIndex := 11, descriptorIndex := 53, attributes := #[] }, { accessFlags := 0, nameIndex := 54, descriptorIndex := 6, attributes := #[] }] 48 2 #[] #[{ accessFlags := 2, nameIndex := 26, descriptorIndex := 12, attributes := #[] }, { accessFlags := 2, nameIndex := 11, descriptorIndex := 12, attributes := #[] }, { accessFlags := 2, nameIndex := 19, descriptorIndex := 16, attributes := #[] }, { accessFlags := 2, nameIndex := 15, descriptorIndex := 16, attributes := #[] }, { accessFlags := 2, nameIndex := 35, descriptorIndex := 16, attributes := #[] }])
  fields := #[{ name := "length", type := .int, accessFlags := 2, slot := 0, constantValue := 0 }, { name := "lastRun", type := .int, accessFlags := 2, slot := 1, constantValue := 0 }, { name := "afterCr", type := .boolean, accessFlags := 2, slot := 2, constantValue := 0 }, { name := "ended", type := .boolean, accessFlags := 2, slot := 3, constantValue := 0 }, { name := "overflowed", type := .boolean, accessFlags := 2, slot := 4, constantValue := 0 }]
  methods := #[k2m0, k2m1, k2m2, k2m3, k2m4, k2m5, k2m6]
  instanceTypes := #[.int, .int, .boolean, .boolean, .boolean]
  staticTypes := #[]
  resolved := Array.replicate 61 none
  statics := none }

def pool3 : Array CpInfo := pool [(1, .class_ 2), (0, u "java/lang/Math"), (1, .class_ 6), (1, u "java/lang/Object"), (0, u "<init>"), (0, u "()V"), (89, .class_ 100), (1, u "java/lang/Math$RandomNumberGeneratorHolder"), (71, u "negativeZeroFloatBits"), (0, u "J"), (2, u "negativeZeroDoubleBits"), (24, u "min"), (43, u "$assertionsDisabled"), (0, u "Z"), (88, u "(II)I"), (2, u "twoToTheDoubleScaleDown"), (0, u "D"), (4, u "twoToTheDoubleScaleUp"), (9, u "E"), (3, u "PI"), (2, u "TAU"), (2, u "DEGREES_TO_RADIANS"), (0, u "RADIANS_TO_DEGREES")] 94

def k3m0 : Method := { name := "<init>", desc := "()V", sig := { parameters := [], returnType := none }, accessFlags := 2, code := none }
def k3c1 : Code := { maxStack := 2, maxLocals := 2, code := jdk_29_method_69_code, exceptionTable := #[], attributes := #[] }
def k3m1 : Method := { name := "min", desc := "(II)I", sig := { parameters := [.int, .int], returnType := some .int }, accessFlags := 9, code := some k3c1 }
/-- java/lang/Math -/
def k3 : Class := { plain "java/lang/Math" (some 0) with
  accessFlags := 49
  interfaces := #[]
  cf := some (fileOf pool3 1 #[.nestMembers #[98]] #[{ accessFlags := 2, nameIndex := 7, descriptorIndex := 8, attributes := #[] }, { accessFlags := 9, nameIndex := 201, descriptorIndex := 335, attributes := #[] }] 49 4 #[] #[{ accessFlags := 25, nameIndex := 354, descriptorIndex := 339, attributes := #[] }, { accessFlags := 25, nameIndex := 358, descriptorIndex := 339, attributes := #[] }, { accessFlags := 25, nameIndex := 361, descriptorIndex := 339, attributes := #[] }, { accessFlags := 26, nameIndex := 364, descriptorIndex := 339, attributes := #[] }, { accessFlags := 26, nameIndex := 365, descriptorIndex := 339, attributes := #[] }, { accessFlags := 26, nameIndex := 172, descriptorIndex := 173, attributes := #[] }, { accessFlags := 26, nameIndex := 176, descriptorIndex := 173, attributes := #[] }, { accessFlags := 8, nameIndex := 344, descriptorIndex := 339, attributes := #[] }, { accessFlags := 8, nameIndex := 338, descriptorIndex := 339, attributes := #[] }, { accessFlags := 4120, nameIndex := 245, descriptorIndex := 246, attributes := #[] }])
  fields := #[{ name := "E", type := .double, accessFlags := 25, slot := 0, constantValue := 0 }, { name := "PI", type := .double, accessFlags := 25, slot := 1, constantValue := 0 }, { name := "TAU", type := .double, accessFlags := 25, slot := 2, constantValue := 0 }, { name := "DEGREES_TO_RADIANS", type := .double, accessFlags := 26, slot := 3, constantValue := 0 }, { name := "RADIANS_TO_DEGREES", type := .double, accessFlags := 26, slot := 4, constantValue := 0 }, { name := "negativeZeroFloatBits", type := .long, accessFlags := 26, slot := 5, constantValue := 0 }, { name := "negativeZeroDoubleBits", type := .long, accessFlags := 26, slot := 6, constantValue := 0 }, { name := "twoToTheDoubleScaleUp", type := .double, accessFlags := 8, slot := 7, constantValue := 0 }, { name := "twoToTheDoubleScaleDown", type := .double, accessFlags := 8, slot := 8, constantValue := 0 }, { name := "$assertionsDisabled", type := .boolean, accessFlags := 4120, slot := 9, constantValue := 0 }]
  methods := #[k3m0, k3m1]
  instanceTypes := #[]
  staticTypes := #[.double, .double, .double, .double, .double, .long, .long, .double, .double, .boolean]
  resolved := Array.replicate 460 none
  statics := none }

def pool4 : Array CpInfo := pool [(1, u "java/lang/Cloneable"), (0, .class_ 1), (0, u "java/lang/Object"), (0, .class_ 3)] 3

/-- java/lang/Cloneable -/
def k4 : Class := { plain "java/lang/Cloneable" (some 0) with
  accessFlags := 1537
  interfaces := #[]
  cf := some (fileOf pool4 2 #[] #[] 1537 4 #[] #[])
  fields := #[]
  methods := #[]
  instanceTypes := #[]
  staticTypes := #[]
  resolved := Array.replicate 8 none
  statics := none }

def pool5 : Array CpInfo := pool [(1, u "java/io/Serializable"), (0, .class_ 1), (0, u "java/lang/Object"), (0, .class_ 3)] 3

/-- java/io/Serializable -/
def k5 : Class := { plain "java/io/Serializable" (some 0) with
  accessFlags := 1537
  interfaces := #[]
  cf := some (fileOf pool5 2 #[] #[] 1537 4 #[] #[])
  fields := #[]
  methods := #[]
  instanceTypes := #[]
  staticTypes := #[]
  resolved := Array.replicate 8 none
  statics := none }

/-- the primitive byte -/
def k6 : Class := { plain "byte" none with kind := .primitive 'B', accessFlags := 0x411 }
/-- [B -/
def k7 : Class := { plain "[B" (some 0) with kind := .array 6 .byte, interfaces := #[4, 5], accessFlags := 1041 }

/-- the primitive int -/
def k8 : Class := { plain "int" none with kind := .primitive 'I', accessFlags := 0x411 }
/-- [I -/
def k9 : Class := { plain "[I" (some 0) with kind := .array 8 .int, interfaces := #[4, 5], accessFlags := 1041 }

def heap : Heap := #[]
def classes : Array Class := #[k0, k1, k2, k3, k4, k5, k6, k7, k8, k9]
def interned : List (Array UInt16 × Addr) := []
def slotsUsed : Nat := 0
def theMethod : MethodId := ⟨1, 3⟩
def args0 : Array Value := #[.int 5, .int 5, .int 5, .int 5]
def aboutOver (below : List Frame) : State where
  vm := { classes := classes, interned := interned.toArray }
  heap := heap
  slotsUsed := slotsUsed
  threads := #[{ frames := .invoking theMethod args0 :: below }]
def below0 : List Frame := [.native { method := ⟨0, 0⟩, args := #[] }]
def about1 : State := aboutOver below0
def p0 : Program := .bare "" "" ""
def e0 : Env := launch0.env 0 0 0
theorem w_frames : about1.frames = Frame.invoking theMethod args0 :: below0 := rfl
set_option maxRecDepth 65536 in
theorem w_args : argsFit about1.vm theMethod args0 = true := by decide +kernel
set_option maxRecDepth 65536 in
theorem w_heap : heapFits about1 = true := by decide +kernel
set_option maxRecDepth 65536 in
theorem w_runnable : about1.curStatus? = some .runnable := by decide +kernel
set_option maxRecDepth 65536 in
theorem w_alone : about1.alone = true := by decide +kernel
set_option maxRecDepth 65536 in
theorem w_named : about1.methodNamed? x = some theMethod := by decide +kernel
set_option maxRecDepth 65536 in
theorem w_hears : about1.hears theMethod below0 = true := by decide +kernel
set_option maxRecDepth 65536 in
theorem w_ripe : about1.ripe theMethod args0 below0 = true := by decide +kernel
theorem w_running : about1.status = .running := rfl
set_option maxRecDepth 65536 in
theorem w_room : about1.hasRoom e0.platform room_1 = true :=
  launch0.hasRoom_least _ room_1 (by decide +kernel) (by decide +kernel) (by decide +kernel) (by decide +kernel) (by decide +kernel) (by decide +kernel)
theorem allAtoms_all (ts : List Jvm.Cond) (a : Array Jvm.Value) (st : Jvm.State) : (allAtoms ts).before a st = ts.all (fun c => c.before a st) := by
  induction ts with
  | nil => rfl
  | cons c t ih =>
    show (Jvm.Cond.and c (allAtoms t)).before a st = _
    rw [Jvm.Cond.before_and, ih, List.all_cons]
def words1 : List Jvm.Cond := Jvm.Cond.code x code maxLocals ret :: tables_1
/-- a 'code' word, met by the world's own term for the bytes: nothing is compared byte by byte -/
theorem code_word {y : MethodName} {bytes : ByteArray} {mx : Nat} {rt : Option FieldType} {a : Array Value} {s : State} {m : MethodId} {meth : Method} {c : Code} (h1 : s.methodNamed? y = some m) (h2 : s.vm.method? m = some meth) (h3 : meth.code = some c) (h4 : c.code = bytes)
    (h5 : (c.maxLocals == mx && c.exceptionTable.isEmpty && decide (c.maxStack ≤ mostOperands) && decide (meth.sig.returnType = rt) && !meth.locks && decide (parseMethodDescriptor y.desc = some meth.sig)) = true) : (Jvm.Cond.code y bytes mx rt).before a s = true := by
  simp only [Bool.and_eq_true, beq_iff_eq, Bool.not_eq_true', decide_eq_true_eq] at h5
  obtain ⟨⟨⟨⟨⟨g1, g2⟩, g3⟩, g4⟩, g5⟩, g6⟩ := h5
  simp [Cond.before, Cond.holds, Cond.value, h1, h2, h3, h4, g1, g2, g3, g4, g5, g6]
def isCode : Jvm.Cond → Bool
  | .code _ _ _ _ => true
  | _ => false
theorem all_split {L : List Jvm.Cond} {P : Jvm.Cond → Bool} (h1 : L.all (fun c => isCode c || P c) = true) (h2 : ∀ c ∈ L.filter isCode, P c = true) : L.all P = true := by
  refine List.all_eq_true.mpr fun c hc => ?_
  have h := List.all_eq_true.mp h1 c hc
  rcases Bool.eq_false_or_eq_true (isCode c) with hi | hi
  · exact h2 c (List.mem_filter.mpr ⟨hc, hi⟩)
  · simpa [hi] using h
set_option maxRecDepth 65536 in
theorem w_c0 : (Jvm.Cond.code x code maxLocals ret).before args0 about1 = true := code_word (m := ⟨1, 3⟩) (meth := k1m3) (c := k1c3) (by decide +kernel) rfl rfl rfl (by decide +kernel)
set_option maxRecDepth 65536 in
theorem w_c1 : (Jvm.Cond.code ({ cls := "com/example/coppice/coppice/http/LineClearPinLaw", name := "content", desc := "(I)B" } : Jvm.MethodName) method_2_code (2 : Nat) (Option.some Jvm.ClassFile.FieldType.byte)).before args0 about1 = true := code_word (m := ⟨1, 1⟩) (meth := k1m1) (c := k1c1) (by decide +kernel) rfl rfl rfl (by decide +kernel)
set_option maxRecDepth 65536 in
theorem w_c2 : (Jvm.Cond.code ({ cls := "com/example/coppice/coppice/http/LineClearPinLaw", name := "bytes", desc := "(BI)[B" } : Jvm.MethodName) method_3_code (3 : Nat) (Option.some (Jvm.ClassFile.FieldType.array Jvm.ClassFile.FieldType.byte))).before args0 about1 = true := code_word (m := ⟨1, 2⟩) (meth := k1m2) (c := k1c2) (by decide +kernel) rfl rfl rfl (by decide +kernel)
set_option maxRecDepth 65536 in
theorem w_c3 : (Jvm.Cond.code ({ cls := "com/example/coppice/coppice/http/RequestHead$Line", name := "<init>", desc := "()V" } : Jvm.MethodName) prog_28_method_1_code (1 : Nat) (Option.none : Option Jvm.ClassFile.FieldType)).before args0 about1 = true := code_word (m := ⟨2, 0⟩) (meth := k2m0) (c := k2c0) (by decide +kernel) rfl rfl rfl (by decide +kernel)
set_option maxRecDepth 65536 in
theorem w_c4 : (Jvm.Cond.code ({ cls := "java/lang/Object", name := "<init>", desc := "()V" } : Jvm.MethodName) object_method_1_code (1 : Nat) (Option.none : Option Jvm.ClassFile.FieldType)).before args0 about1 = true := code_word (m := ⟨0, 0⟩) (meth := k0m0) (c := k0c0) (by decide +kernel) rfl rfl rfl (by decide +kernel)
set_option maxRecDepth 65536 in
theorem w_c5 : (Jvm.Cond.code ({ cls := "com/example/coppice/coppice/http/RequestHead$Line", name := "take", desc := "([BIII)I" } : Jvm.MethodName) prog_28_method_2_code (9 : Nat) (Option.some Jvm.ClassFile.FieldType.int)).before args0 about1 = true := code_word (m := ⟨2, 1⟩) (meth := k2m1) (c := k2c1) (by decide +kernel) rfl rfl rfl (by decide +kernel)
set_option maxRecDepth 65536 in
theorem w_c6 : (Jvm.Cond.code ({ cls := "com/example/coppice/coppice/http/RequestHead$Line", name := "overflowed", desc := "()Z" } : Jvm.MethodName) prog_28_method_5_code (1 : Nat) (Option.some Jvm.ClassFile.FieldType.boolean)).before args0 about1 = true := code_word (m := ⟨2, 3⟩) (meth := k2m3) (c := k2c3) (by decide +kernel) rfl rfl rfl (by decide +kernel)
set_option maxRecDepth 65536 in
theorem w_c7 : (Jvm.Cond.code ({ cls := "com/example/coppice/coppice/http/RequestHead$Line", name := "lastRun", desc := "()I" } : Jvm.MethodName) prog_28_method_7_code (1 : Nat) (Option.some Jvm.ClassFile.FieldType.int)).before args0 about1 = true := code_word (m := ⟨2, 5⟩) (meth := k2m5) (c := k2c5) (by decide +kernel) rfl rfl rfl (by decide +kernel)
set_option maxRecDepth 65536 in
theorem w_c8 : (Jvm.Cond.code ({ cls := "com/example/coppice/coppice/http/RequestHead$Line", name := "clear", desc := "()V" } : Jvm.MethodName) prog_28_method_8_code (1 : Nat) (Option.none : Option Jvm.ClassFile.FieldType)).before args0 about1 = true := code_word (m := ⟨2, 6⟩) (meth := k2m6) (c := k2c6) (by decide +kernel) rfl rfl rfl (by decide +kernel)
set_option maxRecDepth 65536 in
theorem w_c9 : (Jvm.Cond.code ({ cls := "com/example/coppice/coppice/http/RequestHead$Line", name := "length", desc := "()I" } : Jvm.MethodName) prog_28_method_6_code (1 : Nat) (Option.some Jvm.ClassFile.FieldType.int)).before args0 about1 = true := code_word (m := ⟨2, 4⟩) (meth := k2m4) (c := k2c4) (by decide +kernel) rfl rfl rfl (by decide +kernel)
set_option maxRecDepth 65536 in
theorem w_c10 : (Jvm.Cond.code ({ cls := "com/example/coppice/coppice/http/RequestHead$Line", name := "ended", desc := "()Z" } : Jvm.MethodName) prog_28_method_4_code (1 : Nat) (Option.some Jvm.ClassFile.FieldType.boolean)).before args0 about1 = true := code_word (m := ⟨2, 2⟩) (meth := k2m2) (c := k2c2) (by decide +kernel) rfl rfl rfl (by decide +kernel)
set_option maxRecDepth 65536 in
theorem w_c11 : (Jvm.Cond.code ({ cls := "java/lang/Math", name := "min", desc := "(II)I" } : Jvm.MethodName) jdk_29_method_69_code (2 : Nat) (Option.some Jvm.ClassFile.FieldType.int)).before args0 about1 = true := code_word (m := ⟨3, 1⟩) (meth := k3m1) (c := k3c1) (by decide +kernel) rfl rfl rfl (by decide +kernel)
def codes1 : List Jvm.Cond := [Jvm.Cond.code x code maxLocals ret, Jvm.Cond.code ({ cls := "com/example/coppice/coppice/http/LineClearPinLaw", name := "content", desc := "(I)B" } : Jvm.MethodName) method_2_code (2 : Nat) (Option.some Jvm.ClassFile.FieldType.byte), Jvm.Cond.code ({ cls := "com/example/coppice/coppice/http/LineClearPinLaw", name := "bytes", desc := "(BI)[B" } : Jvm.MethodName) method_3_code (3 : Nat) (Option.some (Jvm.ClassFile.FieldType.array Jvm.ClassFile.FieldType.byte)), Jvm.Cond.code ({ cls := "com/example/coppice/coppice/http/RequestHead$Line", name := "<init>", desc := "()V" } : Jvm.MethodName) prog_28_method_1_code (1 : Nat) (Option.none : Option Jvm.ClassFile.FieldType), Jvm.Cond.code ({ cls := "java/lang/Object", name := "<init>", desc := "()V" } : Jvm.MethodName) object_method_1_code (1 : Nat) (Option.none : Option Jvm.ClassFile.FieldType), Jvm.Cond.code ({ cls := "com/example/coppice/coppice/http/RequestHead$Line", name := "take", desc := "([BIII)I" } : Jvm.MethodName) prog_28_method_2_code (9 : Nat) (Option.some Jvm.ClassFile.FieldType.int), Jvm.Cond.code ({ cls := "com/example/coppice/coppice/http/RequestHead$Line", name := "overflowed", desc := "()Z" } : Jvm.MethodName) prog_28_method_5_code (1 : Nat) (Option.some Jvm.ClassFile.FieldType.boolean), Jvm.Cond.code ({ cls := "com/example/coppice/coppice/http/RequestHead$Line", name := "lastRun", desc := "()I" } : Jvm.MethodName) prog_28_method_7_code (1 : Nat) (Option.some Jvm.ClassFile.FieldType.int), Jvm.Cond.code ({ cls := "com/example/coppice/coppice/http/RequestHead$Line", name := "clear", desc := "()V" } : Jvm.MethodName) prog_28_method_8_code (1 : Nat) (Option.none : Option Jvm.ClassFile.FieldType), Jvm.Cond.code ({ cls := "com/example/coppice/coppice/http/RequestHead$Line", name := "length", desc := "()I" } : Jvm.MethodName) prog_28_method_6_code (1 : Nat) (Option.some Jvm.ClassFile.FieldType.int), Jvm.Cond.code ({ cls := "com/example/coppice/coppice/http/RequestHead$Line", name := "ended", desc := "()Z" } : Jvm.MethodName) prog_28_method_4_code (1 : Nat) (Option.some Jvm.ClassFile.FieldType.boolean), Jvm.Cond.code ({ cls := "java/lang/Math", name := "min", desc := "(II)I" } : Jvm.MethodName) jdk_29_method_69_code (2 : Nat) (Option.some Jvm.ClassFile.FieldType.int)]
set_option maxRecDepth 65536 in
theorem codes_eq : words1.filter isCode = codes1 := rfl
theorem w_codes : ∀ c ∈ words1.filter isCode, c.before args0 about1 = true := by
  rw [codes_eq]
  intro c hc
  simp only [codes1, List.mem_cons, List.not_mem_nil, or_false] at hc
  rcases hc with rfl | rfl | rfl | rfl | rfl | rfl | rfl | rfl | rfl | rfl | rfl | rfl
  · exact w_c0
  · exact w_c1
  · exact w_c2
  · exact w_c3
  · exact w_c4
  · exact w_c5
  · exact w_c6
  · exact w_c7
  · exact w_c8
  · exact w_c9
  · exact w_c10
  · exact w_c11
set_option maxRecDepth 65536 in
theorem w_t1 : (words1.take 24).all (fun c => isCode c || c.before args0 about1) = true := by decide +kernel
set_option maxRecDepth 65536 in
theorem w_t2 : ((words1.drop 24).take 24).all (fun c => isCode c || c.before args0 about1) = true := by decide +kernel
set_option maxRecDepth 65536 in
theorem w_t3 : ((words1.drop 24).drop 24).all (fun c => isCode c || c.before args0 about1) = true := by decide +kernel
theorem w_tables : (allAtoms (Jvm.Cond.code x code maxLocals ret :: tables_1)).before args0 about1 = true := by
  rw [allAtoms_all]
  show words1.all (fun c => c.before args0 about1) = true
  refine all_split ?_ w_codes
  rw [← List.take_append_drop 24 words1, List.all_append, w_t1, ← List.take_append_drop 24 (words1.drop 24), List.all_append, w_t2, w_t3]
  rfl
set_option maxRecDepth 65536 in
theorem w_case : (Jvm.Cond.and given_1 narrow_1).before args0 about1 = true := by decide +kernel
theorem w_applies : (headSpec (Jvm.Cond.code x code maxLocals ret :: tables_1) room_1).applies x e0.platform about1 = true :=
  (Spec.applies_iff w_frames).mpr ⟨w_running, w_runnable, w_alone, w_named, w_hears, w_ripe, w_room, w_tables⟩
theorem atStart : AtStart classFile x code maxLocals ret World_1 tables_1 room_1 Calls_1 rest_1 Pre_1 launch0 p0 e0 about1 theMethod args0 below0 :=
  ⟨lists_1, trivial, launch0.admits_env _ _ _, launch0.least_env, fairChoices_fair.cas, fairChoices_fair.clock, w_frames, w_args, w_heap, w_applies, trivial, trivial, w_case⟩
end start1
theorem witness_1 : WitnessClaimed_1 := ⟨start1.p0, start1.e0, start1.about1, start1.theMethod, start1.args0, start1.below0, start1.atStart⟩
end Jvm.Pilot.@@N@@
