import JvmDerived
import JvmDerived.Pilot.@@N@@Statement
import JvmDerived.Pilot.@@N@@Code
set_option linter.unusedVariables false
set_option linter.unusedSimpArgs false
namespace Jvm.Pilot.@@N@@
open Jvm Jvm.ClassFile Sem Op Lib Jvm.Free Jvm.Stand Jvm.LawKit Jvm.RoadKit Bundle Jvm.Pilot.@@N@@.Jvm.D
/-! THE OWN KIT: a walk in small steps to the body's end -/
/-- from T with the frame g on top the body comes to its end, and what it leaves fulfils Q -/
def Dn (p : Program) (e : Env) (below : List Frame) (s : State) (Q : Option Value → Heap → List Loc → Prop) (k n : Nat) (T : State) (g : JFrame) : Prop :=
  ∃ s₂ o, Steps p.tables e below (T.setTop g) s₂ ∧ s₂.status = .running ∧ Ended s₂ below o ∧ ∃ v L, o = .returned v ∧ Q v s₂.heap L ∧ FrameEnd s o s₂ L k n
section OwnKit
variable {p : Program} {l : Launch} {e : Env} {R : Room} {s : State} {m : MethodId} {args : Array Value} {below : List Frame} {meth : Method} {c : Code} {T T' : State} {locs : List Loc} {cells slots : Nat} {Z : State} {h h' : Heap} {g g' : JFrame} {k n : Nat} {Q : Option Value → Heap → List Loc → Prop}
theorem Dn.st (f : ∀ t, Steps p.tables e below (T'.setTop g') t → Steps p.tables e below (T.setTop g) t) (d : Dn p e below s Q k n T' g') : Dn p e below s Q k n T g := by
  obtain ⟨s₂, o, h1, h2⟩ := d
  exact ⟨s₂, o, f _ h1, h2⟩
theorem Dn.tr (f : Steps p.tables e below (T.setTop g) (T'.setTop g')) (d : Dn p e below s Q k n T' g') : Dn p e below s Q k n T g := by
  obtain ⟨s₂, o, h1, h2⟩ := d
  exact ⟨s₂, o, f.trans h1, h2⟩
theorem Dn.cast (q : g = g') (d : Dn p e below s Q k n T g') : Dn p e below s Q k n T g := q ▸ d
theorem Dn.retI (X : Stand p l e R s m args below meth c T locs cells slots) (hx : p.tables.exec = Jvm.exec) (hk : meth.locks = false) {pc : Nat} {Ls : Array Slot} {z : Int32} {rest : List Value} (hret : meth.sig.returnType = some .int) (hd : decode c.code pc = .ok (.ireturn, 1)) (hQ : Q (some (.int z)) T.heap locs) (hc : cells ≤ k) (hs : slots ≤ n) :
    Dn p e below s Q k n T (mkF m pc Ls (.int z :: rest)) := by
  obtain ⟨fs, hr, hrun, hended, hW, hsame⟩ := X.leave (v := some (.int z)) (fun q => by rw [hret] at q; cases q) hk
  exact ⟨_, _, retOut X hx hret rfl (Or.inl ⟨rfl, Or.inl rfl, z, rfl⟩) hd hr, hrun, hended, _, _, rfl, hQ, ⟨_, rfl⟩, hW, hsame.mono hc hs⟩
theorem Dn.retZ (X : Stand p l e R s m args below meth c T locs cells slots) (hx : p.tables.exec = Jvm.exec) (hk : meth.locks = false) {pc : Nat} {Ls : Array Slot} {z : Int32} {t : FieldType} {rest : List Value} (hret : meth.sig.returnType = some t) (ht : t = .boolean ∨ t = .byte ∨ t = .char ∨ t = .short) (hd : decode c.code pc = .ok (.ireturn, 1)) (hQ : Q (some (.int (nar t z))) T.heap locs) (hc : cells ≤ k) (hs : slots ≤ n) :
    Dn p e below s Q k n T (mkF m pc Ls (.int z :: rest)) := by
  obtain ⟨fs, hr, hrun, hended, hW, hsame⟩ := X.leave (v := some (.int (nar t z))) (fun q => by rw [hret] at q; cases q) hk
  exact ⟨_, _, retN X hx hret ht hd hr, hrun, hended, _, _, rfl, hQ, ⟨_, rfl⟩, hW, hsame.mono hc hs⟩
theorem Dn.retJ (X : Stand p l e R s m args below meth c T locs cells slots) (hx : p.tables.exec = Jvm.exec) (hk : meth.locks = false) {pc : Nat} {Ls : Array Slot} {z : Int64} {rest : List Value} (hret : meth.sig.returnType = some .long) (hd : decode c.code pc = .ok (.lreturn, 1)) (hQ : Q (some (.long z)) T.heap locs) (hc : cells ≤ k) (hs : slots ≤ n) :
    Dn p e below s Q k n T (mkF m pc Ls (.long z :: rest)) := by
  obtain ⟨fs, hr, hrun, hended, hW, hsame⟩ := X.leave (v := some (.long z)) (fun q => by rw [hret] at q; cases q) hk
  exact ⟨_, _, retOut X hx hret rfl (Or.inr (Or.inl ⟨rfl, rfl, z, rfl⟩)) hd hr, hrun, hended, _, _, rfl, hQ, ⟨_, rfl⟩, hW, hsame.mono hc hs⟩
theorem Dn.retA (X : Stand p l e R s m args below meth c T locs cells slots) (hx : p.tables.exec = Jvm.exec) (hk : meth.locks = false) {pc : Nat} {Ls : Array Slot} {a : Addr} {t : FieldType} {rest : List Value} (hret : meth.sig.returnType = some t) (ht : t.isReference = true) (hn : narrow t (.ref a) = .ref a) (hd : decode c.code pc = .ok (.areturn, 1)) (hQ : Q (some (.ref a)) T.heap locs) (hc : cells ≤ k) (hs : slots ≤ n) :
    Dn p e below s Q k n T (mkF m pc Ls (.ref a :: rest)) := by
  obtain ⟨fs, hr, hrun, hended, hW, hsame⟩ := X.leave (v := some (.ref a)) (fun q => by rw [hret] at q; cases q) hk
  exact ⟨_, _, retOut X hx hret hn (Or.inr (Or.inr (Or.inr (Or.inr ⟨rfl, ht, rfl⟩)))) hd hr, hrun, hended, _, _, rfl, hQ, ⟨_, rfl⟩, hW, hsame.mono hc hs⟩
theorem Dn.retV (X : Stand p l e R s m args below meth c T locs cells slots) (hx : p.tables.exec = Jvm.exec) (hk : meth.locks = false) {pc : Nat} {Ls : Array Slot} (hret : meth.sig.returnType = none) (hd : decode c.code pc = .ok (.return_, 1)) (hQ : Q none T.heap locs) (hc : cells ≤ k) (hs : slots ≤ n) :
    Dn p e below s Q k n T (mkF m pc Ls []) := by
  obtain ⟨fs, hr, hrun, hended, hW, hsame⟩ := X.leave (v := none) (fun _ => rfl) hk
  exact ⟨_, _, X.returnOut hx hret hd hr, hrun, hended, _, _, rfl, hQ, ⟨_, rfl⟩, hW, hsame.mono hc hs⟩
theorem own_ne {a b : Addr} {j : Nat} (q : a < j) (r : b = j) : a ≠ b := fun e => absurd (e.trans r) (Nat.ne_of_lt q)
theorem own_ne' {a b : Addr} {j : Nat} (q : a < j) (r : j ≤ b) : a ≠ b := Nat.ne_of_lt (Nat.lt_of_lt_of_le q r)
theorem own_self {s : State} {args : Array Value} {y : MethodName} {n : Nat} (wi : (Jvm.Cond.instantiable y.cls n).before args s = true) (wp : (Jvm.Cond.privateMethod y).before args s = true) (hinst : (Jvm.Cond.instanceMethod y).before args s = true) (hy : y.cls ≠ "java/lang/invoke/MethodHandle" ∧ y.cls ≠ "java/lang/invoke/VarHandle") : (Jvm.Cond.selects y.cls y y).before args s = true := by
  obtain ⟨c, k, h1, h2, -, h4, -⟩ := Jvm.Cond.instantiable_spec wi
  exact selects_self_of_private h1 h2 (Bool.or_eq_false_iff.mp h4).1 (Jvm.Cond.privateMethod_at wp) hinst hy
end OwnKit
theorem d2_0 : decode jdk_30_method_1_code 0 = .ok (.aload_n 0, 1) := by decide +kernel
theorem d2_1 : decode jdk_30_method_1_code 1 = .ok (.invokespecial 1, 3) := by decide +kernel
theorem d2_4 : decode jdk_30_method_1_code 4 = .ok (.return_, 1) := by decide +kernel
theorem pn_0 : plainName "java/lang/Record" = true := by first | (simp [plainName, overriddenIn]; done) | decide +kernel
theorem ef_rm2 (m : MethodId) (x0 : Addr) : entryFrame m #[(.ref x0)] 1 = mkF m 0 #[.val (.ref x0)] [] := by first | (simp [entryFrame, mkF, argsToLocals, Value.category]; done) | rfl
def Q2 (Z : State) (a1 : Addr) (h0 : Heap) (n0 : Nat) (v : Option Value) (h : Heap) (L : List Loc) : Prop := v = none ∧ Fr n0 L ∧ h = h0
set_option maxRecDepth 65536 in
set_option maxHeartbeats 40000000 in
theorem rm2 (l : Launch) (Z : State) (a0 : Array Value) (hw : ∀ d ∈ tables_1, d.before a0 Z = true) (ws : List Jvm.Cond) (a1 : Addr) (h0 : Heap) (n0 : Nat) (Z0 : n0 ≤ h0.size) :
    MetFree l (⟨"java/lang/Record", "<init>", "()V"⟩ : MethodName) (head1 (Jvm.Cond.code (⟨"java/lang/Record", "<init>", "()V"⟩ : MethodName) jdk_30_method_1_code 1 none :: ws) ({ frames := 1, cells := 0, slots := 0, locals := 12 } : Room)) (fun a U => a = #[(.ref a1)] ∧ Z.Warmed39 U.vm ∧ U.heap = h0) (fun _ _ _ _ _ => True) (fun _ U o U' => ∃ v L, o = .returned v ∧ Q2 Z a1 h0 n0 v U'.heap L ∧ FrameEnd U o U' L ({ frames := 1, cells := 0, slots := 0, locals := 12 } : Room).cells ({ frames := 1, cells := 0, slots := 0, locals := 12 } : Room).slots) := by
  refine MetFree.of_bodySF (plainFor_of_name pn_0) hisR ?_
  intro p e s m args below meth c s₁ Bd hml0 hP hK
  obtain ⟨rfl, hZ, hh⟩ := hP
  have hx := Bd.exec
  have hby := Bd.bytes
  have hml : c.maxLocals = 1 := hml0
  have hown : s.vm.findClass "java/lang/Record" = some m.cls := findClass_of_methodNamed Bd.named
  have hnm := (name_of_methodNamed Bd.named Bd.method).1
  have X0 : Stand p l e ({ frames := 1, cells := 0, slots := 0, locals := 12 } : Room) s m #[(.ref a1)] below meth c s₁ [] 0 0 := Stand.of_body Bd
  have e0 : s₁.heap = h0 := by rw [← hh, Bd.state]; rfl
  have N0 := Fr.nil n0
  have K0 := Keep.refl h0 []
  suffices hD : Dn p e below s (Q2 Z a1 h0 n0) ({ frames := 1, cells := 0, slots := 0, locals := 12 } : Room).cells ({ frames := 1, cells := 0, slots := 0, locals := 12 } : Room).slots s₁ (mkF m 0 #[.val (.ref a1)] []) from by
    obtain ⟨s₂, o, q1, q2⟩ := hD
    exact ⟨s₂, o, castTop (ef_rm2 m a1) q1, q2⟩
  refine Dn.st (fun t q => XS.aloadN X0.here hx rfl (hb hby d2_0) rfl rfl  q) ?_
  show Dn p e below s _ _ _ s₁ (mkF m 1 #[.val (.ref a1)] [(.ref a1)])
  obtain ⟨T1, X1, e1, st1⟩ := initO X0 hx hZ hown (hw _ (List.mem_of_getElem? (i := 11) rfl)) (hw _ (List.mem_of_getElem? (i := 12) rfl)) (hw _ (List.mem_of_getElem? (i := 13) rfl)) e0 (g := (mkF m 1 #[.val (.ref a1)] [(.ref a1)])) rfl (by rw [hml]; rfl) rfl (hb hby d2_1) (by decide) (W := 0) (by show 2 * 0 + _ ≤ _; exact Nat.le_of_eq rfl) (by decide)
  refine Dn.st st1 ?_
  show Dn p e below s _ _ _ T1 (mkF m 4 #[.val (.ref a1)] [])
  exact Dn.retV X1 hx Bd.notSynchronized Bd.returns (hb hby d2_4) (by rw [e1]; exact ⟨rfl, N0, rfl⟩) (by decide) (by decide)
theorem d1_0 : decode prog_6_method_1_code 0 = .ok (.aload_n 0, 1) := by decide +kernel
theorem d1_1 : decode prog_6_method_1_code 1 = .ok (.invokespecial 1, 3) := by decide +kernel
theorem pd_0 : parseMethodDescriptor "()V" = some ⟨[], none⟩ := by decide +kernel
theorem d1_4 : decode prog_6_method_1_code 4 = .ok (.aload_n 0, 1) := by decide +kernel
theorem d1_5 : decode prog_6_method_1_code 5 = .ok (.lload_n 1, 1) := by decide +kernel
theorem d1_6 : decode prog_6_method_1_code 6 = .ok (.putfield 7, 3) := by decide +kernel
theorem d1_9 : decode prog_6_method_1_code 9 = .ok (.aload_n 0, 1) := by decide +kernel
theorem d1_10 : decode prog_6_method_1_code 10 = .ok (.lload_n 3, 1) := by decide +kernel
theorem d1_11 : decode prog_6_method_1_code 11 = .ok (.putfield 13, 3) := by decide +kernel
theorem d1_14 : decode prog_6_method_1_code 14 = .ok (.return_, 1) := by decide +kernel
theorem pn_1 : plainName "com/example/timed_hold/timedhold/Counts" = true := by first | (simp [plainName, overriddenIn]; done) | decide +kernel
theorem ef_rm1 (m : MethodId) (x0 : Addr) (x1 : Int64) (x2 : Int64) : entryFrame m #[(.ref x0), (.long x1), (.long x2)] 5 = mkF m 0 #[.val (.ref x0), .val (.long x1), .second, .val (.long x2), .second] [] := by first | (simp [entryFrame, mkF, argsToLocals, Value.category]; done) | rfl
def Q1 (Z : State) (a1 : Addr) (y1 : Int64) (y2 : Int64) (u0 : Value) (u1 : Value) (h0 : Heap) (n0 : Nat) (v : Option Value) (h : Heap) (L : List Loc) : Prop := v = none ∧ Fr n0 L ∧ Keep h0 h [a1] ∧ Fld Z h a1 "com/example/timed_hold/timedhold/Counts" "held" "J" (.long y1) ∧ Fld Z h a1 "com/example/timed_hold/timedhold/Counts" "confirmed" "J" (.long y2)
set_option maxRecDepth 65536 in
set_option maxHeartbeats 40000000 in
theorem rm1 (l : Launch) (Z : State) (a0 : Array Value) (hw : ∀ d ∈ tables_1, d.before a0 Z = true) (ws : List Jvm.Cond) (a1 : Addr) (y1 : Int64) (y2 : Int64) (u0 : Value) (u1 : Value) (h0 : Heap) (n0 : Nat) (Z0 : n0 ≤ h0.size) (E_a1 : Exa Z h0 a1 "com/example/timed_hold/timedhold/Counts") (F_held : Fld Z h0 a1 "com/example/timed_hold/timedhold/Counts" "held" "J" u0) (F_confirmed : Fld Z h0 a1 "com/example/timed_hold/timedhold/Counts" "confirmed" "J" u1) (g_a1 : n0 ≤ a1) :
    MetFree l (⟨"com/example/timed_hold/timedhold/Counts", "<init>", "(JJ)V"⟩ : MethodName) (head1 (Jvm.Cond.code (⟨"com/example/timed_hold/timedhold/Counts", "<init>", "(JJ)V"⟩ : MethodName) prog_6_method_1_code 5 none :: ws) ({ frames := 2, cells := 0, slots := 0, locals := 24 } : Room)) (fun a U => a = #[(.ref a1), (.long y1), (.long y2)] ∧ Z.Warmed39 U.vm ∧ U.heap = h0) (fun _ _ _ _ _ => True) (fun _ U o U' => ∃ v L, o = .returned v ∧ Q1 Z a1 y1 y2 u0 u1 h0 n0 v U'.heap L ∧ FrameEnd U o U' L ({ frames := 2, cells := 0, slots := 0, locals := 24 } : Room).cells ({ frames := 2, cells := 0, slots := 0, locals := 24 } : Room).slots) := by
  refine MetFree.of_bodySF (plainFor_of_name pn_1) hisR ?_
  intro p e s m args below meth c s₁ Bd hml0 hP hK
  obtain ⟨rfl, hZ, hh⟩ := hP
  have hx := Bd.exec
  have hby := Bd.bytes
  have hml : c.maxLocals = 5 := hml0
  have hown : s.vm.findClass "com/example/timed_hold/timedhold/Counts" = some m.cls := findClass_of_methodNamed Bd.named
  have hnm := (name_of_methodNamed Bd.named Bd.method).1
  have X0 : Stand p l e ({ frames := 2, cells := 0, slots := 0, locals := 24 } : Room) s m #[(.ref a1), (.long y1), (.long y2)] below meth c s₁ [] 0 0 := Stand.of_body Bd
  have e0 : s₁.heap = h0 := by rw [← hh, Bd.state]; rfl
  have N0 := Fr.nil n0
  have K0 := Keep.refl h0 [a1]
  suffices hD : Dn p e below s (Q1 Z a1 y1 y2 u0 u1 h0 n0) ({ frames := 2, cells := 0, slots := 0, locals := 24 } : Room).cells ({ frames := 2, cells := 0, slots := 0, locals := 24 } : Room).slots s₁ (mkF m 0 #[.val (.ref a1), .val (.long y1), .second, .val (.long y2), .second] []) from by
    obtain ⟨s₂, o, q1, q2⟩ := hD
    exact ⟨s₂, o, castTop (ef_rm1 m a1 y1 y2) q1, q2⟩
  refine Dn.st (fun t q => XS.aloadN X0.here hx rfl (hb hby d1_0) rfl rfl  q) ?_
  show Dn p e below s _ _ _ s₁ (mkF m 1 #[.val (.ref a1), .val (.long y1), .second, .val (.long y2), .second] [(.ref a1)])
  obtain ⟨_, _, ⟨T1, Lq1, kq_1, nq_1⟩, -, X1, ⟨Lc1, hQ1, lq1, yq1, zq1⟩, st1⟩ := X0.specialBack hx (y := (⟨"java/lang/Record", "<init>", "()V"⟩ : MethodName)) rfl hown (mvT hZ (hw _ (List.mem_of_getElem? (i := 6) rfl))) (mvT hZ (hw _ (List.mem_of_getElem? (i := 7) rfl))) (mvT hZ (hw _ (List.mem_of_getElem? (i := 10) rfl))) (by decide) (backOf (W := 0) (rm2 l Z a0 hw [] a1  h0 n0 Z0 ) hZ (hw _ (List.mem_of_getElem? (i := 10) rfl)) (hw _ (List.mem_of_getElem? (i := 9) rfl)) (by decide) (by decide)) (g := (mkF m 1 #[.val (.ref a1), .val (.long y1), .second, .val (.long y2), .second] [(.ref a1)])) rfl (by rw [hml]; rfl) (Steps.refl _) (a := a1) (argsL := []) (rest := []) (lenOf pd_0 rfl) rfl (by show 2 * 0 + _ ≤ _; exact Nat.le_of_eq rfl) (hb hby d1_1) (fun _ _ => ⟨rfl, e0, (by decide : 0 + 0 ≤ _), (by decide : 0 + 0 ≤ _)⟩)
  dsimp only [Pt.U, Pt.locs, Pt.cells, Pt.slots] at X1 lq1 yq1 zq1 st1 hQ1
  subst lq1 yq1 zq1
  obtain ⟨rfl, N1q, hq1⟩ := hQ1
  have N0 := Fr.app N0 N1q
  have e1 : T1.heap = h0 := hq1
  refine Dn.tr st1 ?_
  show Dn p e below s _ _ _ T1 (mkF m 4 #[.val (.ref a1), .val (.long y1), .second, .val (.long y2), .second] [])
  refine Dn.st (fun t q => XS.aloadN X1.here hx rfl (hb hby d1_4) rfl rfl  q) ?_
  show Dn p e below s _ _ _ T1 (mkF m 5 #[.val (.ref a1), .val (.long y1), .second, .val (.long y2), .second] [(.ref a1)])
  refine Dn.st (fun t q => XS.lloadN X1.here hx rfl (hb hby d1_5) rfl  q) ?_
  show Dn p e below s _ _ _ T1 (mkF m 6 #[.val (.ref a1), .val (.long y1), .second, .val (.long y2), .second] [(.long y1), (.ref a1)])
  obtain ⟨T2, h2, X2, e2, W2, st2⟩ := putF X1 hx hZ hown (host := "") (Or.inl (hw _ (List.mem_of_getElem? (i := 14) rfl))) Via.refl e1 F_held E_a1 (Or.inr ⟨(hw _ (List.mem_of_getElem? (i := 15) rfl)), rfl, hnm⟩) (hw _ (List.mem_of_getElem? (i := 1) rfl)) (ty := .long) (by decide) rfl rfl (g := (mkF m 6 #[.val (.ref a1), .val (.long y1), .second, .val (.long y2), .second] [(.long y1), (.ref a1)])) rfl rfl (hb hby d1_6)
  have N0 := Fr.snoc X2 N0 g_a1
  have Z0 := Nat.le_trans Z0 (Keep.of_wr W2).1
  have K0 := K0.wr W2 (Or.inl (List.mem_of_getElem? (i := 0) rfl))
  have E_a1 := E_a1.wr W2
  have F_held := F_held.same W2
  have F_confirmed := F_confirmed.other W2 (Or.inr (slot_ne (Or.inr (hw _ (List.mem_of_getElem? (i := 17) rfl))) (Or.inr (hw _ (List.mem_of_getElem? (i := 15) rfl))) (by decide) (t := .long) (t' := .long) (by decide) (by decide)))
  refine Dn.st st2 ?_
  show Dn p e below s _ _ _ T2 (mkF m 9 #[.val (.ref a1), .val (.long y1), .second, .val (.long y2), .second] [])
  refine Dn.st (fun t q => XS.aloadN X2.here hx rfl (hb hby d1_9) rfl rfl  q) ?_
  show Dn p e below s _ _ _ T2 (mkF m 10 #[.val (.ref a1), .val (.long y1), .second, .val (.long y2), .second] [(.ref a1)])
  refine Dn.st (fun t q => XS.lloadN X2.here hx rfl (hb hby d1_10) rfl  q) ?_
  show Dn p e below s _ _ _ T2 (mkF m 11 #[.val (.ref a1), .val (.long y1), .second, .val (.long y2), .second] [(.long y2), (.ref a1)])
  obtain ⟨T3, h3, X3, e3, W3, st3⟩ := putF X2 hx hZ hown (host := "") (Or.inl (hw _ (List.mem_of_getElem? (i := 16) rfl))) Via.refl e2 F_confirmed E_a1 (Or.inr ⟨(hw _ (List.mem_of_getElem? (i := 17) rfl)), rfl, hnm⟩) (hw _ (List.mem_of_getElem? (i := 1) rfl)) (ty := .long) (by decide) rfl rfl (g := (mkF m 11 #[.val (.ref a1), .val (.long y1), .second, .val (.long y2), .second] [(.long y2), (.ref a1)])) rfl rfl (hb hby d1_11)
  have N0 := Fr.snoc X3 N0 g_a1
  have Z0 := Nat.le_trans Z0 (Keep.of_wr W3).1
  have K0 := K0.wr W3 (Or.inl (List.mem_of_getElem? (i := 0) rfl))
  have E_a1 := E_a1.wr W3
  have F_held := F_held.other W3 (Or.inr (slot_ne (Or.inr (hw _ (List.mem_of_getElem? (i := 15) rfl))) (Or.inr (hw _ (List.mem_of_getElem? (i := 17) rfl))) (by decide) (t := .long) (t' := .long) (by decide) (by decide)))
  have F_confirmed := F_confirmed.same W3
  refine Dn.st st3 ?_
  show Dn p e below s _ _ _ T3 (mkF m 14 #[.val (.ref a1), .val (.long y1), .second, .val (.long y2), .second] [])
  exact Dn.retV X3 hx Bd.notSynchronized Bd.returns (hb hby d1_14) (by rw [e3]; exact ⟨rfl, N0, K0, F_held, F_confirmed⟩) (by decide) (by decide)
theorem d4_0 : decode prog_6_method_3_code 0 = .ok (.new 8, 3) := by decide +kernel
theorem d4_3 : decode prog_6_method_3_code 3 = .ok (.dup, 1) := by decide +kernel
theorem d4_4 : decode prog_6_method_3_code 4 = .ok (.aload_n 0, 1) := by decide +kernel
theorem d4_5 : decode prog_6_method_3_code 5 = .ok (.getfield 7, 3) := by decide +kernel
theorem d4_8 : decode prog_6_method_3_code 8 = .ok (.aload_n 1, 1) := by decide +kernel
theorem d4_9 : decode prog_6_method_3_code 9 = .ok (.getfield 7, 3) := by decide +kernel
theorem d4_12 : decode prog_6_method_3_code 12 = .ok (.ladd, 1) := by decide +kernel
theorem d4_13 : decode prog_6_method_3_code 13 = .ok (.aload_n 0, 1) := by decide +kernel
theorem d4_14 : decode prog_6_method_3_code 14 = .ok (.getfield 13, 3) := by decide +kernel
theorem d4_17 : decode prog_6_method_3_code 17 = .ok (.aload_n 1, 1) := by decide +kernel
theorem d4_18 : decode prog_6_method_3_code 18 = .ok (.getfield 13, 3) := by decide +kernel
theorem d4_21 : decode prog_6_method_3_code 21 = .ok (.ladd, 1) := by decide +kernel
theorem d4_22 : decode prog_6_method_3_code 22 = .ok (.invokespecial 16, 3) := by decide +kernel
theorem pd_1 : parseMethodDescriptor "(JJ)V" = some ⟨[.long, .long], none⟩ := by decide +kernel
theorem d4_25 : decode prog_6_method_3_code 25 = .ok (.areturn, 1) := by decide +kernel
theorem ef_rm4 (m : MethodId) (x0 : Addr) (x1 : Addr) : entryFrame m #[(.ref x0), (.ref x1)] 2 = mkF m 0 #[.val (.ref x0), .val (.ref x1)] [] := by first | (simp [entryFrame, mkF, argsToLocals, Value.category]; done) | rfl
def Q4 (Z : State) (a1 : Addr) (a2 : Addr) (y1 : Int64) (y2 : Int64) (y3 : Int64) (y4 : Int64) (h0 : Heap) (n0 : Nat) (v : Option Value) (h : Heap) (L : List Loc) : Prop := ∃ b : Addr, v = some (.ref b) ∧ Fr n0 L ∧ Keep h0 h [] ∧ h0.size ≤ b ∧ Exa Z h b "com/example/timed_hold/timedhold/Counts" ∧ Fld Z h b "com/example/timed_hold/timedhold/Counts" "held" "J" (.long (y1 + y3)) ∧ Fld Z h b "com/example/timed_hold/timedhold/Counts" "confirmed" "J" (.long (y2 + y4))
set_option maxRecDepth 65536 in
set_option maxHeartbeats 40000000 in
theorem rm4 (l : Launch) (Z : State) (a0 : Array Value) (hw : ∀ d ∈ tables_1, d.before a0 Z = true) (ws : List Jvm.Cond) (a1 : Addr) (a2 : Addr) (y1 : Int64) (y2 : Int64) (y3 : Int64) (y4 : Int64) (h0 : Heap) (n0 : Nat) (Z0 : n0 ≤ h0.size) (F_held_a1 : Fld Z h0 a1 "com/example/timed_hold/timedhold/Counts" "held" "J" (.long y1)) (F_confirmed_a1 : Fld Z h0 a1 "com/example/timed_hold/timedhold/Counts" "confirmed" "J" (.long y2)) (F_held_a2 : Fld Z h0 a2 "com/example/timed_hold/timedhold/Counts" "held" "J" (.long y3)) (F_confirmed_a2 : Fld Z h0 a2 "com/example/timed_hold/timedhold/Counts" "confirmed" "J" (.long y4)) :
    MetFree l (⟨"com/example/timed_hold/timedhold/Counts", "plus", "(Lcom/example/timed_hold/timedhold/Counts;)Lcom/example/timed_hold/timedhold/Counts;"⟩ : MethodName) (head1 (Jvm.Cond.code (⟨"com/example/timed_hold/timedhold/Counts", "plus", "(Lcom/example/timed_hold/timedhold/Counts;)Lcom/example/timed_hold/timedhold/Counts;"⟩ : MethodName) prog_6_method_3_code 2 (some (.object "com/example/timed_hold/timedhold/Counts")) :: ws) ({ frames := 3, cells := 1, slots := 2, locals := 41 } : Room)) (fun a U => a = #[(.ref a1), (.ref a2)] ∧ Z.Warmed39 U.vm ∧ U.heap = h0) (fun _ _ _ _ _ => True) (fun _ U o U' => ∃ v L, o = .returned v ∧ Q4 Z a1 a2 y1 y2 y3 y4 h0 n0 v U'.heap L ∧ FrameEnd U o U' L ({ frames := 3, cells := 1, slots := 2, locals := 41 } : Room).cells ({ frames := 3, cells := 1, slots := 2, locals := 41 } : Room).slots) := by
  refine MetFree.of_bodySF (plainFor_of_name pn_1) hisR ?_
  intro p e s m args below meth c s₁ Bd hml0 hP hK
  obtain ⟨rfl, hZ, hh⟩ := hP
  have hx := Bd.exec
  have hby := Bd.bytes
  have hml : c.maxLocals = 2 := hml0
  have hown : s.vm.findClass "com/example/timed_hold/timedhold/Counts" = some m.cls := findClass_of_methodNamed Bd.named
  have hnm := (name_of_methodNamed Bd.named Bd.method).1
  have X0 : Stand p l e ({ frames := 3, cells := 1, slots := 2, locals := 41 } : Room) s m #[(.ref a1), (.ref a2)] below meth c s₁ [] 0 0 := Stand.of_body Bd
  have e0 : s₁.heap = h0 := by rw [← hh, Bd.state]; rfl
  have N0 := Fr.nil n0
  have K0 := Keep.refl h0 []
  suffices hD : Dn p e below s (Q4 Z a1 a2 y1 y2 y3 y4 h0 n0) ({ frames := 3, cells := 1, slots := 2, locals := 41 } : Room).cells ({ frames := 3, cells := 1, slots := 2, locals := 41 } : Room).slots s₁ (mkF m 0 #[.val (.ref a1), .val (.ref a2)] []) from by
    obtain ⟨s₂, o, q1, q2⟩ := hD
    exact ⟨s₂, o, castTop (ef_rm4 m a1 a2) q1, q2⟩
  obtain ⟨T1, h1, X1, e1, E1, A1, D1, -, st1⟩ := newO X0 hx hZ hown (hw _ (List.mem_of_getElem? (i := 23) rfl)) (hw _ (List.mem_of_getElem? (i := 1) rfl)) (hw _ (List.mem_of_getElem? (i := 2) rfl)) e0 (g := (mkF m 0 #[.val (.ref a1), .val (.ref a2)] [])) rfl (hb hby d4_0) (by decide) (by decide)
  obtain ⟨b1, g1⟩ : ∃ z, z = h0.size := ⟨_, rfl⟩
  rw [← g1] at A1 D1 st1
  have ne_a1_b1 : a1 ≠ b1 := own_ne F_held_a1.lt g1
  have ne_a2_b1 : a2 ≠ b1 := own_ne F_held_a2.lt g1
  have g_b1 : n0 ≤ b1 := Nat.le_trans Z0 (Nat.le_of_eq g1.symm)
  have sz_b1 : h0.size ≤ b1 := Nat.le_trans K0.1 (Nat.le_of_eq g1.symm)
  have Z0 := Nat.le_trans Z0 E1.1
  have K0 := K0.ext E1
  have F_held_a1 := F_held_a1.ext E1
  have F_confirmed_a1 := F_confirmed_a1.ext E1
  have F_held_a2 := F_held_a2.ext E1
  have F_confirmed_a2 := F_confirmed_a2.ext E1
  have E_b1 := A1
  have F_held_b1 : Fld Z h1 b1 "com/example/timed_hold/timedhold/Counts" "held" "J" (.long (0 : Int64)) := D1 (Or.inr (hw _ (List.mem_of_getElem? (i := 15) rfl))) (ty := .long) (by decide)
  have F_confirmed_b1 : Fld Z h1 b1 "com/example/timed_hold/timedhold/Counts" "confirmed" "J" (.long (0 : Int64)) := D1 (Or.inr (hw _ (List.mem_of_getElem? (i := 17) rfl))) (ty := .long) (by decide)
  refine Dn.st st1 ?_
  show Dn p e below s _ _ _ T1 (mkF m 3 #[.val (.ref a1), .val (.ref a2)] [(.ref b1)])
  refine Dn.st (fun t q => XS.dup X1.here hx rfl (hb hby d4_3) rfl rfl q) ?_
  show Dn p e below s _ _ _ T1 (mkF m 4 #[.val (.ref a1), .val (.ref a2)] [(.ref b1), (.ref b1)])
  refine Dn.st (fun t q => XS.aloadN X1.here hx rfl (hb hby d4_4) rfl rfl  q) ?_
  show Dn p e below s _ _ _ T1 (mkF m 5 #[.val (.ref a1), .val (.ref a2)] [(.ref a1), (.ref b1), (.ref b1)])
  obtain ⟨T2, X2, e2, st2⟩ := getF X1 hx hZ hown (host := "") (Or.inl (hw _ (List.mem_of_getElem? (i := 14) rfl))) Via.refl e1 F_held_a1 (g := (mkF m 5 #[.val (.ref a1), .val (.ref a2)] [(.ref a1), (.ref b1), (.ref b1)])) rfl rfl (hb hby d4_5)
  refine Dn.st st2 ?_
  show Dn p e below s _ _ _ T2 (mkF m 8 #[.val (.ref a1), .val (.ref a2)] [(.long y1), (.ref b1), (.ref b1)])
  refine Dn.st (fun t q => XS.aloadN X2.here hx rfl (hb hby d4_8) rfl rfl  q) ?_
  show Dn p e below s _ _ _ T2 (mkF m 9 #[.val (.ref a1), .val (.ref a2)] [(.ref a2), (.long y1), (.ref b1), (.ref b1)])
  obtain ⟨T3, X3, e3, st3⟩ := getF X2 hx hZ hown (host := "") (Or.inl (hw _ (List.mem_of_getElem? (i := 14) rfl))) Via.refl e2 F_held_a2 (g := (mkF m 9 #[.val (.ref a1), .val (.ref a2)] [(.ref a2), (.long y1), (.ref b1), (.ref b1)])) rfl rfl (hb hby d4_9)
  refine Dn.st st3 ?_
  show Dn p e below s _ _ _ T3 (mkF m 12 #[.val (.ref a1), .val (.ref a2)] [(.long y3), (.long y1), (.ref b1), (.ref b1)])
  refine Dn.st (fun t q => XS.ladd X3.here hx rfl (hb hby d4_12) rfl q) ?_
  show Dn p e below s _ _ _ T3 (mkF m 13 #[.val (.ref a1), .val (.ref a2)] [(.long (y1 + y3)), (.ref b1), (.ref b1)])
  refine Dn.st (fun t q => XS.aloadN X3.here hx rfl (hb hby d4_13) rfl rfl  q) ?_
  show Dn p e below s _ _ _ T3 (mkF m 14 #[.val (.ref a1), .val (.ref a2)] [(.ref a1), (.long (y1 + y3)), (.ref b1), (.ref b1)])
  obtain ⟨T4, X4, e4, st4⟩ := getF X3 hx hZ hown (host := "") (Or.inl (hw _ (List.mem_of_getElem? (i := 16) rfl))) Via.refl e3 F_confirmed_a1 (g := (mkF m 14 #[.val (.ref a1), .val (.ref a2)] [(.ref a1), (.long (y1 + y3)), (.ref b1), (.ref b1)])) rfl rfl (hb hby d4_14)
  refine Dn.st st4 ?_
  show Dn p e below s _ _ _ T4 (mkF m 17 #[.val (.ref a1), .val (.ref a2)] [(.long y2), (.long (y1 + y3)), (.ref b1), (.ref b1)])
  refine Dn.st (fun t q => XS.aloadN X4.here hx rfl (hb hby d4_17) rfl rfl  q) ?_
  show Dn p e below s _ _ _ T4 (mkF m 18 #[.val (.ref a1), .val (.ref a2)] [(.ref a2), (.long y2), (.long (y1 + y3)), (.ref b1), (.ref b1)])
  obtain ⟨T5, X5, e5, st5⟩ := getF X4 hx hZ hown (host := "") (Or.inl (hw _ (List.mem_of_getElem? (i := 16) rfl))) Via.refl e4 F_confirmed_a2 (g := (mkF m 18 #[.val (.ref a1), .val (.ref a2)] [(.ref a2), (.long y2), (.long (y1 + y3)), (.ref b1), (.ref b1)])) rfl rfl (hb hby d4_18)
  refine Dn.st st5 ?_
  show Dn p e below s _ _ _ T5 (mkF m 21 #[.val (.ref a1), .val (.ref a2)] [(.long y4), (.long y2), (.long (y1 + y3)), (.ref b1), (.ref b1)])
  refine Dn.st (fun t q => XS.ladd X5.here hx rfl (hb hby d4_21) rfl q) ?_
  show Dn p e below s _ _ _ T5 (mkF m 22 #[.val (.ref a1), .val (.ref a2)] [(.long (y2 + y4)), (.long (y1 + y3)), (.ref b1), (.ref b1)])
  obtain ⟨_, _, ⟨T6, Lq6, kq_6, nq_6⟩, -, X6, ⟨Lc6, hQ6, lq6, yq6, zq6⟩, st6⟩ := X5.specialBack hx (y := (⟨"com/example/timed_hold/timedhold/Counts", "<init>", "(JJ)V"⟩ : MethodName)) rfl hown (mvT hZ (hw _ (List.mem_of_getElem? (i := 24) rfl))) (mvT hZ (hw _ (List.mem_of_getElem? (i := 4) rfl))) (mvT hZ (hw _ (List.mem_of_getElem? (i := 5) rfl))) (by decide) (backOf (W := 1) (rm1 l Z a0 hw [] b1 (y1 + y3) (y2 + y4) (.long (0 : Int64)) (.long (0 : Int64)) h1 n0 Z0 E_b1 F_held_b1 F_confirmed_b1 g_b1) hZ (hw _ (List.mem_of_getElem? (i := 5) rfl)) (hw _ (List.mem_of_getElem? (i := 2) rfl)) (by decide) (by decide)) (g := (mkF m 22 #[.val (.ref a1), .val (.ref a2)] [(.long (y2 + y4)), (.long (y1 + y3)), (.ref b1), (.ref b1)])) rfl (by rw [hml]; rfl) (Steps.refl _) (a := b1) (argsL := [(.long (y1 + y3)), (.long (y2 + y4))]) (rest := [(.ref b1)]) (lenOf pd_1 rfl) rfl (by show 2 * 0 + _ ≤ _; exact Nat.le_of_eq rfl) (hb hby d4_22) (fun _ _ => ⟨rfl, e5, (by decide : 1 + 0 ≤ _), (by decide : 2 + 0 ≤ _)⟩)
  dsimp only [Pt.U, Pt.locs, Pt.cells, Pt.slots] at X6 lq6 yq6 zq6 st6 hQ6
  subst lq6 yq6 zq6
  obtain ⟨rfl, N6q, K6, F_held_b1, F_confirmed_b1⟩ := hQ6
  have N0 := Fr.app N0 N6q
  have Z0 := Nat.le_trans Z0 K6.1
  have K0 := K0.trans K6 (allS (Or.inr sz_b1) all0)
  have F_held_a1 := F_held_a1.keep K6 (ninS ne_a1_b1 nin0)
  have F_confirmed_a1 := F_confirmed_a1.keep K6 (ninS ne_a1_b1 nin0)
  have F_held_a2 := F_held_a2.keep K6 (ninS ne_a2_b1 nin0)
  have F_confirmed_a2 := F_confirmed_a2.keep K6 (ninS ne_a2_b1 nin0)
  have E_b1 := E_b1.keep K6
  refine Dn.tr st6 ?_
  show Dn p e below s _ _ _ T6 (mkF m 25 #[.val (.ref a1), .val (.ref a2)] [(.ref b1)])
  exact Dn.retA X6 hx Bd.notSynchronized Bd.returns rfl rfl (hb hby d4_25) (by exact ⟨b1, rfl, N0, K0, sz_b1, E_b1, F_held_b1, F_confirmed_b1⟩) (by decide) (by decide)
theorem d5_0 : decode prog_6_method_8_code 0 = .ok (.aload_n 0, 1) := by decide +kernel
theorem d5_1 : decode prog_6_method_8_code 1 = .ok (.getfield 7, 3) := by decide +kernel
theorem d5_4 : decode prog_6_method_8_code 4 = .ok (.lreturn, 1) := by decide +kernel
theorem ef_rm5 (m : MethodId) (x0 : Addr) : entryFrame m #[(.ref x0)] 1 = mkF m 0 #[.val (.ref x0)] [] := by first | (simp [entryFrame, mkF, argsToLocals, Value.category]; done) | rfl
def Q5 (Z : State) (a1 : Addr) (y1 : Int64) (h0 : Heap) (n0 : Nat) (v : Option Value) (h : Heap) (L : List Loc) : Prop := v = some (.long y1) ∧ Fr n0 L ∧ h = h0
set_option maxRecDepth 65536 in
set_option maxHeartbeats 40000000 in
theorem rm5 (l : Launch) (Z : State) (a0 : Array Value) (hw : ∀ d ∈ tables_1, d.before a0 Z = true) (ws : List Jvm.Cond) (a1 : Addr) (y1 : Int64) (h0 : Heap) (n0 : Nat) (Z0 : n0 ≤ h0.size) (F : Fld Z h0 a1 "com/example/timed_hold/timedhold/Counts" "held" "J" (.long y1)) :
    MetFree l (⟨"com/example/timed_hold/timedhold/Counts", "held", "()J"⟩ : MethodName) (head1 (Jvm.Cond.code (⟨"com/example/timed_hold/timedhold/Counts", "held", "()J"⟩ : MethodName) prog_6_method_8_code 1 (some .long) :: ws) ({ frames := 0, cells := 0, slots := 0, locals := 0 } : Room)) (fun a U => a = #[(.ref a1)] ∧ Z.Warmed39 U.vm ∧ U.heap = h0) (fun _ _ _ _ _ => True) (fun _ U o U' => ∃ v L, o = .returned v ∧ Q5 Z a1 y1 h0 n0 v U'.heap L ∧ FrameEnd U o U' L ({ frames := 0, cells := 0, slots := 0, locals := 0 } : Room).cells ({ frames := 0, cells := 0, slots := 0, locals := 0 } : Room).slots) := by
  refine MetFree.of_bodySF (plainFor_of_name pn_1) hisR ?_
  intro p e s m args below meth c s₁ Bd hml0 hP hK
  obtain ⟨rfl, hZ, hh⟩ := hP
  have hx := Bd.exec
  have hby := Bd.bytes
  have hml : c.maxLocals = 1 := hml0
  have hown : s.vm.findClass "com/example/timed_hold/timedhold/Counts" = some m.cls := findClass_of_methodNamed Bd.named
  have hnm := (name_of_methodNamed Bd.named Bd.method).1
  have X0 : Stand p l e ({ frames := 0, cells := 0, slots := 0, locals := 0 } : Room) s m #[(.ref a1)] below meth c s₁ [] 0 0 := Stand.of_body Bd
  have e0 : s₁.heap = h0 := by rw [← hh, Bd.state]; rfl
  have N0 := Fr.nil n0
  have K0 := Keep.refl h0 []
  suffices hD : Dn p e below s (Q5 Z a1 y1 h0 n0) ({ frames := 0, cells := 0, slots := 0, locals := 0 } : Room).cells ({ frames := 0, cells := 0, slots := 0, locals := 0 } : Room).slots s₁ (mkF m 0 #[.val (.ref a1)] []) from by
    obtain ⟨s₂, o, q1, q2⟩ := hD
    exact ⟨s₂, o, castTop (ef_rm5 m a1) q1, q2⟩
  refine Dn.st (fun t q => XS.aloadN X0.here hx rfl (hb hby d5_0) rfl rfl  q) ?_
  show Dn p e below s _ _ _ s₁ (mkF m 1 #[.val (.ref a1)] [(.ref a1)])
  obtain ⟨T1, X1, e1, st1⟩ := getF X0 hx hZ hown (host := "") (Or.inl (hw _ (List.mem_of_getElem? (i := 14) rfl))) Via.refl e0 F (g := (mkF m 1 #[.val (.ref a1)] [(.ref a1)])) rfl rfl (hb hby d5_1)
  refine Dn.st st1 ?_
  show Dn p e below s _ _ _ T1 (mkF m 4 #[.val (.ref a1)] [(.long y1)])
  exact Dn.retJ X1 hx Bd.notSynchronized Bd.returns (hb hby d5_4) (by rw [e1]; exact ⟨rfl, N0, rfl⟩) (by decide) (by decide)
theorem d6_0 : decode prog_6_method_9_code 0 = .ok (.aload_n 0, 1) := by decide +kernel
theorem d6_1 : decode prog_6_method_9_code 1 = .ok (.getfield 13, 3) := by decide +kernel
theorem d6_4 : decode prog_6_method_9_code 4 = .ok (.lreturn, 1) := by decide +kernel
theorem ef_rm6 (m : MethodId) (x0 : Addr) : entryFrame m #[(.ref x0)] 1 = mkF m 0 #[.val (.ref x0)] [] := by first | (simp [entryFrame, mkF, argsToLocals, Value.category]; done) | rfl
def Q6 (Z : State) (a1 : Addr) (y1 : Int64) (h0 : Heap) (n0 : Nat) (v : Option Value) (h : Heap) (L : List Loc) : Prop := v = some (.long y1) ∧ Fr n0 L ∧ h = h0
set_option maxRecDepth 65536 in
set_option maxHeartbeats 40000000 in
theorem rm6 (l : Launch) (Z : State) (a0 : Array Value) (hw : ∀ d ∈ tables_1, d.before a0 Z = true) (ws : List Jvm.Cond) (a1 : Addr) (y1 : Int64) (h0 : Heap) (n0 : Nat) (Z0 : n0 ≤ h0.size) (F : Fld Z h0 a1 "com/example/timed_hold/timedhold/Counts" "confirmed" "J" (.long y1)) :
    MetFree l (⟨"com/example/timed_hold/timedhold/Counts", "confirmed", "()J"⟩ : MethodName) (head1 (Jvm.Cond.code (⟨"com/example/timed_hold/timedhold/Counts", "confirmed", "()J"⟩ : MethodName) prog_6_method_9_code 1 (some .long) :: ws) ({ frames := 0, cells := 0, slots := 0, locals := 0 } : Room)) (fun a U => a = #[(.ref a1)] ∧ Z.Warmed39 U.vm ∧ U.heap = h0) (fun _ _ _ _ _ => True) (fun _ U o U' => ∃ v L, o = .returned v ∧ Q6 Z a1 y1 h0 n0 v U'.heap L ∧ FrameEnd U o U' L ({ frames := 0, cells := 0, slots := 0, locals := 0 } : Room).cells ({ frames := 0, cells := 0, slots := 0, locals := 0 } : Room).slots) := by
  refine MetFree.of_bodySF (plainFor_of_name pn_1) hisR ?_
  intro p e s m args below meth c s₁ Bd hml0 hP hK
  obtain ⟨rfl, hZ, hh⟩ := hP
  have hx := Bd.exec
  have hby := Bd.bytes
  have hml : c.maxLocals = 1 := hml0
  have hown : s.vm.findClass "com/example/timed_hold/timedhold/Counts" = some m.cls := findClass_of_methodNamed Bd.named
  have hnm := (name_of_methodNamed Bd.named Bd.method).1
  have X0 : Stand p l e ({ frames := 0, cells := 0, slots := 0, locals := 0 } : Room) s m #[(.ref a1)] below meth c s₁ [] 0 0 := Stand.of_body Bd
  have e0 : s₁.heap = h0 := by rw [← hh, Bd.state]; rfl
  have N0 := Fr.nil n0
  have K0 := Keep.refl h0 []
  suffices hD : Dn p e below s (Q6 Z a1 y1 h0 n0) ({ frames := 0, cells := 0, slots := 0, locals := 0 } : Room).cells ({ frames := 0, cells := 0, slots := 0, locals := 0 } : Room).slots s₁ (mkF m 0 #[.val (.ref a1)] []) from by
    obtain ⟨s₂, o, q1, q2⟩ := hD
    exact ⟨s₂, o, castTop (ef_rm6 m a1) q1, q2⟩
  refine Dn.st (fun t q => XS.aloadN X0.here hx rfl (hb hby d6_0) rfl rfl  q) ?_
  show Dn p e below s _ _ _ s₁ (mkF m 1 #[.val (.ref a1)] [(.ref a1)])
  obtain ⟨T1, X1, e1, st1⟩ := getF X0 hx hZ hown (host := "") (Or.inl (hw _ (List.mem_of_getElem? (i := 16) rfl))) Via.refl e0 F (g := (mkF m 1 #[.val (.ref a1)] [(.ref a1)])) rfl rfl (hb hby d6_1)
  refine Dn.st st1 ?_
  show Dn p e below s _ _ _ T1 (mkF m 4 #[.val (.ref a1)] [(.long y1)])
  exact Dn.retJ X1 hx Bd.notSynchronized Bd.returns (hb hby d6_4) (by rw [e1]; exact ⟨rfl, N0, rfl⟩) (by decide) (by decide)
theorem d7_0 : decode prog_6_method_2_code 0 = .ok (.aload_n 0, 1) := by decide +kernel
theorem d7_1 : decode prog_6_method_2_code 1 = .ok (.getfield 7, 3) := by decide +kernel
theorem d7_4 : decode prog_6_method_2_code 4 = .ok (.aload_n 0, 1) := by decide +kernel
theorem d7_5 : decode prog_6_method_2_code 5 = .ok (.getfield 13, 3) := by decide +kernel
theorem d7_8 : decode prog_6_method_2_code 8 = .ok (.ladd, 1) := by decide +kernel
theorem d7_9 : decode prog_6_method_2_code 9 = .ok (.lreturn, 1) := by decide +kernel
theorem ef_rm7 (m : MethodId) (x0 : Addr) : entryFrame m #[(.ref x0)] 1 = mkF m 0 #[.val (.ref x0)] [] := by first | (simp [entryFrame, mkF, argsToLocals, Value.category]; done) | rfl
def Q7 (Z : State) (a1 : Addr) (y1 : Int64) (y2 : Int64) (h0 : Heap) (n0 : Nat) (v : Option Value) (h : Heap) (L : List Loc) : Prop := v = some (.long (y1 + y2)) ∧ Fr n0 L ∧ h = h0
set_option maxRecDepth 65536 in
set_option maxHeartbeats 40000000 in
theorem rm7 (l : Launch) (Z : State) (a0 : Array Value) (hw : ∀ d ∈ tables_1, d.before a0 Z = true) (ws : List Jvm.Cond) (a1 : Addr) (y1 : Int64) (y2 : Int64) (h0 : Heap) (n0 : Nat) (Z0 : n0 ≤ h0.size) (F : Fld Z h0 a1 "com/example/timed_hold/timedhold/Counts" "held" "J" (.long y1)) (G : Fld Z h0 a1 "com/example/timed_hold/timedhold/Counts" "confirmed" "J" (.long y2)) :
    MetFree l (⟨"com/example/timed_hold/timedhold/Counts", "units", "()J"⟩ : MethodName) (head1 (Jvm.Cond.code (⟨"com/example/timed_hold/timedhold/Counts", "units", "()J"⟩ : MethodName) prog_6_method_2_code 1 (some .long) :: ws) ({ frames := 0, cells := 0, slots := 0, locals := 0 } : Room)) (fun a U => a = #[(.ref a1)] ∧ Z.Warmed39 U.vm ∧ U.heap = h0) (fun _ _ _ _ _ => True) (fun _ U o U' => ∃ v L, o = .returned v ∧ Q7 Z a1 y1 y2 h0 n0 v U'.heap L ∧ FrameEnd U o U' L ({ frames := 0, cells := 0, slots := 0, locals := 0 } : Room).cells ({ frames := 0, cells := 0, slots := 0, locals := 0 } : Room).slots) := by
  refine MetFree.of_bodySF (plainFor_of_name pn_1) hisR ?_
  intro p e s m args below meth c s₁ Bd hml0 hP hK
  obtain ⟨rfl, hZ, hh⟩ := hP
  have hx := Bd.exec
  have hby := Bd.bytes
  have hml : c.maxLocals = 1 := hml0
  have hown : s.vm.findClass "com/example/timed_hold/timedhold/Counts" = some m.cls := findClass_of_methodNamed Bd.named
  have hnm := (name_of_methodNamed Bd.named Bd.method).1
  have X0 : Stand p l e ({ frames := 0, cells := 0, slots := 0, locals := 0 } : Room) s m #[(.ref a1)] below meth c s₁ [] 0 0 := Stand.of_body Bd
  have e0 : s₁.heap = h0 := by rw [← hh, Bd.state]; rfl
  have N0 := Fr.nil n0
  have K0 := Keep.refl h0 []
  suffices hD : Dn p e below s (Q7 Z a1 y1 y2 h0 n0) ({ frames := 0, cells := 0, slots := 0, locals := 0 } : Room).cells ({ frames := 0, cells := 0, slots := 0, locals := 0 } : Room).slots s₁ (mkF m 0 #[.val (.ref a1)] []) from by
    obtain ⟨s₂, o, q1, q2⟩ := hD
    exact ⟨s₂, o, castTop (ef_rm7 m a1) q1, q2⟩
  refine Dn.st (fun t q => XS.aloadN X0.here hx rfl (hb hby d7_0) rfl rfl  q) ?_
  show Dn p e below s _ _ _ s₁ (mkF m 1 #[.val (.ref a1)] [(.ref a1)])
  obtain ⟨T1, X1, e1, st1⟩ := getF X0 hx hZ hown (host := "") (Or.inl (hw _ (List.mem_of_getElem? (i := 14) rfl))) Via.refl e0 F (g := (mkF m 1 #[.val (.ref a1)] [(.ref a1)])) rfl rfl (hb hby d7_1)
  refine Dn.st st1 ?_
  show Dn p e below s _ _ _ T1 (mkF m 4 #[.val (.ref a1)] [(.long y1)])
  refine Dn.st (fun t q => XS.aloadN X1.here hx rfl (hb hby d7_4) rfl rfl  q) ?_
  show Dn p e below s _ _ _ T1 (mkF m 5 #[.val (.ref a1)] [(.ref a1), (.long y1)])
  obtain ⟨T2, X2, e2, st2⟩ := getF X1 hx hZ hown (host := "") (Or.inl (hw _ (List.mem_of_getElem? (i := 16) rfl))) Via.refl e1 G (g := (mkF m 5 #[.val (.ref a1)] [(.ref a1), (.long y1)])) rfl rfl (hb hby d7_5)
  refine Dn.st st2 ?_
  show Dn p e below s _ _ _ T2 (mkF m 8 #[.val (.ref a1)] [(.long y2), (.long y1)])
  refine Dn.st (fun t q => XS.ladd X2.here hx rfl (hb hby d7_8) rfl q) ?_
  show Dn p e below s _ _ _ T2 (mkF m 9 #[.val (.ref a1)] [(.long (y1 + y2))])
  exact Dn.retJ X2 hx Bd.notSynchronized Bd.returns (hb hby d7_9) (by rw [e2]; exact ⟨rfl, N0, rfl⟩) (by decide) (by decide)
theorem pd_2 : parseMethodDescriptor "(Lcom/example/timed_hold/timedhold/Counts;)Lcom/example/timed_hold/timedhold/Counts;" = some ⟨[(.object "com/example/timed_hold/timedhold/Counts")], some (.object "com/example/timed_hold/timedhold/Counts")⟩ := by decide +kernel
theorem pd_3 : parseMethodDescriptor "()J" = some ⟨[], some .long⟩ := by decide +kernel
theorem pn_2 : plainName "com/example/timed_hold/timedhold/CountsPlusPinLaw" = true := by first | (simp [plainName, overriddenIn]; done) | decide +kernel
theorem ef_rm0 (m : MethodId) (x0 : Int64) (x1 : Int64) (x2 : Int64) (x3 : Int64) : entryFrame m #[(.long x0), (.long x1), (.long x2), (.long x3)] maxLocals = mkF m 0 #[.val (.long x0), .second, .val (.long x1), .second, .val (.long x2), .second, .val (.long x3), .second, .unset, .unset, .unset, .unset, .unset, .unset, .unset, .unset, .unset, .unset] [] := by first | (simp [entryFrame, mkF, argsToLocals, Value.category, maxLocals]; done) | rfl
def Q0 (Z : State) (y1 : Int64) (y2 : Int64) (y3 : Int64) (y4 : Int64) (h0 : Heap) (n0 : Nat) (v : Option Value) (h : Heap) (L : List Loc) : Prop := v = some (.int 1) ∧ Fr n0 L
set_option maxRecDepth 65536 in
set_option maxHeartbeats 40000000 in
theorem rm0 (l : Launch) (Z : State) (a0 : Array Value) (hw : ∀ d ∈ tables_1, d.before a0 Z = true) (ws : List Jvm.Cond) (y1 : Int64) (y2 : Int64) (y3 : Int64) (y4 : Int64) (h0 : Heap) (n0 : Nat) (Z0 : n0 ≤ h0.size) :
    MetFree l x (head1 (Jvm.Cond.code x code maxLocals ret :: ws) room_1) (fun a U => a = #[(.long y1), (.long y2), (.long y3), (.long y4)] ∧ Z.Warmed39 U.vm ∧ U.heap = h0) (fun _ _ _ _ _ => True) (fun _ U o U' => ∃ v L, o = .returned v ∧ Q0 Z y1 y2 y3 y4 h0 n0 v U'.heap L ∧ FrameEnd U o U' L 3 6) := by
  refine MetFree.of_bodySF (plainFor_of_name pn_2) hisR ?_
  intro p e s m args below meth c s₁ Bd hml0 hP hK
  obtain ⟨rfl, hZ, hh⟩ := hP
  have hx := Bd.exec
  have hby := Bd.bytes
  have hml : c.maxLocals = 18 := hml0
  have hown : s.vm.findClass "com/example/timed_hold/timedhold/CountsPlusPinLaw" = some m.cls := findClass_of_methodNamed Bd.named
  have hnm := (name_of_methodNamed Bd.named Bd.method).1
  have X0 : Stand p l e room_1 s m #[(.long y1), (.long y2), (.long y3), (.long y4)] below meth c s₁ [] 0 0 := Stand.of_body Bd
  have e0 : s₁.heap = h0 := by rw [← hh, Bd.state]; rfl
  have N0 := Fr.nil n0
  have K0 := Keep.refl h0 []
  suffices hD : Dn p e below s (Q0 Z y1 y2 y3 y4 h0 n0) 3 6 s₁ (mkF m 0 #[.val (.long y1), .second, .val (.long y2), .second, .val (.long y3), .second, .val (.long y4), .second, .unset, .unset, .unset, .unset, .unset, .unset, .unset, .unset, .unset, .unset] []) from by
    obtain ⟨s₂, o, q1, q2⟩ := hD
    exact ⟨s₂, o, castTop (ef_rm0 m y1 y2 y3 y4) q1, q2⟩
  obtain ⟨T1, h1, X1, e1, E1, A1, D1, -, st1⟩ := newO X0 hx hZ hown (hw _ (List.mem_of_getElem? (i := 0) rfl)) (hw _ (List.mem_of_getElem? (i := 1) rfl)) (hw _ (List.mem_of_getElem? (i := 2) rfl)) e0 (g := (mkF m 0 #[.val (.long y1), .second, .val (.long y2), .second, .val (.long y3), .second, .val (.long y4), .second, .unset, .unset, .unset, .unset, .unset, .unset, .unset, .unset, .unset, .unset] [])) rfl (hb hby at_0) (by decide) (by decide)
  obtain ⟨b1, g1⟩ : ∃ z, z = h0.size := ⟨_, rfl⟩
  rw [← g1] at A1 D1 st1
  have g_b1 : n0 ≤ b1 := Nat.le_trans Z0 (Nat.le_of_eq g1.symm)
  have sz_b1 : h0.size ≤ b1 := Nat.le_trans K0.1 (Nat.le_of_eq g1.symm)
  have Z0 := Nat.le_trans Z0 E1.1
  have K0 := K0.ext E1
  have E_b1 := A1
  have F_held_b1 : Fld Z h1 b1 "com/example/timed_hold/timedhold/Counts" "held" "J" (.long (0 : Int64)) := D1 (Or.inr (hw _ (List.mem_of_getElem? (i := 15) rfl))) (ty := .long) (by decide)
  have F_confirmed_b1 : Fld Z h1 b1 "com/example/timed_hold/timedhold/Counts" "confirmed" "J" (.long (0 : Int64)) := D1 (Or.inr (hw _ (List.mem_of_getElem? (i := 17) rfl))) (ty := .long) (by decide)
  refine Dn.st st1 ?_
  show Dn p e below s _ _ _ T1 (mkF m 3 #[.val (.long y1), .second, .val (.long y2), .second, .val (.long y3), .second, .val (.long y4), .second, .unset, .unset, .unset, .unset, .unset, .unset, .unset, .unset, .unset, .unset] [(.ref b1)])
  refine Dn.st (fun t q => XS.dup X1.here hx rfl (hb hby at_3) rfl rfl q) ?_
  show Dn p e below s _ _ _ T1 (mkF m 4 #[.val (.long y1), .second, .val (.long y2), .second, .val (.long y3), .second, .val (.long y4), .second, .unset, .unset, .unset, .unset, .unset, .unset, .unset, .unset, .unset, .unset] [(.ref b1), (.ref b1)])
  refine Dn.st (fun t q => XS.lloadN X1.here hx rfl (hb hby at_4) rfl  q) ?_
  show Dn p e below s _ _ _ T1 (mkF m 5 #[.val (.long y1), .second, .val (.long y2), .second, .val (.long y3), .second, .val (.long y4), .second, .unset, .unset, .unset, .unset, .unset, .unset, .unset, .unset, .unset, .unset] [(.long y1), (.ref b1), (.ref b1)])
  refine Dn.st (fun t q => XS.lloadN X1.here hx rfl (hb hby at_5) rfl  q) ?_
  show Dn p e below s _ _ _ T1 (mkF m 6 #[.val (.long y1), .second, .val (.long y2), .second, .val (.long y3), .second, .val (.long y4), .second, .unset, .unset, .unset, .unset, .unset, .unset, .unset, .unset, .unset, .unset] [(.long y2), (.long y1), (.ref b1), (.ref b1)])
  obtain ⟨_, _, ⟨T2, Lq2, kq_2, nq_2⟩, -, X2, ⟨Lc2, hQ2, lq2, yq2, zq2⟩, st2⟩ := X1.specialBack hx (y := (⟨"com/example/timed_hold/timedhold/Counts", "<init>", "(JJ)V"⟩ : MethodName)) rfl hown (mvT hZ (hw _ (List.mem_of_getElem? (i := 3) rfl))) (mvT hZ (hw _ (List.mem_of_getElem? (i := 4) rfl))) (mvT hZ (hw _ (List.mem_of_getElem? (i := 5) rfl))) (by decide) (backOf (W := 1) (rm1 l Z a0 hw [] b1 y1 y2 (.long (0 : Int64)) (.long (0 : Int64)) h1 n0 Z0 E_b1 F_held_b1 F_confirmed_b1 g_b1) hZ (hw _ (List.mem_of_getElem? (i := 5) rfl)) (hw _ (List.mem_of_getElem? (i := 2) rfl)) (by decide) (by decide)) (g := (mkF m 6 #[.val (.long y1), .second, .val (.long y2), .second, .val (.long y3), .second, .val (.long y4), .second, .unset, .unset, .unset, .unset, .unset, .unset, .unset, .unset, .unset, .unset] [(.long y2), (.long y1), (.ref b1), (.ref b1)])) rfl (by rw [hml]; rfl) (Steps.refl _) (a := b1) (argsL := [(.long y1), (.long y2)]) (rest := [(.ref b1)]) (lenOf pd_1 rfl) rfl (by show 2 * 0 + _ ≤ _; exact Nat.le_of_eq rfl) (hb hby at_6) (fun _ _ => ⟨rfl, e1, (by decide : 1 + 0 ≤ _), (by decide : 2 + 0 ≤ _)⟩)
  dsimp only [Pt.U, Pt.locs, Pt.cells, Pt.slots] at X2 lq2 yq2 zq2 st2 hQ2
  subst lq2 yq2 zq2
  obtain ⟨rfl, N2q, K2, F_held_b1, F_confirmed_b1⟩ := hQ2
  have N0 := Fr.app N0 N2q
  have Z0 := Nat.le_trans Z0 K2.1
  have K0 := K0.trans K2 (allS (Or.inr sz_b1) all0)
  have E_b1 := E_b1.keep K2
  refine Dn.tr st2 ?_
  show Dn p e below s _ _ _ T2 (mkF m 9 #[.val (.long y1), .second, .val (.long y2), .second, .val (.long y3), .second, .val (.long y4), .second, .unset, .unset, .unset, .unset, .unset, .unset, .unset, .unset, .unset, .unset] [(.ref b1)])
  refine Dn.st (fun t q => XS.astore X2.here hx rfl (hb hby at_9) rfl rfl (l' := #[.val (.long y1), .second, .val (.long y2), .second, .val (.long y3), .second, .val (.long y4), .second, .val (.ref b1), .unset, .unset, .unset, .unset, .unset, .unset, .unset, .unset, .unset]) rfl q) ?_
  show Dn p e below s _ _ _ T2 (mkF m 11 #[.val (.long y1), .second, .val (.long y2), .second, .val (.long y3), .second, .val (.long y4), .second, .val (.ref b1), .unset, .unset, .unset, .unset, .unset, .unset, .unset, .unset, .unset] [])
  obtain ⟨T3, h3, X3, e3, E3, A3, D3, -, st3⟩ := newO X2 hx hZ hown (hw _ (List.mem_of_getElem? (i := 0) rfl)) (hw _ (List.mem_of_getElem? (i := 1) rfl)) (hw _ (List.mem_of_getElem? (i := 2) rfl)) rfl (g := (mkF m 11 #[.val (.long y1), .second, .val (.long y2), .second, .val (.long y3), .second, .val (.long y4), .second, .val (.ref b1), .unset, .unset, .unset, .unset, .unset, .unset, .unset, .unset, .unset] [])) rfl (hb hby at_11) (by decide) (by decide)
  obtain ⟨b2, g3⟩ : ∃ z, z = T2.heap.size := ⟨_, rfl⟩
  rw [← g3] at A3 D3 st3
  have ne_b1_b2 : b1 ≠ b2 := own_ne E_b1.lt g3
  have g_b2 : n0 ≤ b2 := Nat.le_trans Z0 (Nat.le_of_eq g3.symm)
  have sz_b2 : h0.size ≤ b2 := Nat.le_trans K0.1 (Nat.le_of_eq g3.symm)
  have Z0 := Nat.le_trans Z0 E3.1
  have K0 := K0.ext E3
  have E_b1 := E_b1.ext E3
  have F_held_b1 := F_held_b1.ext E3
  have F_confirmed_b1 := F_confirmed_b1.ext E3
  have E_b2 := A3
  have F_held_b2 : Fld Z h3 b2 "com/example/timed_hold/timedhold/Counts" "held" "J" (.long (0 : Int64)) := D3 (Or.inr (hw _ (List.mem_of_getElem? (i := 15) rfl))) (ty := .long) (by decide)
  have F_confirmed_b2 : Fld Z h3 b2 "com/example/timed_hold/timedhold/Counts" "confirmed" "J" (.long (0 : Int64)) := D3 (Or.inr (hw _ (List.mem_of_getElem? (i := 17) rfl))) (ty := .long) (by decide)
  refine Dn.st st3 ?_
  show Dn p e below s _ _ _ T3 (mkF m 14 #[.val (.long y1), .second, .val (.long y2), .second, .val (.long y3), .second, .val (.long y4), .second, .val (.ref b1), .unset, .unset, .unset, .unset, .unset, .unset, .unset, .unset, .unset] [(.ref b2)])
  refine Dn.st (fun t q => XS.dup X3.here hx rfl (hb hby at_14) rfl rfl q) ?_
  show Dn p e below s _ _ _ T3 (mkF m 15 #[.val (.long y1), .second, .val (.long y2), .second, .val (.long y3), .second, .val (.long y4), .second, .val (.ref b1), .unset, .unset, .unset, .unset, .unset, .unset, .unset, .unset, .unset] [(.ref b2), (.ref b2)])
  refine Dn.st (fun t q => XS.lload X3.here hx rfl (hb hby at_15) rfl  q) ?_
  show Dn p e below s _ _ _ T3 (mkF m 17 #[.val (.long y1), .second, .val (.long y2), .second, .val (.long y3), .second, .val (.long y4), .second, .val (.ref b1), .unset, .unset, .unset, .unset, .unset, .unset, .unset, .unset, .unset] [(.long y3), (.ref b2), (.ref b2)])
  refine Dn.st (fun t q => XS.lload X3.here hx rfl (hb hby at_17) rfl  q) ?_
  show Dn p e below s _ _ _ T3 (mkF m 19 #[.val (.long y1), .second, .val (.long y2), .second, .val (.long y3), .second, .val (.long y4), .second, .val (.ref b1), .unset, .unset, .unset, .unset, .unset, .unset, .unset, .unset, .unset] [(.long y4), (.long y3), (.ref b2), (.ref b2)])
  obtain ⟨_, _, ⟨T4, Lq4, kq_4, nq_4⟩, -, X4, ⟨Lc4, hQ4, lq4, yq4, zq4⟩, st4⟩ := X3.specialBack hx (y := (⟨"com/example/timed_hold/timedhold/Counts", "<init>", "(JJ)V"⟩ : MethodName)) rfl hown (mvT hZ (hw _ (List.mem_of_getElem? (i := 3) rfl))) (mvT hZ (hw _ (List.mem_of_getElem? (i := 4) rfl))) (mvT hZ (hw _ (List.mem_of_getElem? (i := 5) rfl))) (by decide) (backOf (W := 1) (rm1 l Z a0 hw [] b2 y3 y4 (.long (0 : Int64)) (.long (0 : Int64)) h3 n0 Z0 E_b2 F_held_b2 F_confirmed_b2 g_b2) hZ (hw _ (List.mem_of_getElem? (i := 5) rfl)) (hw _ (List.mem_of_getElem? (i := 2) rfl)) (by decide) (by decide)) (g := (mkF m 19 #[.val (.long y1), .second, .val (.long y2), .second, .val (.long y3), .second, .val (.long y4), .second, .val (.ref b1), .unset, .unset, .unset, .unset, .unset, .unset, .unset, .unset, .unset] [(.long y4), (.long y3), (.ref b2), (.ref b2)])) rfl (by rw [hml]; rfl) (Steps.refl _) (a := b2) (argsL := [(.long y3), (.long y4)]) (rest := [(.ref b2)]) (lenOf pd_1 rfl) rfl (by show 2 * 0 + _ ≤ _; exact Nat.le_of_eq rfl) (hb hby at_19) (fun _ _ => ⟨rfl, e3, (by decide : 2 + 0 ≤ _), (by decide : 4 + 0 ≤ _)⟩)
  dsimp only [Pt.U, Pt.locs, Pt.cells, Pt.slots] at X4 lq4 yq4 zq4 st4 hQ4
  subst lq4 yq4 zq4
  obtain ⟨rfl, N4q, K4, F_held_b2, F_confirmed_b2⟩ := hQ4
  have N0 := Fr.app N0 N4q
  have Z0 := Nat.le_trans Z0 K4.1
  have K0 := K0.trans K4 (allS (Or.inr sz_b2) all0)
  have E_b1 := E_b1.keep K4
  have F_held_b1 := F_held_b1.keep K4 (ninS ne_b1_b2 nin0)
  have F_confirmed_b1 := F_confirmed_b1.keep K4 (ninS ne_b1_b2 nin0)
  have E_b2 := E_b2.keep K4
  refine Dn.tr st4 ?_
  show Dn p e below s _ _ _ T4 (mkF m 22 #[.val (.long y1), .second, .val (.long y2), .second, .val (.long y3), .second, .val (.long y4), .second, .val (.ref b1), .unset, .unset, .unset, .unset, .unset, .unset, .unset, .unset, .unset] [(.ref b2)])
  refine Dn.st (fun t q => XS.astore X4.here hx rfl (hb hby at_22) rfl rfl (l' := #[.val (.long y1), .second, .val (.long y2), .second, .val (.long y3), .second, .val (.long y4), .second, .val (.ref b1), .val (.ref b2), .unset, .unset, .unset, .unset, .unset, .unset, .unset, .unset]) rfl q) ?_
  show Dn p e below s _ _ _ T4 (mkF m 24 #[.val (.long y1), .second, .val (.long y2), .second, .val (.long y3), .second, .val (.long y4), .second, .val (.ref b1), .val (.ref b2), .unset, .unset, .unset, .unset, .unset, .unset, .unset, .unset] [])
  refine Dn.st (fun t q => XS.aload X4.here hx rfl (hb hby at_24) rfl rfl  q) ?_
  show Dn p e below s _ _ _ T4 (mkF m 26 #[.val (.long y1), .second, .val (.long y2), .second, .val (.long y3), .second, .val (.long y4), .second, .val (.ref b1), .val (.ref b2), .unset, .unset, .unset, .unset, .unset, .unset, .unset, .unset] [(.ref b1)])
  refine Dn.st (fun t q => XS.aload X4.here hx rfl (hb hby at_26) rfl rfl  q) ?_
  show Dn p e below s _ _ _ T4 (mkF m 28 #[.val (.long y1), .second, .val (.long y2), .second, .val (.long y3), .second, .val (.long y4), .second, .val (.ref b1), .val (.ref b2), .unset, .unset, .unset, .unset, .unset, .unset, .unset, .unset] [(.ref b2), (.ref b1)])
  have Zq5 := Z0
  have Kq5 := K0
  have lt_b1_5 : b1 < T4.heap.size := E_b1.lt
  have lt_b2_5 : b2 < T4.heap.size := E_b2.lt
  obtain ⟨cq5, kq5, q5a, q5b, q5c⟩ := isOf hZ rfl E_b1
  obtain ⟨_, _, ⟨T5, Lq5, kq_5, nq_5⟩, -, X5, ⟨Lc5, hQ5, lq5, yq5, zq5⟩, st5⟩ := X4.virtualBack hx (y := (⟨"com/example/timed_hold/timedhold/Counts", "plus", "(Lcom/example/timed_hold/timedhold/Counts;)Lcom/example/timed_hold/timedhold/Counts;"⟩ : MethodName)) (z := (⟨"com/example/timed_hold/timedhold/Counts", "plus", "(Lcom/example/timed_hold/timedhold/Counts;)Lcom/example/timed_hold/timedhold/Counts;"⟩ : MethodName)) hown (mvT hZ (hw _ (List.mem_of_getElem? (i := 18) rfl))) (mvT hZ (hw _ (List.mem_of_getElem? (i := 19) rfl))) (notFace_of_selects (args := #[]) (mvT hZ (hw _ (List.mem_of_getElem? (i := 21) rfl)))) (mvT hZ (hw _ (List.mem_of_getElem? (i := 21) rfl))) (mvT hZ (hw _ (List.mem_of_getElem? (i := 20) rfl))) (by decide) (backOf (W := 0) (rm4 l Z a0 hw [] b1 b2 y1 y2 y3 y4 T4.heap n0 Z0 F_held_b1 F_confirmed_b1 F_held_b2 F_confirmed_b2) hZ (hw _ (List.mem_of_getElem? (i := 22) rfl)) (hw _ (List.mem_of_getElem? (i := 2) rfl)) (by decide) (by decide)) q5a q5c (g := (mkF m 28 #[.val (.long y1), .second, .val (.long y2), .second, .val (.long y3), .second, .val (.long y4), .second, .val (.ref b1), .val (.ref b2), .unset, .unset, .unset, .unset, .unset, .unset, .unset, .unset] [(.ref b2), (.ref b1)])) rfl (by rw [hml]; rfl) (Steps.refl _) (argsL := [(.ref b2)]) (rest := []) (lenOf pd_2 rfl) rfl (by show 2 * 0 + _ ≤ _; exact Nat.le_of_eq rfl) (hb hby at_28) (fun _ _ => ⟨rfl, rfl, (by decide : 2 + 1 ≤ _), (by decide : 4 + 2 ≤ _)⟩)
  dsimp only [Pt.U, Pt.locs, Pt.cells, Pt.slots] at X5 lq5 yq5 zq5 st5 hQ5
  subst lq5 yq5 zq5
  obtain ⟨b3, rfl, N5q, K5, le5, E_b3, F_held_b3, F_confirmed_b3⟩ := hQ5
  have N0 := Fr.app N0 N5q
  have Z0 := Nat.le_trans Z0 K5.1
  have K0 := K0.trans K5 all0
  have E_b1 := E_b1.keep K5
  have F_held_b1 := F_held_b1.keep K5 nin0
  have F_confirmed_b1 := F_confirmed_b1.keep K5 nin0
  have E_b2 := E_b2.keep K5
  have F_held_b2 := F_held_b2.keep K5 nin0
  have F_confirmed_b2 := F_confirmed_b2.keep K5 nin0
  have ne_b1_b3 : b1 ≠ b3 := own_ne' lt_b1_5 le5
  have ne_b2_b3 : b2 ≠ b3 := own_ne' lt_b2_5 le5
  have g_b3 : n0 ≤ b3 := Nat.le_trans Zq5 le5
  have sz_b3 : h0.size ≤ b3 := Nat.le_trans Kq5.1 le5
  refine Dn.tr st5 ?_
  show Dn p e below s _ _ _ T5 (mkF m 31 #[.val (.long y1), .second, .val (.long y2), .second, .val (.long y3), .second, .val (.long y4), .second, .val (.ref b1), .val (.ref b2), .unset, .unset, .unset, .unset, .unset, .unset, .unset, .unset] [(.ref b3)])
  refine Dn.st (fun t q => XS.astore X5.here hx rfl (hb hby at_31) rfl rfl (l' := #[.val (.long y1), .second, .val (.long y2), .second, .val (.long y3), .second, .val (.long y4), .second, .val (.ref b1), .val (.ref b2), .val (.ref b3), .unset, .unset, .unset, .unset, .unset, .unset, .unset]) rfl q) ?_
  show Dn p e below s _ _ _ T5 (mkF m 33 #[.val (.long y1), .second, .val (.long y2), .second, .val (.long y3), .second, .val (.long y4), .second, .val (.ref b1), .val (.ref b2), .val (.ref b3), .unset, .unset, .unset, .unset, .unset, .unset, .unset] [])
  refine Dn.st (fun t q => XS.aload X5.here hx rfl (hb hby at_33) rfl rfl  q) ?_
  show Dn p e below s _ _ _ T5 (mkF m 35 #[.val (.long y1), .second, .val (.long y2), .second, .val (.long y3), .second, .val (.long y4), .second, .val (.ref b1), .val (.ref b2), .val (.ref b3), .unset, .unset, .unset, .unset, .unset, .unset, .unset] [(.ref b3)])
  refine Dn.st (fun t q => XS.ifnonnullYes X5.here hx rfl (pc0 := 35) (pc' := 40) rfl (hb hby at_35) rfl (by decide) (by decide) q) ?_
  show Dn p e below s _ _ _ T5 (mkF m 40 #[.val (.long y1), .second, .val (.long y2), .second, .val (.long y3), .second, .val (.long y4), .second, .val (.ref b1), .val (.ref b2), .val (.ref b3), .unset, .unset, .unset, .unset, .unset, .unset, .unset] [])
  refine Dn.st (fun t q => XS.lloadN X5.here hx rfl (hb hby at_40) rfl  q) ?_
  show Dn p e below s _ _ _ T5 (mkF m 41 #[.val (.long y1), .second, .val (.long y2), .second, .val (.long y3), .second, .val (.long y4), .second, .val (.ref b1), .val (.ref b2), .val (.ref b3), .unset, .unset, .unset, .unset, .unset, .unset, .unset] [(.long y1)])
  refine Dn.st (fun t q => XS.lload X5.here hx rfl (hb hby at_41) rfl  q) ?_
  show Dn p e below s _ _ _ T5 (mkF m 43 #[.val (.long y1), .second, .val (.long y2), .second, .val (.long y3), .second, .val (.long y4), .second, .val (.ref b1), .val (.ref b2), .val (.ref b3), .unset, .unset, .unset, .unset, .unset, .unset, .unset] [(.long y3), (.long y1)])
  refine Dn.st (fun t q => XS.ladd X5.here hx rfl (hb hby at_43) rfl q) ?_
  show Dn p e below s _ _ _ T5 (mkF m 44 #[.val (.long y1), .second, .val (.long y2), .second, .val (.long y3), .second, .val (.long y4), .second, .val (.ref b1), .val (.ref b2), .val (.ref b3), .unset, .unset, .unset, .unset, .unset, .unset, .unset] [(.long (y1 + y3))])
  refine Dn.st (fun t q => XS.lstore X5.here hx rfl (hb hby at_44) rfl (l' := #[.val (.long y1), .second, .val (.long y2), .second, .val (.long y3), .second, .val (.long y4), .second, .val (.ref b1), .val (.ref b2), .val (.ref b3), .val (.long (y1 + y3)), .second, .unset, .unset, .unset, .unset, .unset]) rfl q) ?_
  show Dn p e below s _ _ _ T5 (mkF m 46 #[.val (.long y1), .second, .val (.long y2), .second, .val (.long y3), .second, .val (.long y4), .second, .val (.ref b1), .val (.ref b2), .val (.ref b3), .val (.long (y1 + y3)), .second, .unset, .unset, .unset, .unset, .unset] [])
  refine Dn.st (fun t q => XS.lloadN X5.here hx rfl (hb hby at_46) rfl  q) ?_
  show Dn p e below s _ _ _ T5 (mkF m 47 #[.val (.long y1), .second, .val (.long y2), .second, .val (.long y3), .second, .val (.long y4), .second, .val (.ref b1), .val (.ref b2), .val (.ref b3), .val (.long (y1 + y3)), .second, .unset, .unset, .unset, .unset, .unset] [(.long y2)])
  refine Dn.st (fun t q => XS.lload X5.here hx rfl (hb hby at_47) rfl  q) ?_
  show Dn p e below s _ _ _ T5 (mkF m 49 #[.val (.long y1), .second, .val (.long y2), .second, .val (.long y3), .second, .val (.long y4), .second, .val (.ref b1), .val (.ref b2), .val (.ref b3), .val (.long (y1 + y3)), .second, .unset, .unset, .unset, .unset, .unset] [(.long y4), (.long y2)])
  refine Dn.st (fun t q => XS.ladd X5.here hx rfl (hb hby at_49) rfl q) ?_
  show Dn p e below s _ _ _ T5 (mkF m 50 #[.val (.long y1), .second, .val (.long y2), .second, .val (.long y3), .second, .val (.long y4), .second, .val (.ref b1), .val (.ref b2), .val (.ref b3), .val (.long (y1 + y3)), .second, .unset, .unset, .unset, .unset, .unset] [(.long (y2 + y4))])
  refine Dn.st (fun t q => XS.lstore X5.here hx rfl (hb hby at_50) rfl (l' := #[.val (.long y1), .second, .val (.long y2), .second, .val (.long y3), .second, .val (.long y4), .second, .val (.ref b1), .val (.ref b2), .val (.ref b3), .val (.long (y1 + y3)), .second, .val (.long (y2 + y4)), .second, .unset, .unset, .unset]) rfl q) ?_
  show Dn p e below s _ _ _ T5 (mkF m 52 #[.val (.long y1), .second, .val (.long y2), .second, .val (.long y3), .second, .val (.long y4), .second, .val (.ref b1), .val (.ref b2), .val (.ref b3), .val (.long (y1 + y3)), .second, .val (.long (y2 + y4)), .second, .unset, .unset, .unset] [])
  refine Dn.st (fun t q => XS.aload X5.here hx rfl (hb hby at_52) rfl rfl  q) ?_
  show Dn p e below s _ _ _ T5 (mkF m 54 #[.val (.long y1), .second, .val (.long y2), .second, .val (.long y3), .second, .val (.long y4), .second, .val (.ref b1), .val (.ref b2), .val (.ref b3), .val (.long (y1 + y3)), .second, .val (.long (y2 + y4)), .second, .unset, .unset, .unset] [(.ref b3)])
  obtain ⟨cq6, kq6, q6a, q6b, q6c⟩ := isOf hZ rfl E_b3
  obtain ⟨_, _, ⟨T6, Lq6, kq_6, nq_6⟩, -, X6, ⟨Lc6, hQ6, lq6, yq6, zq6⟩, st6⟩ := X5.virtualBack hx (y := (⟨"com/example/timed_hold/timedhold/Counts", "held", "()J"⟩ : MethodName)) (z := (⟨"com/example/timed_hold/timedhold/Counts", "held", "()J"⟩ : MethodName)) hown (mvT hZ (hw _ (List.mem_of_getElem? (i := 25) rfl))) (mvT hZ (hw _ (List.mem_of_getElem? (i := 26) rfl))) (notFace_of_selects (args := #[]) (mvT hZ (hw _ (List.mem_of_getElem? (i := 28) rfl)))) (mvT hZ (hw _ (List.mem_of_getElem? (i := 28) rfl))) (mvT hZ (hw _ (List.mem_of_getElem? (i := 27) rfl))) (by decide) (backOf (W := 0) (rm5 l Z a0 hw [] b3 (y1 + y3) T5.heap n0 Z0 F_held_b3) hZ (hw _ (List.mem_of_getElem? (i := 29) rfl)) (hw _ (List.mem_of_getElem? (i := 2) rfl)) (by decide) (by decide)) q6a q6c (g := (mkF m 54 #[.val (.long y1), .second, .val (.long y2), .second, .val (.long y3), .second, .val (.long y4), .second, .val (.ref b1), .val (.ref b2), .val (.ref b3), .val (.long (y1 + y3)), .second, .val (.long (y2 + y4)), .second, .unset, .unset, .unset] [(.ref b3)])) rfl (by rw [hml]; rfl) (Steps.refl _) (argsL := []) (rest := []) (lenOf pd_3 rfl) rfl (by show 2 * 0 + _ ≤ _; exact Nat.le_of_eq rfl) (hb hby at_54) (fun _ _ => ⟨rfl, rfl, (by decide : 3 + 0 ≤ _), (by decide : 6 + 0 ≤ _)⟩)
  dsimp only [Pt.U, Pt.locs, Pt.cells, Pt.slots] at X6 lq6 yq6 zq6 st6 hQ6
  subst lq6 yq6 zq6
  obtain ⟨rfl, N6q, hq6⟩ := hQ6
  have N0 := Fr.app N0 N6q
  have e6 : T6.heap = T5.heap := hq6
  refine Dn.tr st6 ?_
  show Dn p e below s _ _ _ T6 (mkF m 57 #[.val (.long y1), .second, .val (.long y2), .second, .val (.long y3), .second, .val (.long y4), .second, .val (.ref b1), .val (.ref b2), .val (.ref b3), .val (.long (y1 + y3)), .second, .val (.long (y2 + y4)), .second, .unset, .unset, .unset] [(.long (y1 + y3))])
  refine Dn.st (fun t q => XS.lload X6.here hx rfl (hb hby at_57) rfl  q) ?_
  show Dn p e below s _ _ _ T6 (mkF m 59 #[.val (.long y1), .second, .val (.long y2), .second, .val (.long y3), .second, .val (.long y4), .second, .val (.ref b1), .val (.ref b2), .val (.ref b3), .val (.long (y1 + y3)), .second, .val (.long (y2 + y4)), .second, .unset, .unset, .unset] [(.long (y1 + y3)), (.long (y1 + y3))])
  refine Dn.st (fun t q => XS.lcmp X6.here hx rfl (hb hby at_59) rfl q) ?_
  show Dn p e below s _ _ _ T6 (mkF m 60 #[.val (.long y1), .second, .val (.long y2), .second, .val (.long y3), .second, .val (.long y4), .second, .val (.ref b1), .val (.ref b2), .val (.ref b3), .val (.long (y1 + y3)), .second, .val (.long (y2 + y4)), .second, .unset, .unset, .unset] [(.int (lcmpW (y1 + y3) (y1 + y3)))])
  refine Dn.st (fun t q => XS.ifNo X6.here hx rfl (hb hby at_60) rfl ((if0 _ _).trans (teq ((lw_eq _ _).mpr rfl)).2) q) ?_
  show Dn p e below s _ _ _ T6 (mkF m 63 #[.val (.long y1), .second, .val (.long y2), .second, .val (.long y3), .second, .val (.long y4), .second, .val (.ref b1), .val (.ref b2), .val (.ref b3), .val (.long (y1 + y3)), .second, .val (.long (y2 + y4)), .second, .unset, .unset, .unset] [])
  refine Dn.st (fun t q => XS.aload X6.here hx rfl (hb hby at_63) rfl rfl  q) ?_
  show Dn p e below s _ _ _ T6 (mkF m 65 #[.val (.long y1), .second, .val (.long y2), .second, .val (.long y3), .second, .val (.long y4), .second, .val (.ref b1), .val (.ref b2), .val (.ref b3), .val (.long (y1 + y3)), .second, .val (.long (y2 + y4)), .second, .unset, .unset, .unset] [(.ref b3)])
  obtain ⟨cq7, kq7, q7a, q7b, q7c⟩ := isOf hZ e6 E_b3
  obtain ⟨_, _, ⟨T7, Lq7, kq_7, nq_7⟩, -, X7, ⟨Lc7, hQ7, lq7, yq7, zq7⟩, st7⟩ := X6.virtualBack hx (y := (⟨"com/example/timed_hold/timedhold/Counts", "confirmed", "()J"⟩ : MethodName)) (z := (⟨"com/example/timed_hold/timedhold/Counts", "confirmed", "()J"⟩ : MethodName)) hown (mvT hZ (hw _ (List.mem_of_getElem? (i := 30) rfl))) (mvT hZ (hw _ (List.mem_of_getElem? (i := 31) rfl))) (notFace_of_selects (args := #[]) (mvT hZ (hw _ (List.mem_of_getElem? (i := 33) rfl)))) (mvT hZ (hw _ (List.mem_of_getElem? (i := 33) rfl))) (mvT hZ (hw _ (List.mem_of_getElem? (i := 32) rfl))) (by decide) (backOf (W := 0) (rm6 l Z a0 hw [] b3 (y2 + y4) T5.heap n0 Z0 F_confirmed_b3) hZ (hw _ (List.mem_of_getElem? (i := 34) rfl)) (hw _ (List.mem_of_getElem? (i := 2) rfl)) (by decide) (by decide)) q7a q7c (g := (mkF m 65 #[.val (.long y1), .second, .val (.long y2), .second, .val (.long y3), .second, .val (.long y4), .second, .val (.ref b1), .val (.ref b2), .val (.ref b3), .val (.long (y1 + y3)), .second, .val (.long (y2 + y4)), .second, .unset, .unset, .unset] [(.ref b3)])) rfl (by rw [hml]; rfl) (Steps.refl _) (argsL := []) (rest := []) (lenOf pd_3 rfl) rfl (by show 2 * 0 + _ ≤ _; exact Nat.le_of_eq rfl) (hb hby at_65) (fun _ _ => ⟨rfl, e6, (by decide : 3 + 0 ≤ _), (by decide : 6 + 0 ≤ _)⟩)
  dsimp only [Pt.U, Pt.locs, Pt.cells, Pt.slots] at X7 lq7 yq7 zq7 st7 hQ7
  subst lq7 yq7 zq7
  obtain ⟨rfl, N7q, hq7⟩ := hQ7
  have N0 := Fr.app N0 N7q
  have e7 : T7.heap = T5.heap := hq7
  refine Dn.tr st7 ?_
  show Dn p e below s _ _ _ T7 (mkF m 68 #[.val (.long y1), .second, .val (.long y2), .second, .val (.long y3), .second, .val (.long y4), .second, .val (.ref b1), .val (.ref b2), .val (.ref b3), .val (.long (y1 + y3)), .second, .val (.long (y2 + y4)), .second, .unset, .unset, .unset] [(.long (y2 + y4))])
  refine Dn.st (fun t q => XS.lload X7.here hx rfl (hb hby at_68) rfl  q) ?_
  show Dn p e below s _ _ _ T7 (mkF m 70 #[.val (.long y1), .second, .val (.long y2), .second, .val (.long y3), .second, .val (.long y4), .second, .val (.ref b1), .val (.ref b2), .val (.ref b3), .val (.long (y1 + y3)), .second, .val (.long (y2 + y4)), .second, .unset, .unset, .unset] [(.long (y2 + y4)), (.long (y2 + y4))])
  refine Dn.st (fun t q => XS.lcmp X7.here hx rfl (hb hby at_70) rfl q) ?_
  show Dn p e below s _ _ _ T7 (mkF m 71 #[.val (.long y1), .second, .val (.long y2), .second, .val (.long y3), .second, .val (.long y4), .second, .val (.ref b1), .val (.ref b2), .val (.ref b3), .val (.long (y1 + y3)), .second, .val (.long (y2 + y4)), .second, .unset, .unset, .unset] [(.int (lcmpW (y2 + y4) (y2 + y4)))])
  refine Dn.st (fun t q => XS.ifNo X7.here hx rfl (hb hby at_71) rfl ((if0 _ _).trans (teq ((lw_eq _ _).mpr rfl)).2) q) ?_
  show Dn p e below s _ _ _ T7 (mkF m 74 #[.val (.long y1), .second, .val (.long y2), .second, .val (.long y3), .second, .val (.long y4), .second, .val (.ref b1), .val (.ref b2), .val (.ref b3), .val (.long (y1 + y3)), .second, .val (.long (y2 + y4)), .second, .unset, .unset, .unset] [])
  refine Dn.st (fun t q => XS.iconst X7.here hx rfl (hb hby at_74) q) ?_
  show Dn p e below s _ _ _ T7 (mkF m 75 #[.val (.long y1), .second, .val (.long y2), .second, .val (.long y3), .second, .val (.long y4), .second, .val (.ref b1), .val (.ref b2), .val (.ref b3), .val (.long (y1 + y3)), .second, .val (.long (y2 + y4)), .second, .unset, .unset, .unset] [(.int (1 : Int32))])
  refine Dn.st (fun t q => XS.goto X7.here hx rfl (pc0 := 75) (pc' := 79) rfl (hb hby at_75) (by decide) (by decide) q) ?_
  show Dn p e below s _ _ _ T7 (mkF m 79 #[.val (.long y1), .second, .val (.long y2), .second, .val (.long y3), .second, .val (.long y4), .second, .val (.ref b1), .val (.ref b2), .val (.ref b3), .val (.long (y1 + y3)), .second, .val (.long (y2 + y4)), .second, .unset, .unset, .unset] [(.int (1 : Int32))])
  refine Dn.st (fun t q => XS.istore X7.here hx rfl (hb hby at_79) rfl (l' := #[.val (.long y1), .second, .val (.long y2), .second, .val (.long y3), .second, .val (.long y4), .second, .val (.ref b1), .val (.ref b2), .val (.ref b3), .val (.long (y1 + y3)), .second, .val (.long (y2 + y4)), .second, .val (.int (1 : Int32)), .unset, .unset]) rfl q) ?_
  show Dn p e below s _ _ _ T7 (mkF m 81 #[.val (.long y1), .second, .val (.long y2), .second, .val (.long y3), .second, .val (.long y4), .second, .val (.ref b1), .val (.ref b2), .val (.ref b3), .val (.long (y1 + y3)), .second, .val (.long (y2 + y4)), .second, .val (.int (1 : Int32)), .unset, .unset] [])
  refine Dn.st (fun t q => XS.aload X7.here hx rfl (hb hby at_81) rfl rfl  q) ?_
  show Dn p e below s _ _ _ T7 (mkF m 83 #[.val (.long y1), .second, .val (.long y2), .second, .val (.long y3), .second, .val (.long y4), .second, .val (.ref b1), .val (.ref b2), .val (.ref b3), .val (.long (y1 + y3)), .second, .val (.long (y2 + y4)), .second, .val (.int (1 : Int32)), .unset, .unset] [(.ref b3)])
  obtain ⟨cq8, kq8, q8a, q8b, q8c⟩ := isOf hZ e7 E_b3
  obtain ⟨_, _, ⟨T8, Lq8, kq_8, nq_8⟩, -, X8, ⟨Lc8, hQ8, lq8, yq8, zq8⟩, st8⟩ := X7.virtualBack hx (y := (⟨"com/example/timed_hold/timedhold/Counts", "units", "()J"⟩ : MethodName)) (z := (⟨"com/example/timed_hold/timedhold/Counts", "units", "()J"⟩ : MethodName)) hown (mvT hZ (hw _ (List.mem_of_getElem? (i := 35) rfl))) (mvT hZ (hw _ (List.mem_of_getElem? (i := 36) rfl))) (notFace_of_selects (args := #[]) (mvT hZ (hw _ (List.mem_of_getElem? (i := 38) rfl)))) (mvT hZ (hw _ (List.mem_of_getElem? (i := 38) rfl))) (mvT hZ (hw _ (List.mem_of_getElem? (i := 37) rfl))) (by decide) (backOf (W := 0) (rm7 l Z a0 hw [] b3 (y1 + y3) (y2 + y4) T5.heap n0 Z0 F_held_b3 F_confirmed_b3) hZ (hw _ (List.mem_of_getElem? (i := 39) rfl)) (hw _ (List.mem_of_getElem? (i := 2) rfl)) (by decide) (by decide)) q8a q8c (g := (mkF m 83 #[.val (.long y1), .second, .val (.long y2), .second, .val (.long y3), .second, .val (.long y4), .second, .val (.ref b1), .val (.ref b2), .val (.ref b3), .val (.long (y1 + y3)), .second, .val (.long (y2 + y4)), .second, .val (.int (1 : Int32)), .unset, .unset] [(.ref b3)])) rfl (by rw [hml]; rfl) (Steps.refl _) (argsL := []) (rest := []) (lenOf pd_3 rfl) rfl (by show 2 * 0 + _ ≤ _; exact Nat.le_of_eq rfl) (hb hby at_83) (fun _ _ => ⟨rfl, e7, (by decide : 3 + 0 ≤ _), (by decide : 6 + 0 ≤ _)⟩)
  dsimp only [Pt.U, Pt.locs, Pt.cells, Pt.slots] at X8 lq8 yq8 zq8 st8 hQ8
  subst lq8 yq8 zq8
  obtain ⟨rfl, N8q, hq8⟩ := hQ8
  have N0 := Fr.app N0 N8q
  have e8 : T8.heap = T5.heap := hq8
  refine Dn.tr st8 ?_
  show Dn p e below s _ _ _ T8 (mkF m 86 #[.val (.long y1), .second, .val (.long y2), .second, .val (.long y3), .second, .val (.long y4), .second, .val (.ref b1), .val (.ref b2), .val (.ref b3), .val (.long (y1 + y3)), .second, .val (.long (y2 + y4)), .second, .val (.int (1 : Int32)), .unset, .unset] [(.long ((y1 + y3) + (y2 + y4)))])
  refine Dn.st (fun t q => XS.lload X8.here hx rfl (hb hby at_86) rfl  q) ?_
  show Dn p e below s _ _ _ T8 (mkF m 88 #[.val (.long y1), .second, .val (.long y2), .second, .val (.long y3), .second, .val (.long y4), .second, .val (.ref b1), .val (.ref b2), .val (.ref b3), .val (.long (y1 + y3)), .second, .val (.long (y2 + y4)), .second, .val (.int (1 : Int32)), .unset, .unset] [(.long (y1 + y3)), (.long ((y1 + y3) + (y2 + y4)))])
  refine Dn.st (fun t q => XS.lload X8.here hx rfl (hb hby at_88) rfl  q) ?_
  show Dn p e below s _ _ _ T8 (mkF m 90 #[.val (.long y1), .second, .val (.long y2), .second, .val (.long y3), .second, .val (.long y4), .second, .val (.ref b1), .val (.ref b2), .val (.ref b3), .val (.long (y1 + y3)), .second, .val (.long (y2 + y4)), .second, .val (.int (1 : Int32)), .unset, .unset] [(.long (y2 + y4)), (.long (y1 + y3)), (.long ((y1 + y3) + (y2 + y4)))])
  refine Dn.st (fun t q => XS.ladd X8.here hx rfl (hb hby at_90) rfl q) ?_
  show Dn p e below s _ _ _ T8 (mkF m 91 #[.val (.long y1), .second, .val (.long y2), .second, .val (.long y3), .second, .val (.long y4), .second, .val (.ref b1), .val (.ref b2), .val (.ref b3), .val (.long (y1 + y3)), .second, .val (.long (y2 + y4)), .second, .val (.int (1 : Int32)), .unset, .unset] [(.long ((y1 + y3) + (y2 + y4))), (.long ((y1 + y3) + (y2 + y4)))])
  refine Dn.st (fun t q => XS.lcmp X8.here hx rfl (hb hby at_91) rfl q) ?_
  show Dn p e below s _ _ _ T8 (mkF m 92 #[.val (.long y1), .second, .val (.long y2), .second, .val (.long y3), .second, .val (.long y4), .second, .val (.ref b1), .val (.ref b2), .val (.ref b3), .val (.long (y1 + y3)), .second, .val (.long (y2 + y4)), .second, .val (.int (1 : Int32)), .unset, .unset] [(.int (lcmpW ((y1 + y3) + (y2 + y4)) ((y1 + y3) + (y2 + y4))))])
  refine Dn.st (fun t q => XS.ifNo X8.here hx rfl (hb hby at_92) rfl ((if0 _ _).trans (teq ((lw_eq _ _).mpr rfl)).2) q) ?_
  show Dn p e below s _ _ _ T8 (mkF m 95 #[.val (.long y1), .second, .val (.long y2), .second, .val (.long y3), .second, .val (.long y4), .second, .val (.ref b1), .val (.ref b2), .val (.ref b3), .val (.long (y1 + y3)), .second, .val (.long (y2 + y4)), .second, .val (.int (1 : Int32)), .unset, .unset] [])
  refine Dn.st (fun t q => XS.iconst X8.here hx rfl (hb hby at_95) q) ?_
  show Dn p e below s _ _ _ T8 (mkF m 96 #[.val (.long y1), .second, .val (.long y2), .second, .val (.long y3), .second, .val (.long y4), .second, .val (.ref b1), .val (.ref b2), .val (.ref b3), .val (.long (y1 + y3)), .second, .val (.long (y2 + y4)), .second, .val (.int (1 : Int32)), .unset, .unset] [(.int (1 : Int32))])
  refine Dn.st (fun t q => XS.goto X8.here hx rfl (pc0 := 96) (pc' := 100) rfl (hb hby at_96) (by decide) (by decide) q) ?_
  show Dn p e below s _ _ _ T8 (mkF m 100 #[.val (.long y1), .second, .val (.long y2), .second, .val (.long y3), .second, .val (.long y4), .second, .val (.ref b1), .val (.ref b2), .val (.ref b3), .val (.long (y1 + y3)), .second, .val (.long (y2 + y4)), .second, .val (.int (1 : Int32)), .unset, .unset] [(.int (1 : Int32))])
  refine Dn.st (fun t q => XS.istore X8.here hx rfl (hb hby at_100) rfl (l' := #[.val (.long y1), .second, .val (.long y2), .second, .val (.long y3), .second, .val (.long y4), .second, .val (.ref b1), .val (.ref b2), .val (.ref b3), .val (.long (y1 + y3)), .second, .val (.long (y2 + y4)), .second, .val (.int (1 : Int32)), .val (.int (1 : Int32)), .unset]) rfl q) ?_
  show Dn p e below s _ _ _ T8 (mkF m 102 #[.val (.long y1), .second, .val (.long y2), .second, .val (.long y3), .second, .val (.long y4), .second, .val (.ref b1), .val (.ref b2), .val (.ref b3), .val (.long (y1 + y3)), .second, .val (.long (y2 + y4)), .second, .val (.int (1 : Int32)), .val (.int (1 : Int32)), .unset] [])
  refine Dn.st (fun t q => XS.aload X8.here hx rfl (hb hby at_102) rfl rfl  q) ?_
  show Dn p e below s _ _ _ T8 (mkF m 104 #[.val (.long y1), .second, .val (.long y2), .second, .val (.long y3), .second, .val (.long y4), .second, .val (.ref b1), .val (.ref b2), .val (.ref b3), .val (.long (y1 + y3)), .second, .val (.long (y2 + y4)), .second, .val (.int (1 : Int32)), .val (.int (1 : Int32)), .unset] [(.ref b1)])
  obtain ⟨cq9, kq9, q9a, q9b, q9c⟩ := isOf hZ e8 E_b1
  obtain ⟨_, _, ⟨T9, Lq9, kq_9, nq_9⟩, -, X9, ⟨Lc9, hQ9, lq9, yq9, zq9⟩, st9⟩ := X8.virtualBack hx (y := (⟨"com/example/timed_hold/timedhold/Counts", "held", "()J"⟩ : MethodName)) (z := (⟨"com/example/timed_hold/timedhold/Counts", "held", "()J"⟩ : MethodName)) hown (mvT hZ (hw _ (List.mem_of_getElem? (i := 25) rfl))) (mvT hZ (hw _ (List.mem_of_getElem? (i := 26) rfl))) (notFace_of_selects (args := #[]) (mvT hZ (hw _ (List.mem_of_getElem? (i := 28) rfl)))) (mvT hZ (hw _ (List.mem_of_getElem? (i := 28) rfl))) (mvT hZ (hw _ (List.mem_of_getElem? (i := 27) rfl))) (by decide) (backOf (W := 0) (rm5 l Z a0 hw [] b1 y1 T5.heap n0 Z0 F_held_b1) hZ (hw _ (List.mem_of_getElem? (i := 29) rfl)) (hw _ (List.mem_of_getElem? (i := 2) rfl)) (by decide) (by decide)) q9a q9c (g := (mkF m 104 #[.val (.long y1), .second, .val (.long y2), .second, .val (.long y3), .second, .val (.long y4), .second, .val (.ref b1), .val (.ref b2), .val (.ref b3), .val (.long (y1 + y3)), .second, .val (.long (y2 + y4)), .second, .val (.int (1 : Int32)), .val (.int (1 : Int32)), .unset] [(.ref b1)])) rfl (by rw [hml]; rfl) (Steps.refl _) (argsL := []) (rest := []) (lenOf pd_3 rfl) rfl (by show 2 * 0 + _ ≤ _; exact Nat.le_of_eq rfl) (hb hby at_104) (fun _ _ => ⟨rfl, e8, (by decide : 3 + 0 ≤ _), (by decide : 6 + 0 ≤ _)⟩)
  dsimp only [Pt.U, Pt.locs, Pt.cells, Pt.slots] at X9 lq9 yq9 zq9 st9 hQ9
  subst lq9 yq9 zq9
  obtain ⟨rfl, N9q, hq9⟩ := hQ9
  have N0 := Fr.app N0 N9q
  have e9 : T9.heap = T5.heap := hq9
  refine Dn.tr st9 ?_
  show Dn p e below s _ _ _ T9 (mkF m 107 #[.val (.long y1), .second, .val (.long y2), .second, .val (.long y3), .second, .val (.long y4), .second, .val (.ref b1), .val (.ref b2), .val (.ref b3), .val (.long (y1 + y3)), .second, .val (.long (y2 + y4)), .second, .val (.int (1 : Int32)), .val (.int (1 : Int32)), .unset] [(.long y1)])
  refine Dn.st (fun t q => XS.lloadN X9.here hx rfl (hb hby at_107) rfl  q) ?_
  show Dn p e below s _ _ _ T9 (mkF m 108 #[.val (.long y1), .second, .val (.long y2), .second, .val (.long y3), .second, .val (.long y4), .second, .val (.ref b1), .val (.ref b2), .val (.ref b3), .val (.long (y1 + y3)), .second, .val (.long (y2 + y4)), .second, .val (.int (1 : Int32)), .val (.int (1 : Int32)), .unset] [(.long y1), (.long y1)])
  refine Dn.st (fun t q => XS.lcmp X9.here hx rfl (hb hby at_108) rfl q) ?_
  show Dn p e below s _ _ _ T9 (mkF m 109 #[.val (.long y1), .second, .val (.long y2), .second, .val (.long y3), .second, .val (.long y4), .second, .val (.ref b1), .val (.ref b2), .val (.ref b3), .val (.long (y1 + y3)), .second, .val (.long (y2 + y4)), .second, .val (.int (1 : Int32)), .val (.int (1 : Int32)), .unset] [(.int (lcmpW y1 y1))])
  refine Dn.st (fun t q => XS.ifNo X9.here hx rfl (hb hby at_109) rfl ((if0 _ _).trans (teq ((lw_eq _ _).mpr rfl)).2) q) ?_
  show Dn p e below s _ _ _ T9 (mkF m 112 #[.val (.long y1), .second, .val (.long y2), .second, .val (.long y3), .second, .val (.long y4), .second, .val (.ref b1), .val (.ref b2), .val (.ref b3), .val (.long (y1 + y3)), .second, .val (.long (y2 + y4)), .second, .val (.int (1 : Int32)), .val (.int (1 : Int32)), .unset] [])
  refine Dn.st (fun t q => XS.aload X9.here hx rfl (hb hby at_112) rfl rfl  q) ?_
  show Dn p e below s _ _ _ T9 (mkF m 114 #[.val (.long y1), .second, .val (.long y2), .second, .val (.long y3), .second, .val (.long y4), .second, .val (.ref b1), .val (.ref b2), .val (.ref b3), .val (.long (y1 + y3)), .second, .val (.long (y2 + y4)), .second, .val (.int (1 : Int32)), .val (.int (1 : Int32)), .unset] [(.ref b1)])
  obtain ⟨cq10, kq10, q10a, q10b, q10c⟩ := isOf hZ e9 E_b1
  obtain ⟨_, _, ⟨T10, Lq10, kq_10, nq_10⟩, -, X10, ⟨Lc10, hQ10, lq10, yq10, zq10⟩, st10⟩ := X9.virtualBack hx (y := (⟨"com/example/timed_hold/timedhold/Counts", "confirmed", "()J"⟩ : MethodName)) (z := (⟨"com/example/timed_hold/timedhold/Counts", "confirmed", "()J"⟩ : MethodName)) hown (mvT hZ (hw _ (List.mem_of_getElem? (i := 30) rfl))) (mvT hZ (hw _ (List.mem_of_getElem? (i := 31) rfl))) (notFace_of_selects (args := #[]) (mvT hZ (hw _ (List.mem_of_getElem? (i := 33) rfl)))) (mvT hZ (hw _ (List.mem_of_getElem? (i := 33) rfl))) (mvT hZ (hw _ (List.mem_of_getElem? (i := 32) rfl))) (by decide) (backOf (W := 0) (rm6 l Z a0 hw [] b1 y2 T5.heap n0 Z0 F_confirmed_b1) hZ (hw _ (List.mem_of_getElem? (i := 34) rfl)) (hw _ (List.mem_of_getElem? (i := 2) rfl)) (by decide) (by decide)) q10a q10c (g := (mkF m 114 #[.val (.long y1), .second, .val (.long y2), .second, .val (.long y3), .second, .val (.long y4), .second, .val (.ref b1), .val (.ref b2), .val (.ref b3), .val (.long (y1 + y3)), .second, .val (.long (y2 + y4)), .second, .val (.int (1 : Int32)), .val (.int (1 : Int32)), .unset] [(.ref b1)])) rfl (by rw [hml]; rfl) (Steps.refl _) (argsL := []) (rest := []) (lenOf pd_3 rfl) rfl (by show 2 * 0 + _ ≤ _; exact Nat.le_of_eq rfl) (hb hby at_114) (fun _ _ => ⟨rfl, e9, (by decide : 3 + 0 ≤ _), (by decide : 6 + 0 ≤ _)⟩)
  dsimp only [Pt.U, Pt.locs, Pt.cells, Pt.slots] at X10 lq10 yq10 zq10 st10 hQ10
  subst lq10 yq10 zq10
  obtain ⟨rfl, N10q, hq10⟩ := hQ10
  have N0 := Fr.app N0 N10q
  have e10 : T10.heap = T5.heap := hq10
  refine Dn.tr st10 ?_
  show Dn p e below s _ _ _ T10 (mkF m 117 #[.val (.long y1), .second, .val (.long y2), .second, .val (.long y3), .second, .val (.long y4), .second, .val (.ref b1), .val (.ref b2), .val (.ref b3), .val (.long (y1 + y3)), .second, .val (.long (y2 + y4)), .second, .val (.int (1 : Int32)), .val (.int (1 : Int32)), .unset] [(.long y2)])
  refine Dn.st (fun t q => XS.lloadN X10.here hx rfl (hb hby at_117) rfl  q) ?_
  show Dn p e below s _ _ _ T10 (mkF m 118 #[.val (.long y1), .second, .val (.long y2), .second, .val (.long y3), .second, .val (.long y4), .second, .val (.ref b1), .val (.ref b2), .val (.ref b3), .val (.long (y1 + y3)), .second, .val (.long (y2 + y4)), .second, .val (.int (1 : Int32)), .val (.int (1 : Int32)), .unset] [(.long y2), (.long y2)])
  refine Dn.st (fun t q => XS.lcmp X10.here hx rfl (hb hby at_118) rfl q) ?_
  show Dn p e below s _ _ _ T10 (mkF m 119 #[.val (.long y1), .second, .val (.long y2), .second, .val (.long y3), .second, .val (.long y4), .second, .val (.ref b1), .val (.ref b2), .val (.ref b3), .val (.long (y1 + y3)), .second, .val (.long (y2 + y4)), .second, .val (.int (1 : Int32)), .val (.int (1 : Int32)), .unset] [(.int (lcmpW y2 y2))])
  refine Dn.st (fun t q => XS.ifNo X10.here hx rfl (hb hby at_119) rfl ((if0 _ _).trans (teq ((lw_eq _ _).mpr rfl)).2) q) ?_
  show Dn p e below s _ _ _ T10 (mkF m 122 #[.val (.long y1), .second, .val (.long y2), .second, .val (.long y3), .second, .val (.long y4), .second, .val (.ref b1), .val (.ref b2), .val (.ref b3), .val (.long (y1 + y3)), .second, .val (.long (y2 + y4)), .second, .val (.int (1 : Int32)), .val (.int (1 : Int32)), .unset] [])
  refine Dn.st (fun t q => XS.aload X10.here hx rfl (hb hby at_122) rfl rfl  q) ?_
  show Dn p e below s _ _ _ T10 (mkF m 124 #[.val (.long y1), .second, .val (.long y2), .second, .val (.long y3), .second, .val (.long y4), .second, .val (.ref b1), .val (.ref b2), .val (.ref b3), .val (.long (y1 + y3)), .second, .val (.long (y2 + y4)), .second, .val (.int (1 : Int32)), .val (.int (1 : Int32)), .unset] [(.ref b2)])
  obtain ⟨cq11, kq11, q11a, q11b, q11c⟩ := isOf hZ e10 E_b2
  obtain ⟨_, _, ⟨T11, Lq11, kq_11, nq_11⟩, -, X11, ⟨Lc11, hQ11, lq11, yq11, zq11⟩, st11⟩ := X10.virtualBack hx (y := (⟨"com/example/timed_hold/timedhold/Counts", "held", "()J"⟩ : MethodName)) (z := (⟨"com/example/timed_hold/timedhold/Counts", "held", "()J"⟩ : MethodName)) hown (mvT hZ (hw _ (List.mem_of_getElem? (i := 25) rfl))) (mvT hZ (hw _ (List.mem_of_getElem? (i := 26) rfl))) (notFace_of_selects (args := #[]) (mvT hZ (hw _ (List.mem_of_getElem? (i := 28) rfl)))) (mvT hZ (hw _ (List.mem_of_getElem? (i := 28) rfl))) (mvT hZ (hw _ (List.mem_of_getElem? (i := 27) rfl))) (by decide) (backOf (W := 0) (rm5 l Z a0 hw [] b2 y3 T5.heap n0 Z0 F_held_b2) hZ (hw _ (List.mem_of_getElem? (i := 29) rfl)) (hw _ (List.mem_of_getElem? (i := 2) rfl)) (by decide) (by decide)) q11a q11c (g := (mkF m 124 #[.val (.long y1), .second, .val (.long y2), .second, .val (.long y3), .second, .val (.long y4), .second, .val (.ref b1), .val (.ref b2), .val (.ref b3), .val (.long (y1 + y3)), .second, .val (.long (y2 + y4)), .second, .val (.int (1 : Int32)), .val (.int (1 : Int32)), .unset] [(.ref b2)])) rfl (by rw [hml]; rfl) (Steps.refl _) (argsL := []) (rest := []) (lenOf pd_3 rfl) rfl (by show 2 * 0 + _ ≤ _; exact Nat.le_of_eq rfl) (hb hby at_124) (fun _ _ => ⟨rfl, e10, (by decide : 3 + 0 ≤ _), (by decide : 6 + 0 ≤ _)⟩)
  dsimp only [Pt.U, Pt.locs, Pt.cells, Pt.slots] at X11 lq11 yq11 zq11 st11 hQ11
  subst lq11 yq11 zq11
  obtain ⟨rfl, N11q, hq11⟩ := hQ11
  have N0 := Fr.app N0 N11q
  have e11 : T11.heap = T5.heap := hq11
  refine Dn.tr st11 ?_
  show Dn p e below s _ _ _ T11 (mkF m 127 #[.val (.long y1), .second, .val (.long y2), .second, .val (.long y3), .second, .val (.long y4), .second, .val (.ref b1), .val (.ref b2), .val (.ref b3), .val (.long (y1 + y3)), .second, .val (.long (y2 + y4)), .second, .val (.int (1 : Int32)), .val (.int (1 : Int32)), .unset] [(.long y3)])
  refine Dn.st (fun t q => XS.lload X11.here hx rfl (hb hby at_127) rfl  q) ?_
  show Dn p e below s _ _ _ T11 (mkF m 129 #[.val (.long y1), .second, .val (.long y2), .second, .val (.long y3), .second, .val (.long y4), .second, .val (.ref b1), .val (.ref b2), .val (.ref b3), .val (.long (y1 + y3)), .second, .val (.long (y2 + y4)), .second, .val (.int (1 : Int32)), .val (.int (1 : Int32)), .unset] [(.long y3), (.long y3)])
  refine Dn.st (fun t q => XS.lcmp X11.here hx rfl (hb hby at_129) rfl q) ?_
  show Dn p e below s _ _ _ T11 (mkF m 130 #[.val (.long y1), .second, .val (.long y2), .second, .val (.long y3), .second, .val (.long y4), .second, .val (.ref b1), .val (.ref b2), .val (.ref b3), .val (.long (y1 + y3)), .second, .val (.long (y2 + y4)), .second, .val (.int (1 : Int32)), .val (.int (1 : Int32)), .unset] [(.int (lcmpW y3 y3))])
  refine Dn.st (fun t q => XS.ifNo X11.here hx rfl (hb hby at_130) rfl ((if0 _ _).trans (teq ((lw_eq _ _).mpr rfl)).2) q) ?_
  show Dn p e below s _ _ _ T11 (mkF m 133 #[.val (.long y1), .second, .val (.long y2), .second, .val (.long y3), .second, .val (.long y4), .second, .val (.ref b1), .val (.ref b2), .val (.ref b3), .val (.long (y1 + y3)), .second, .val (.long (y2 + y4)), .second, .val (.int (1 : Int32)), .val (.int (1 : Int32)), .unset] [])
  refine Dn.st (fun t q => XS.aload X11.here hx rfl (hb hby at_133) rfl rfl  q) ?_
  show Dn p e below s _ _ _ T11 (mkF m 135 #[.val (.long y1), .second, .val (.long y2), .second, .val (.long y3), .second, .val (.long y4), .second, .val (.ref b1), .val (.ref b2), .val (.ref b3), .val (.long (y1 + y3)), .second, .val (.long (y2 + y4)), .second, .val (.int (1 : Int32)), .val (.int (1 : Int32)), .unset] [(.ref b2)])
  obtain ⟨cq12, kq12, q12a, q12b, q12c⟩ := isOf hZ e11 E_b2
  obtain ⟨_, _, ⟨T12, Lq12, kq_12, nq_12⟩, -, X12, ⟨Lc12, hQ12, lq12, yq12, zq12⟩, st12⟩ := X11.virtualBack hx (y := (⟨"com/example/timed_hold/timedhold/Counts", "confirmed", "()J"⟩ : MethodName)) (z := (⟨"com/example/timed_hold/timedhold/Counts", "confirmed", "()J"⟩ : MethodName)) hown (mvT hZ (hw _ (List.mem_of_getElem? (i := 30) rfl))) (mvT hZ (hw _ (List.mem_of_getElem? (i := 31) rfl))) (notFace_of_selects (args := #[]) (mvT hZ (hw _ (List.mem_of_getElem? (i := 33) rfl)))) (mvT hZ (hw _ (List.mem_of_getElem? (i := 33) rfl))) (mvT hZ (hw _ (List.mem_of_getElem? (i := 32) rfl))) (by decide) (backOf (W := 0) (rm6 l Z a0 hw [] b2 y4 T5.heap n0 Z0 F_confirmed_b2) hZ (hw _ (List.mem_of_getElem? (i := 34) rfl)) (hw _ (List.mem_of_getElem? (i := 2) rfl)) (by decide) (by decide)) q12a q12c (g := (mkF m 135 #[.val (.long y1), .second, .val (.long y2), .second, .val (.long y3), .second, .val (.long y4), .second, .val (.ref b1), .val (.ref b2), .val (.ref b3), .val (.long (y1 + y3)), .second, .val (.long (y2 + y4)), .second, .val (.int (1 : Int32)), .val (.int (1 : Int32)), .unset] [(.ref b2)])) rfl (by rw [hml]; rfl) (Steps.refl _) (argsL := []) (rest := []) (lenOf pd_3 rfl) rfl (by show 2 * 0 + _ ≤ _; exact Nat.le_of_eq rfl) (hb hby at_135) (fun _ _ => ⟨rfl, e11, (by decide : 3 + 0 ≤ _), (by decide : 6 + 0 ≤ _)⟩)
  dsimp only [Pt.U, Pt.locs, Pt.cells, Pt.slots] at X12 lq12 yq12 zq12 st12 hQ12
  subst lq12 yq12 zq12
  obtain ⟨rfl, N12q, hq12⟩ := hQ12
  have N0 := Fr.app N0 N12q
  have e12 : T12.heap = T5.heap := hq12
  refine Dn.tr st12 ?_
  show Dn p e below s _ _ _ T12 (mkF m 138 #[.val (.long y1), .second, .val (.long y2), .second, .val (.long y3), .second, .val (.long y4), .second, .val (.ref b1), .val (.ref b2), .val (.ref b3), .val (.long (y1 + y3)), .second, .val (.long (y2 + y4)), .second, .val (.int (1 : Int32)), .val (.int (1 : Int32)), .unset] [(.long y4)])
  refine Dn.st (fun t q => XS.lload X12.here hx rfl (hb hby at_138) rfl  q) ?_
  show Dn p e below s _ _ _ T12 (mkF m 140 #[.val (.long y1), .second, .val (.long y2), .second, .val (.long y3), .second, .val (.long y4), .second, .val (.ref b1), .val (.ref b2), .val (.ref b3), .val (.long (y1 + y3)), .second, .val (.long (y2 + y4)), .second, .val (.int (1 : Int32)), .val (.int (1 : Int32)), .unset] [(.long y4), (.long y4)])
  refine Dn.st (fun t q => XS.lcmp X12.here hx rfl (hb hby at_140) rfl q) ?_
  show Dn p e below s _ _ _ T12 (mkF m 141 #[.val (.long y1), .second, .val (.long y2), .second, .val (.long y3), .second, .val (.long y4), .second, .val (.ref b1), .val (.ref b2), .val (.ref b3), .val (.long (y1 + y3)), .second, .val (.long (y2 + y4)), .second, .val (.int (1 : Int32)), .val (.int (1 : Int32)), .unset] [(.int (lcmpW y4 y4))])
  refine Dn.st (fun t q => XS.ifNo X12.here hx rfl (hb hby at_141) rfl ((if0 _ _).trans (teq ((lw_eq _ _).mpr rfl)).2) q) ?_
  show Dn p e below s _ _ _ T12 (mkF m 144 #[.val (.long y1), .second, .val (.long y2), .second, .val (.long y3), .second, .val (.long y4), .second, .val (.ref b1), .val (.ref b2), .val (.ref b3), .val (.long (y1 + y3)), .second, .val (.long (y2 + y4)), .second, .val (.int (1 : Int32)), .val (.int (1 : Int32)), .unset] [])
  refine Dn.st (fun t q => XS.iconst X12.here hx rfl (hb hby at_144) q) ?_
  show Dn p e below s _ _ _ T12 (mkF m 145 #[.val (.long y1), .second, .val (.long y2), .second, .val (.long y3), .second, .val (.long y4), .second, .val (.ref b1), .val (.ref b2), .val (.ref b3), .val (.long (y1 + y3)), .second, .val (.long (y2 + y4)), .second, .val (.int (1 : Int32)), .val (.int (1 : Int32)), .unset] [(.int (1 : Int32))])
  refine Dn.st (fun t q => XS.goto X12.here hx rfl (pc0 := 145) (pc' := 149) rfl (hb hby at_145) (by decide) (by decide) q) ?_
  show Dn p e below s _ _ _ T12 (mkF m 149 #[.val (.long y1), .second, .val (.long y2), .second, .val (.long y3), .second, .val (.long y4), .second, .val (.ref b1), .val (.ref b2), .val (.ref b3), .val (.long (y1 + y3)), .second, .val (.long (y2 + y4)), .second, .val (.int (1 : Int32)), .val (.int (1 : Int32)), .unset] [(.int (1 : Int32))])
  refine Dn.st (fun t q => XS.istore X12.here hx rfl (hb hby at_149) rfl (l' := #[.val (.long y1), .second, .val (.long y2), .second, .val (.long y3), .second, .val (.long y4), .second, .val (.ref b1), .val (.ref b2), .val (.ref b3), .val (.long (y1 + y3)), .second, .val (.long (y2 + y4)), .second, .val (.int (1 : Int32)), .val (.int (1 : Int32)), .val (.int (1 : Int32))]) rfl q) ?_
  show Dn p e below s _ _ _ T12 (mkF m 151 #[.val (.long y1), .second, .val (.long y2), .second, .val (.long y3), .second, .val (.long y4), .second, .val (.ref b1), .val (.ref b2), .val (.ref b3), .val (.long (y1 + y3)), .second, .val (.long (y2 + y4)), .second, .val (.int (1 : Int32)), .val (.int (1 : Int32)), .val (.int (1 : Int32))] [])
  refine Dn.st (fun t q => XS.iload X12.here hx rfl (hb hby at_151) rfl  q) ?_
  show Dn p e below s _ _ _ T12 (mkF m 153 #[.val (.long y1), .second, .val (.long y2), .second, .val (.long y3), .second, .val (.long y4), .second, .val (.ref b1), .val (.ref b2), .val (.ref b3), .val (.long (y1 + y3)), .second, .val (.long (y2 + y4)), .second, .val (.int (1 : Int32)), .val (.int (1 : Int32)), .val (.int (1 : Int32))] [(.int (1 : Int32))])
  refine Dn.st (fun t q => XS.ifNo X12.here hx rfl (hb hby at_153) rfl ((if0 _ _).trans (feq (by decide)).1) q) ?_
  show Dn p e below s _ _ _ T12 (mkF m 156 #[.val (.long y1), .second, .val (.long y2), .second, .val (.long y3), .second, .val (.long y4), .second, .val (.ref b1), .val (.ref b2), .val (.ref b3), .val (.long (y1 + y3)), .second, .val (.long (y2 + y4)), .second, .val (.int (1 : Int32)), .val (.int (1 : Int32)), .val (.int (1 : Int32))] [])
  refine Dn.st (fun t q => XS.iload X12.here hx rfl (hb hby at_156) rfl  q) ?_
  show Dn p e below s _ _ _ T12 (mkF m 158 #[.val (.long y1), .second, .val (.long y2), .second, .val (.long y3), .second, .val (.long y4), .second, .val (.ref b1), .val (.ref b2), .val (.ref b3), .val (.long (y1 + y3)), .second, .val (.long (y2 + y4)), .second, .val (.int (1 : Int32)), .val (.int (1 : Int32)), .val (.int (1 : Int32))] [(.int (1 : Int32))])
  refine Dn.st (fun t q => XS.ifNo X12.here hx rfl (hb hby at_158) rfl ((if0 _ _).trans (feq (by decide)).1) q) ?_
  show Dn p e below s _ _ _ T12 (mkF m 161 #[.val (.long y1), .second, .val (.long y2), .second, .val (.long y3), .second, .val (.long y4), .second, .val (.ref b1), .val (.ref b2), .val (.ref b3), .val (.long (y1 + y3)), .second, .val (.long (y2 + y4)), .second, .val (.int (1 : Int32)), .val (.int (1 : Int32)), .val (.int (1 : Int32))] [])
  refine Dn.st (fun t q => XS.iload X12.here hx rfl (hb hby at_161) rfl  q) ?_
  show Dn p e below s _ _ _ T12 (mkF m 163 #[.val (.long y1), .second, .val (.long y2), .second, .val (.long y3), .second, .val (.long y4), .second, .val (.ref b1), .val (.ref b2), .val (.ref b3), .val (.long (y1 + y3)), .second, .val (.long (y2 + y4)), .second, .val (.int (1 : Int32)), .val (.int (1 : Int32)), .val (.int (1 : Int32))] [(.int (1 : Int32))])
  refine Dn.st (fun t q => XS.ifNo X12.here hx rfl (hb hby at_163) rfl ((if0 _ _).trans (feq (by decide)).1) q) ?_
  show Dn p e below s _ _ _ T12 (mkF m 166 #[.val (.long y1), .second, .val (.long y2), .second, .val (.long y3), .second, .val (.long y4), .second, .val (.ref b1), .val (.ref b2), .val (.ref b3), .val (.long (y1 + y3)), .second, .val (.long (y2 + y4)), .second, .val (.int (1 : Int32)), .val (.int (1 : Int32)), .val (.int (1 : Int32))] [])
  refine Dn.st (fun t q => XS.iconst X12.here hx rfl (hb hby at_166) q) ?_
  show Dn p e below s _ _ _ T12 (mkF m 167 #[.val (.long y1), .second, .val (.long y2), .second, .val (.long y3), .second, .val (.long y4), .second, .val (.ref b1), .val (.ref b2), .val (.ref b3), .val (.long (y1 + y3)), .second, .val (.long (y2 + y4)), .second, .val (.int (1 : Int32)), .val (.int (1 : Int32)), .val (.int (1 : Int32))] [(.int (1 : Int32))])
  refine Dn.st (fun t q => XS.goto X12.here hx rfl (pc0 := 167) (pc' := 171) rfl (hb hby at_167) (by decide) (by decide) q) ?_
  show Dn p e below s _ _ _ T12 (mkF m 171 #[.val (.long y1), .second, .val (.long y2), .second, .val (.long y3), .second, .val (.long y4), .second, .val (.ref b1), .val (.ref b2), .val (.ref b3), .val (.long (y1 + y3)), .second, .val (.long (y2 + y4)), .second, .val (.int (1 : Int32)), .val (.int (1 : Int32)), .val (.int (1 : Int32))] [(.int (1 : Int32))])
  exact Dn.retZ X12 hx Bd.notSynchronized (t := .boolean) Bd.returns (by simp) (hb hby at_171) (by rw [e12]; exact ⟨rfl, N0⟩) (by decide) (by decide)
set_option maxRecDepth 65536 in
set_option maxHeartbeats 40000000 in
theorem comes_1 {Post : Tables → Env → Array Value → State → Outcome → State → Prop} (hpost : ∀ tb e args s v u, (limb_1_1.after args s (.returned v) u = true ∧ limb_1_2.after args s (.returned v) u = true ∧ True) → FrameEnd s (.returned v) u (Jvm.fieldLocs frame_1_writes args s ++ Jvm.arrayLocs frame_1_arrays args s ++ Jvm.staticLocs frame_1_statics s) 16 128 → Post tb e args s (.returned v) u) :
    ArmFor flags0 classFile x code maxLocals ret World_1 tables_1 room_1 Calls_1 rest_1 Pre_1 Post := by
  intro l hfl _ _ p e ha hc hk s m args below hf hA hF happ hP
  obtain ⟨hcalls, hrest, hpre⟩ := hP
  obtain ⟨-, -, -, hnamed, -, -, -, hat⟩ := (Spec.applies_iff hf).mp happ
  obtain ⟨hg, hn⟩ := and_e (Cond.before_iff.mp (show (Jvm.Cond.and given_1 narrow_1).before args s = true from hpre))
  obtain ⟨g1, g2⟩ := and_e hg
  obtain ⟨g3, g4⟩ := and_e g2
  obtain ⟨g5, g6⟩ := and_e g4
  obtain ⟨g7, g8⟩ := and_e g6
  obtain ⟨w0, w1, w2, w3, rfl⟩ : ∃ w0 w1 w2 w3 : Value, args = #[w0, w1, w2, w3] := by
    have hs : args.size = 4 := by simpa [Cond.value, given_1] using g1
    obtain ⟨L⟩ := args
    match L, hs with
    | [w0, w1, w2, w3], _ => exact ⟨w0, w1, w2, w3, rfl⟩
  have hw := fun d (hd : d ∈ tables_1) => atoms_spec (ws := Jvm.Cond.code x code maxLocals ret :: tables_1) hat d (List.mem_cons_of_mem _ hd)
  obtain ⟨i0, ei0⟩ := isL_v g3
  obtain rfl : w0 = (.long i0) := Option.some.inj ei0
  obtain ⟨i1, ei1⟩ := isL_v g5
  obtain rfl : w1 = (.long i1) := Option.some.inj ei1
  obtain ⟨i2, ei2⟩ := isL_v g7
  obtain rfl : w2 = (.long i2) := Option.some.inj ei2
  obtain ⟨i3, ei3⟩ := isL_v g8
  obtain rfl : w3 = (.long i3) := Option.some.inj ei3
  obtain ⟨n, o, h1, h2, h3, _, L, rfl, ⟨rfl, N⟩, hq⟩ := rm0 l s _ hw tables_1 i0 i1 i2 i3 s.heap s.heap.size (Nat.le_refl _)  p e ha hc hk s m _ below hf ((Spec.applies_iff_loose hf).mp happ).1 ⟨rfl, State.Warmed39.refl s, rfl⟩ trivial
  refine ⟨n, _, h1, h2, h3, hpost _ _ _ _ _ _ ⟨Cond.after_iff.mpr rfl, Cond.after_iff.mpr (eq_i res_at (Term.int_eval (1)) rfl), trivial⟩ ⟨hq.1, hq.2.1, (hq.2.2.sift fun y hy => Or.inr (N y hy)).mono (by decide) (by decide)⟩⟩
theorem main_1_1 : Claimed_1_1 := comes_1 fun _ _ _ _ _ _ h hF => ⟨h.1, hF⟩
theorem main_1_2 : Claimed_1_2 := comes_1 fun _ _ _ _ _ _ h hF => ⟨h.2.1, hF⟩
end Jvm.Pilot.@@N@@
namespace Jvm.Pilot.@@N@@
open Jvm Jvm.ClassFile Sem Op Lib Jvm.Free Jvm.Stand Jvm.Pilot.@@N@@.Jvm.D
/-! MADE BY PROGRAM (witnessworld.py) out of the Statement's table words and the real class files: 10 classes; the members and pool entries that the words name. The judged class is class 1, her method 1. -/
namespace start1
open Jvm.ClassFile
def u (s : String) : CpInfo := .utf8 (stringToUtf16 s)
/-- a pool by its gaps: so many unusable entries, then the entry; so many at the end -/
def gap : Nat → List CpInfo → List CpInfo
  | 0, r => r
  | n + 1, r => .unusable :: gap n r
def poolList (es : List (Nat × CpInfo)) (last : Nat) : List CpInfo := es.foldr (fun e r => gap e.1 (e.2 :: r)) (gap last [])
def pool (es : List (Nat × CpInfo)) (last : Nat) : Array CpInfo := ⟨poolList es last⟩
def fileOf (pool : Array CpInfo) (this : Nat) (attrs : Array Attribute := #[]) (ms : Array MethodInfo := #[]) (fl : Nat := 33) (sup : Nat := 0) (ifs : Array Nat := #[]) (fds : Array FieldInfo := #[]) : ClassFile where
  minorVersion := 0
  majorVersion := 65
  constantPool := pool
  accessFlags := fl
  thisClass := this
  superClass := sup
  interfaces := ifs
  fields := fds
  methods := ms
  attributes := attrs
def plain (name : String) (sup : Option ClassId) : Class where
  name := name
  kind := .ordinary
  loader := none
  accessFlags := 33
  super := sup
  interfaces := #[]
  cf := none
  fields := #[]
  methods := #[]
  instanceTypes := #[]
  staticTypes := #[]
  resolved := #[]
  callSites := []
  init := .initialized
  statics := none
  mirror := none

def pool0 : Array CpInfo := pool [(5, u "<init>"), (0, u "()V"), (1, .class_ 10), (1, u "java/lang/Object")] 113

def k0c0 : Code := { maxStack := 0, maxLocals := 1, code := object_method_1_code, exceptionTable := #[], attributes := #[] }
def k0m0 : Method := { name := "<init>", desc := "()V", sig := { parameters := [], returnType := none }, accessFlags := 1, code := some k0c0 }
/-- java/lang/Object -/
def k0 : Class := { plain "java/lang/Object" none with
  accessFlags := 33
  interfaces := #[]
  cf := some (fileOf pool0 8 #[] #[{ accessFlags := 1, nameIndex := 5, descriptorIndex := 6, attributes := #[] }] 33 0 #[] #[])
  fields := #[]
  methods := #[k0m0]
  instanceTypes := #[]
  staticTypes := #[]
  resolved := Array.replicate 124 none
  statics := none }

def pool1 : Array CpInfo := pool [(2, .class_ 4), (1, u "java/lang/Object"), (0, u "<init>"), (0, u "()V"), (0, .class_ 8), (0, u "com/example/timed_hold/timedhold/Counts"), (0, .methodref 7 10), (0, .nameAndType 5 11), (0, u "(JJ)V"), (0, .methodref 7 13), (0, .nameAndType 14 15), (0, u "plus"), (0, u "(Lcom/example/timed_hold/timedhold/Counts;)Lcom/example/timed_hold/timedhold/Counts;"), (0, .methodref 7 17), (0, .nameAndType 18 19), (0, u "held"), (0, u "()J"), (0, .methodref 7 21), (0, .nameAndType 22 19), (0, u "confirmed"), (0, .methodref 7 24), (0, .nameAndType 25 19), (0, u "units"), (0, .class_ 27), (0, u "com/example/timed_hold/timedhold/CountsPlusPinLaw"), (2, u "law"), (0, u "(JJJJ)Z")] 3

def k1m0 : Method := { name := "<init>", desc := "()V", sig := { parameters := [], returnType := none }, accessFlags := 2, code := none }
def k1c1 : Code := { maxStack := 6, maxLocals := 18, code := code, exceptionTable := #[], attributes := #[] }
def k1m1 : Method := { name := "law", desc := "(JJJJ)Z", sig := { parameters := [.long, .long, .long, .long], returnType := some .boolean }, accessFlags := 9, code := some k1c1 }
/-- com/example/timed_hold/timedhold/CountsPlusPinLaw -/
def k1 : Class := { plain "com/example/timed_hold/timedhold/CountsPlusPinLaw" (some 0) with
  accessFlags := 49
  interfaces := #[]
  cf := some (fileOf pool1 26 #[] #[{ accessFlags := 2, nameIndex := 5, descriptorIndex := 6, attributes := #[] }, { accessFlags := 9, nameIndex := 30, descriptorIndex := 31, attributes := #[] }] 49 2 #[] #[])
  fields := #[]
  methods := #[k1m0, k1m1]
  instanceTypes := #[]
  staticTypes := #[]
  resolved := Array.replicate 35 none
  statics := none }

def pool2 : Array CpInfo := pool [(1, .methodref 2 3), (0, .class_ 4), (0, .nameAndType 5 6), (0, u "java/lang/Object"), (0, u "<init>"), (0, u "()V"), (0, .class_ 8), (0, u "java/lang/Record")] 13

def k2c0 : Code := { maxStack := 1, maxLocals := 1, code := jdk_30_method_1_code, exceptionTable := #[], attributes := #[] }
def k2m0 : Method := { name := "<init>", desc := "()V", sig := { parameters := [], returnType := none }, accessFlags := 4, code := some k2c0 }
/-- java/lang/Record -/
def k2 : Class := { plain "java/lang/Record" (some 0) with
  accessFlags := 1057
  interfaces := #[]
  cf := some (fileOf pool2 7 #[] #[{ accessFlags := 4, nameIndex := 5, descriptorIndex := 6, attributes := #[] }] 1057 2 #[] #[])
  fields := #[]
  methods := #[k2m0]
  instanceTypes := #[]
  staticTypes := #[]
  resolved := Array.replicate 22 none
  statics := none }

def pool3 : Array CpInfo := pool [(1, .methodref 2 3), (0, .class_ 4), (0, .nameAndType 5 6), (0, u "java/lang/Record"), (0, u "<init>"), (0, u "()V"), (0, .fieldref 8 9), (0, .class_ 10), (0, .nameAndType 11 12), (0, u "com/example/timed_hold/timedhold/Counts"), (0, u "held"), (0, u "J"), (0, .fieldref 8 14), (0, .nameAndType 15 12), (0, u "confirmed"), (0, .methodref 8 17), (0, .nameAndType 5 18), (0, u "(JJ)V"), (14, u "NONE"), (0, u "Lcom/example/timed_hold/timedhold/Counts;"), (3, u "units"), (0, u "()J"), (0, u "plus"), (0, u "(Lcom/example/timed_hold/timedhold/Counts;)Lcom/example/timed_hold/timedhold/Counts;")] 26

def k3c0 : Code := { maxStack := 3, maxLocals := 5, code := prog_6_method_1_code, exceptionTable := #[], attributes := #[] }
def k3m0 : Method := { name := "<init>", desc := "(JJ)V", sig := { parameters := [.long, .long], returnType := none }, accessFlags := 0, code := some k3c0 }
def k3c1 : Code := { maxStack := 4, maxLocals := 1, code := prog_6_method_2_code, exceptionTable := #[], attributes := #[] }
def k3m1 : Method := { name := "units", desc := "()J", sig := { parameters := [], returnType := some .long }, accessFlags := 0, code := some k3c1 }
def k3c2 : Code := { maxStack := 8, maxLocals := 2, code := prog_6_method_3_code, exceptionTable := #[], attributes := #[] }
def k3m2 : Method := { name := "plus", desc := "(Lcom/example/timed_hold/timedhold/Counts;)Lcom/example/timed_hold/timedhold/Counts;", sig := { parameters := [(.object "com/example/timed_hold/timedhold/Counts")], returnType := some (.object "com/example/timed_hold/timedhold/Counts") }, accessFlags := 0, code := some k3c2 }
def k3c3 : Code := { maxStack := 2, maxLocals := 1, code := prog_6_method_8_code, exceptionTable := #[], attributes := #[] }
def k3m3 : Method := { name := "held", desc := "()J", sig := { parameters := [], returnType := some .long }, accessFlags := 1, code := some k3c3 }
def k3c4 : Code := { maxStack := 2, maxLocals := 1, code := prog_6_method_9_code, exceptionTable := #[], attributes := #[] }
def k3m4 : Method := { name := "confirmed", desc := "()J", sig := { parameters := [], returnType := some .long }, accessFlags := 1, code := some k3c4 }
/-- com/example/timed_hold/timedhold/Counts -/
def k3 : Class := { plain "com/example/timed_hold/timedhold/Counts" (some 2) with
  accessFlags := 48
  interfaces := #[]
  cf := some (fileOf pool3 8 #[] #[{ accessFlags := 0, nameIndex := 5, descriptorIndex := 18, attributes := #[] }, { accessFlags := 0, nameIndex := 38, descriptorIndex := 39, attributes := #[] }, { accessFlags := 0, nameIndex := 40, descriptorIndex := 41, attributes := #[] }, { accessFlags := 1, nameIndex := 11, descriptorIndex := 39, attributes := #[] }, { accessFlags := 1, nameIndex := 15, descriptorIndex := 39, attributes := #[] }] 48 2 #[] #[{ accessFlags := 18, nameIndex := 11, descriptorIndex := 12, attributes := #[] }, { accessFlags := 18, nameIndex := 15, descriptorIndex := 12, attributes := #[] }, { accessFlags := 24, nameIndex := 33, descriptorIndex := 34, attributes := #[] }])
  fields := #[{ name := "held", type := .long, accessFlags := 18, slot := 0, constantValue := 0 }, { name := "confirmed", type := .long, accessFlags := 18, slot := 1, constantValue := 0 }, { name := "NONE", type := (.object "com/example/timed_hold/timedhold/Counts"), accessFlags := 24, slot := 0, constantValue := 0 }]
  methods := #[k3m0, k3m1, k3m2, k3m3, k3m4]
  instanceTypes := #[.long, .long]
  staticTypes := #[(.object "com/example/timed_hold/timedhold/Counts")]
  resolved := Array.replicate 68 none
  statics := none }

def pool4 : Array CpInfo := pool [(1, u "java/lang/Cloneable"), (0, .class_ 1), (0, u "java/lang/Object"), (0, .class_ 3)] 3

/-- java/lang/Cloneable -/
def k4 : Class := { plain "java/lang/Cloneable" (some 0) with
  accessFlags := 1537
  interfaces := #[]
  cf := some (fileOf pool4 2 #[] #[] 1537 4 #[] #[])
  fields := #[]
  methods := #[]
  instanceTypes := #[]
  staticTypes := #[]
  resolved := Array.replicate 8 none
  statics := none }

def pool5 : Array CpInfo := pool [(1, u "java/io/Serializable"), (0, .class_ 1), (0, u "java/lang/Object"), (0, .class_ 3)] 3

/-- java/io/Serializable -/
def k5 : Class := { plain "java/io/Serializable" (some 0) with
  accessFlags := 1537
  interfaces := #[]
  cf := some (fileOf pool5 2 #[] #[] 1537 4 #[] #[])
  fields := #[]
  methods := #[]
  instanceTypes := #[]
  staticTypes := #[]
  resolved := Array.replicate 8 none
  statics := none }

/-- the primitive byte -/
def k6 : Class := { plain "byte" none with kind := .primitive 'B', accessFlags := 0x411 }
/-- [B -/
def k7 : Class := { plain "[B" (some 0) with kind := .array 6 .byte, interfaces := #[4, 5], accessFlags := 1041 }

/-- the primitive int -/
def k8 : Class := { plain "int" none with kind := .primitive 'I', accessFlags := 0x411 }
/-- [I -/
def k9 : Class := { plain "[I" (some 0) with kind := .array 8 .int, interfaces := #[4, 5], accessFlags := 1041 }

def heap : Heap := #[]
def classes : Array Class := #[k0, k1, k2, k3, k4, k5, k6, k7, k8, k9]
def interned : List (Array UInt16 × Addr) := []
def slotsUsed : Nat := 0
def theMethod : MethodId := ⟨1, 1⟩
def args0 : Array Value := #[.long 5, .long 5, .long 5, .long 5]
def aboutOver (below : List Frame) : State where
  vm := { classes := classes, interned := interned.toArray }
  heap := heap
  slotsUsed := slotsUsed
  threads := #[{ frames := .invoking theMethod args0 :: below }]
def below0 : List Frame := [.native { method := ⟨0, 0⟩, args := #[] }]
def about1 : State := aboutOver below0
def p0 : Program := .bare "" "" ""
def e0 : Env := launch0.env 0 0 0
theorem w_frames : about1.frames = Frame.invoking theMethod args0 :: below0 := rfl
set_option maxRecDepth 65536 in
theorem w_args : argsFit about1.vm theMethod args0 = true := by decide +kernel
set_option maxRecDepth 65536 in
theorem w_heap : heapFits about1 = true := by decide +kernel
set_option maxRecDepth 65536 in
theorem w_runnable : about1.curStatus? = some .runnable := by decide +kernel
set_option maxRecDepth 65536 in
theorem w_alone : about1.alone = true := by decide +kernel
set_option maxRecDepth 65536 in
theorem w_named : about1.methodNamed? x = some theMethod := by decide +kernel
set_option maxRecDepth 65536 in
theorem w_hears : about1.hears theMethod below0 = true := by decide +kernel
set_option maxRecDepth 65536 in
theorem w_ripe : about1.ripe theMethod args0 below0 = true := by decide +kernel
theorem w_running : about1.status = .running := rfl
set_option maxRecDepth 65536 in
theorem w_room : about1.hasRoom e0.platform room_1 = true :=
  launch0.hasRoom_least _ room_1 (by decide +kernel) (by decide +kernel) (by decide +kernel) (by decide +kernel) (by decide +kernel) (by decide +kernel)
theorem allAtoms_all (ts : List Jvm.Cond) (a : Array Jvm.Value) (st : Jvm.State) : (allAtoms ts).before a st = ts.all (fun c => c.before a st) := by
  induction ts with
  | nil => rfl
  | cons c t ih =>
    show (Jvm.Cond.and c (allAtoms t)).before a st = _
    rw [Jvm.Cond.before_and, ih, List.all_cons]
def words1 : List Jvm.Cond := Jvm.Cond.code x code maxLocals ret :: tables_1
/-- a 'code' word, met by the world's own term for the bytes: nothing is compared byte by byte -/
theorem code_word {y : MethodName} {bytes : ByteArray} {mx : Nat} {rt : Option FieldType} {a : Array Value} {s : State} {m : MethodId} {meth : Method} {c : Code} (h1 : s.methodNamed? y = some m) (h2 : s.vm.method? m = some meth) (h3 : meth.code = some c) (h4 : c.code = bytes)
    (h5 : (c.maxLocals == mx && c.exceptionTable.isEmpty && decide (c.maxStack ≤ mostOperands) && decide (meth.sig.returnType = rt) && !meth.locks && decide (parseMethodDescriptor y.desc = some meth.sig)) = true) : (Jvm.Cond.code y bytes mx rt).before a s = true := by
  simp only [Bool.and_eq_true, beq_iff_eq, Bool.not_eq_true', decide_eq_true_eq] at h5
  obtain ⟨⟨⟨⟨⟨g1, g2⟩, g3⟩, g4⟩, g5⟩, g6⟩ := h5
  simp [Cond.before, Cond.holds, Cond.value, h1, h2, h3, h4, g1, g2, g3, g4, g5, g6]
def isCode : Jvm.Cond → Bool
  | .code _ _ _ _ => true
  | _ => false
theorem all_split {L : List Jvm.Cond} {P : Jvm.Cond → Bool} (h1 : L.all (fun c => isCode c || P c) = true) (h2 : ∀ c ∈ L.filter isCode, P c = true) : L.all P = true := by
  refine List.all_eq_true.mpr fun c hc => ?_
  have h := List.all_eq_true.mp h1 c hc
  rcases Bool.eq_false_or_eq_true (isCode c) with hi | hi
  · exact h2 c (List.mem_filter.mpr ⟨hc, hi⟩)
  · simpa [hi] using h
set_option maxRecDepth 65536 in
theorem w_c0 : (Jvm.Cond.code x code maxLocals ret).before args0 about1 = true := code_word (m := ⟨1, 1⟩) (meth := k1m1) (c := k1c1) (by decide +kernel) rfl rfl rfl (by decide +kernel)
set_option maxRecDepth 65536 in
theorem w_c1 : (Jvm.Cond.code ({ cls := "com/example/timed_hold/timedhold/Counts", name := "<init>", desc := "(JJ)V" } : Jvm.MethodName) prog_6_method_1_code (5 : Nat) (Option.none : Option Jvm.ClassFile.FieldType)).before args0 about1 = true := code_word (m := ⟨3, 0⟩) (meth := k3m0) (c := k3c0) (by decide +kernel) rfl rfl rfl (by decide +kernel)
set_option maxRecDepth 65536 in
theorem w_c2 : (Jvm.Cond.code ({ cls := "java/lang/Record", name := "<init>", desc := "()V" } : Jvm.MethodName) jdk_30_method_1_code (1 : Nat) (Option.none : Option Jvm.ClassFile.FieldType)).before args0 about1 = true := code_word (m := ⟨2, 0⟩) (meth := k2m0) (c := k2c0) (by decide +kernel) rfl rfl rfl (by decide +kernel)
set_option maxRecDepth 65536 in
theorem w_c3 : (Jvm.Cond.code ({ cls := "java/lang/Object", name := "<init>", desc := "()V" } : Jvm.MethodName) object_method_1_code (1 : Nat) (Option.none : Option Jvm.ClassFile.FieldType)).before args0 about1 = true := code_word (m := ⟨0, 0⟩) (meth := k0m0) (c := k0c0) (by decide +kernel) rfl rfl rfl (by decide +kernel)
set_option maxRecDepth 65536 in
theorem w_c4 : (Jvm.Cond.code ({ cls := "com/example/timed_hold/timedhold/Counts", name := "plus", desc := "(Lcom/example/timed_hold/timedhold/Counts;)Lcom/example/timed_hold/timedhold/Counts;" } : Jvm.MethodName) prog_6_method_3_code (2 : Nat) (Option.some (Jvm.ClassFile.FieldType.object "com/example/timed_hold/timedhold/Counts"))).before args0 about1 = true := code_word (m := ⟨3, 2⟩) (meth := k3m2) (c := k3c2) (by decide +kernel) rfl rfl rfl (by decide +kernel)
set_option maxRecDepth 65536 in
theorem w_c5 : (Jvm.Cond.code ({ cls := "com/example/timed_hold/timedhold/Counts", name := "held", desc := "()J" } : Jvm.MethodName) prog_6_method_8_code (1 : Nat) (Option.some Jvm.ClassFile.FieldType.long)).before args0 about1 = true := code_word (m := ⟨3, 3⟩) (meth := k3m3) (c := k3c3) (by decide +kernel) rfl rfl rfl (by decide +kernel)
set_option maxRecDepth 65536 in
theorem w_c6 : (Jvm.Cond.code ({ cls := "com/example/timed_hold/timedhold/Counts", name := "confirmed", desc := "()J" } : Jvm.MethodName) prog_6_method_9_code (1 : Nat) (Option.some Jvm.ClassFile.FieldType.long)).before args0 about1 = true := code_word (m := ⟨3, 4⟩) (meth := k3m4) (c := k3c4) (by decide +kernel) rfl rfl rfl (by decide +kernel)
set_option maxRecDepth 65536 in
theorem w_c7 : (Jvm.Cond.code ({ cls := "com/example/timed_hold/timedhold/Counts", name := "units", desc := "()J" } : Jvm.MethodName) prog_6_method_2_code (1 : Nat) (Option.some Jvm.ClassFile.FieldType.long)).before args0 about1 = true := code_word (m := ⟨3, 1⟩) (meth := k3m1) (c := k3c1) (by decide +kernel) rfl rfl rfl (by decide +kernel)
def codes1 : List Jvm.Cond := [Jvm.Cond.code x code maxLocals ret, Jvm.Cond.code ({ cls := "com/example/timed_hold/timedhold/Counts", name := "<init>", desc := "(JJ)V" } : Jvm.MethodName) prog_6_method_1_code (5 : Nat) (Option.none : Option Jvm.ClassFile.FieldType), Jvm.Cond.code ({ cls := "java/lang/Record", name := "<init>", desc := "()V" } : Jvm.MethodName) jdk_30_method_1_code (1 : Nat) (Option.none : Option Jvm.ClassFile.FieldType), Jvm.Cond.code ({ cls := "java/lang/Object", name := "<init>", desc := "()V" } : Jvm.MethodName) object_method_1_code (1 : Nat) (Option.none : Option Jvm.ClassFile.FieldType), Jvm.Cond.code ({ cls := "com/example/timed_hold/timedhold/Counts", name := "plus", desc := "(Lcom/example/timed_hold/timedhold/Counts;)Lcom/example/timed_hold/timedhold/Counts;" } : Jvm.MethodName) prog_6_method_3_code (2 : Nat) (Option.some (Jvm.ClassFile.FieldType.object "com/example/timed_hold/timedhold/Counts")), Jvm.Cond.code ({ cls := "com/example/timed_hold/timedhold/Counts", name := "held", desc := "()J" } : Jvm.MethodName) prog_6_method_8_code (1 : Nat) (Option.some Jvm.ClassFile.FieldType.long), Jvm.Cond.code ({ cls := "com/example/timed_hold/timedhold/Counts", name := "confirmed", desc := "()J" } : Jvm.MethodName) prog_6_method_9_code (1 : Nat) (Option.some Jvm.ClassFile.FieldType.long), Jvm.Cond.code ({ cls := "com/example/timed_hold/timedhold/Counts", name := "units", desc := "()J" } : Jvm.MethodName) prog_6_method_2_code (1 : Nat) (Option.some Jvm.ClassFile.FieldType.long)]
set_option maxRecDepth 65536 in
theorem codes_eq : words1.filter isCode = codes1 := rfl
theorem w_codes : ∀ c ∈ words1.filter isCode, c.before args0 about1 = true := by
  rw [codes_eq]
  intro c hc
  simp only [codes1, List.mem_cons, List.not_mem_nil, or_false] at hc
  rcases hc with rfl | rfl | rfl | rfl | rfl | rfl | rfl | rfl
  · exact w_c0
  · exact w_c1
  · exact w_c2
  · exact w_c3
  · exact w_c4
  · exact w_c5
  · exact w_c6
  · exact w_c7
set_option maxRecDepth 65536 in
theorem w_t1 : (words1.take 24).all (fun c => isCode c || c.before args0 about1) = true := by decide +kernel
set_option maxRecDepth 65536 in
theorem w_t2 : (words1.drop 24).all (fun c => isCode c || c.before args0 about1) = true := by decide +kernel
theorem w_tables : (allAtoms (Jvm.Cond.code x code maxLocals ret :: tables_1)).before args0 about1 = true := by
  rw [allAtoms_all]
  show words1.all (fun c => c.before args0 about1) = true
  refine all_split ?_ w_codes
  rw [← List.take_append_drop 24 words1, List.all_append, w_t1, w_t2]
  rfl
set_option maxRecDepth 65536 in
theorem w_case : (Jvm.Cond.and given_1 narrow_1).before args0 about1 = true := by decide +kernel
theorem w_applies : (headSpec (Jvm.Cond.code x code maxLocals ret :: tables_1) room_1).applies x e0.platform about1 = true :=
  (Spec.applies_iff w_frames).mpr ⟨w_running, w_runnable, w_alone, w_named, w_hears, w_ripe, w_room, w_tables⟩
theorem atStart : AtStart classFile x code maxLocals ret World_1 tables_1 room_1 Calls_1 rest_1 Pre_1 launch0 p0 e0 about1 theMethod args0 below0 :=
  ⟨lists_1, trivial, launch0.admits_env _ _ _, launch0.least_env, fairChoices_fair.cas, fairChoices_fair.clock, w_frames, w_args, w_heap, w_applies, trivial, trivial, w_case⟩
end start1
theorem witness_1 : WitnessClaimed_1 := ⟨start1.p0, start1.e0, start1.about1, start1.theMethod, start1.args0, start1.below0, start1.atStart⟩
end Jvm.Pilot.@@N@@
