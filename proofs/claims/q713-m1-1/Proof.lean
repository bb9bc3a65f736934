import JvmDerived
import JvmDerived.Pilot.@@N@@Statement
import JvmDerived.Pilot.@@N@@Code
set_option linter.unusedVariables false
set_option linter.unusedSimpArgs false
namespace Jvm.Pilot.@@N@@
open Jvm Jvm.ClassFile Sem Op Lib Jvm.Free Jvm.Stand Jvm.LawKit Jvm.RoadKit Bundle Jvm.Pilot.@@N@@.Jvm.D
/-! THE OWN KIT: a walk in small steps to the body's end -/
/-- from T with the frame g on top the body comes to its end, and what it leaves fulfils Q -/
def Dn (p : Program) (e : Env) (below : List Frame) (s : State) (Q : Option Value → Heap → List Loc → Prop) (k n : Nat) (T : State) (g : JFrame) : Prop :=
  ∃ s₂ o, Steps p.tables e below (T.setTop g) s₂ ∧ s₂.status = .running ∧ Ended s₂ below o ∧ ∃ v L, o = .returned v ∧ Q v s₂.heap L ∧ FrameEnd s o s₂ L k n
section OwnKit
variable {p : Program} {l : Launch} {e : Env} {R : Room} {s : State} {m : MethodId} {args : Array Value} {below : List Frame} {meth : Method} {c : Code} {T T' : State} {locs : List Loc} {cells slots : Nat} {Z : State} {h h' : Heap} {g g' : JFrame} {k n : Nat} {Q : Option Value → Heap → List Loc → Prop}
theorem Dn.st (f : ∀ t, Steps p.tables e below (T'.setTop g') t → Steps p.tables e below (T.setTop g) t) (d : Dn p e below s Q k n T' g') : Dn p e below s Q k n T g := by
  obtain ⟨s₂, o, h1, h2⟩ := d
  exact ⟨s₂, o, f _ h1, h2⟩
theorem Dn.tr (f : Steps p.tables e below (T.setTop g) (T'.setTop g')) (d : Dn p e below s Q k n T' g') : Dn p e below s Q k n T g := by
  obtain ⟨s₂, o, h1, h2⟩ := d
  exact ⟨s₂, o, f.trans h1, h2⟩
theorem Dn.cast (q : g = g') (d : Dn p e below s Q k n T g') : Dn p e below s Q k n T g := q ▸ d
theorem Dn.retI (X : Stand p l e R s m args below meth c T locs cells slots) (hx : p.tables.exec = Jvm.exec) (hk : meth.locks = false) {pc : Nat} {Ls : Array Slot} {z : Int32} {rest : List Value} (hret : meth.sig.returnType = some .int) (hd : decode c.code pc = .ok (.ireturn, 1)) (hQ : Q (some (.int z)) T.heap locs) (hc : cells ≤ k) (hs : slots ≤ n) :
    Dn p e below s Q k n T (mkF m pc Ls (.int z :: rest)) := by
  obtain ⟨fs, hr, hrun, hended, hW, hsame⟩ := X.leave (v := some (.int z)) (fun q => by rw [hret] at q; cases q) hk
  exact ⟨_, _, retOut X hx hret rfl (Or.inl ⟨rfl, Or.inl rfl, z, rfl⟩) hd hr, hrun, hended, _, _, rfl, hQ, ⟨_, rfl⟩, hW, hsame.mono hc hs⟩
theorem Dn.retZ (X : Stand p l e R s m args below meth c T locs cells slots) (hx : p.tables.exec = Jvm.exec) (hk : meth.locks = false) {pc : Nat} {Ls : Array Slot} {z : Int32} {t : FieldType} {rest : List Value} (hret : meth.sig.returnType = some t) (ht : t = .boolean ∨ t = .byte ∨ t = .char ∨ t = .short) (hd : decode c.code pc = .ok (.ireturn, 1)) (hQ : Q (some (.int (nar t z))) T.heap locs) (hc : cells ≤ k) (hs : slots ≤ n) :
    Dn p e below s Q k n T (mkF m pc Ls (.int z :: rest)) := by
  obtain ⟨fs, hr, hrun, hended, hW, hsame⟩ := X.leave (v := some (.int (nar t z))) (fun q => by rw [hret] at q; cases q) hk
  exact ⟨_, _, retN X hx hret ht hd hr, hrun, hended, _, _, rfl, hQ, ⟨_, rfl⟩, hW, hsame.mono hc hs⟩
theorem Dn.retJ (X : Stand p l e R s m args below meth c T locs cells slots) (hx : p.tables.exec = Jvm.exec) (hk : meth.locks = false) {pc : Nat} {Ls : Array Slot} {z : Int64} {rest : List Value} (hret : meth.sig.returnType = some .long) (hd : decode c.code pc = .ok (.lreturn, 1)) (hQ : Q (some (.long z)) T.heap locs) (hc : cells ≤ k) (hs : slots ≤ n) :
    Dn p e below s Q k n T (mkF m pc Ls (.long z :: rest)) := by
  obtain ⟨fs, hr, hrun, hended, hW, hsame⟩ := X.leave (v := some (.long z)) (fun q => by rw [hret] at q; cases q) hk
  exact ⟨_, _, retOut X hx hret rfl (Or.inr (Or.inl ⟨rfl, rfl, z, rfl⟩)) hd hr, hrun, hended, _, _, rfl, hQ, ⟨_, rfl⟩, hW, hsame.mono hc hs⟩
theorem Dn.retA (X : Stand p l e R s m args below meth c T locs cells slots) (hx : p.tables.exec = Jvm.exec) (hk : meth.locks = false) {pc : Nat} {Ls : Array Slot} {a : Addr} {t : FieldType} {rest : List Value} (hret : meth.sig.returnType = some t) (ht : t.isReference = true) (hn : narrow t (.ref a) = .ref a) (hd : decode c.code pc = .ok (.areturn, 1)) (hQ : Q (some (.ref a)) T.heap locs) (hc : cells ≤ k) (hs : slots ≤ n) :
    Dn p e below s Q k n T (mkF m pc Ls (.ref a :: rest)) := by
  obtain ⟨fs, hr, hrun, hended, hW, hsame⟩ := X.leave (v := some (.ref a)) (fun q => by rw [hret] at q; cases q) hk
  exact ⟨_, _, retOut X hx hret hn (Or.inr (Or.inr (Or.inr (Or.inr ⟨rfl, ht, rfl⟩)))) hd hr, hrun, hended, _, _, rfl, hQ, ⟨_, rfl⟩, hW, hsame.mono hc hs⟩
theorem Dn.retV (X : Stand p l e R s m args below meth c T locs cells slots) (hx : p.tables.exec = Jvm.exec) (hk : meth.locks = false) {pc : Nat} {Ls : Array Slot} (hret : meth.sig.returnType = none) (hd : decode c.code pc = .ok (.return_, 1)) (hQ : Q none T.heap locs) (hc : cells ≤ k) (hs : slots ≤ n) :
    Dn p e below s Q k n T (mkF m pc Ls []) := by
  obtain ⟨fs, hr, hrun, hended, hW, hsame⟩ := X.leave (v := none) (fun _ => rfl) hk
  exact ⟨_, _, X.returnOut hx hret hd hr, hrun, hended, _, _, rfl, hQ, ⟨_, rfl⟩, hW, hsame.mono hc hs⟩
theorem own_ne {a b : Addr} {j : Nat} (q : a < j) (r : b = j) : a ≠ b := fun e => absurd (e.trans r) (Nat.ne_of_lt q)
theorem own_ne' {a b : Addr} {j : Nat} (q : a < j) (r : j ≤ b) : a ≠ b := Nat.ne_of_lt (Nat.lt_of_lt_of_le q r)
theorem own_self {s : State} {args : Array Value} {y : MethodName} {n : Nat} (wi : (Jvm.Cond.instantiable y.cls n).before args s = true) (wp : (Jvm.Cond.privateMethod y).before args s = true) (hinst : (Jvm.Cond.instanceMethod y).before args s = true) (hy : y.cls ≠ "java/lang/invoke/MethodHandle" ∧ y.cls ≠ "java/lang/invoke/VarHandle") : (Jvm.Cond.selects y.cls y y).before args s = true := by
  obtain ⟨c, k, h1, h2, -, h4, -⟩ := Jvm.Cond.instantiable_spec wi
  exact selects_self_of_private h1 h2 (Bool.or_eq_false_iff.mp h4).1 (Jvm.Cond.privateMethod_at wp) hinst hy
end OwnKit
theorem d1_0 : decode prog_7_method_4_code 0 = .ok (.iload_n 0, 1) := by decide +kernel
theorem d1_1 : decode prog_7_method_4_code 1 = .ok (.bipush 9, 2) := by decide +kernel
theorem d1_3 : decode prog_7_method_4_code 3 = .ok (.if_icmp .eq 29, 3) := by decide +kernel
theorem d1_32 : decode prog_7_method_4_code 32 = .ok (.iconst 1, 1) := by decide +kernel
theorem d1_33 : decode prog_7_method_4_code 33 = .ok (.goto 4, 3) := by decide +kernel
theorem d1_6 : decode prog_7_method_4_code 6 = .ok (.iload_n 0, 1) := by decide +kernel
theorem d1_7 : decode prog_7_method_4_code 7 = .ok (.bipush 32, 2) := by decide +kernel
theorem d1_9 : decode prog_7_method_4_code 9 = .ok (.if_icmp .lt 9, 3) := by decide +kernel
theorem d1_18 : decode prog_7_method_4_code 18 = .ok (.iload_n 0, 1) := by decide +kernel
theorem d1_19 : decode prog_7_method_4_code 19 = .ok (.sipush 128, 3) := by decide +kernel
theorem d1_22 : decode prog_7_method_4_code 22 = .ok (.if_icmp .lt 14, 3) := by decide +kernel
theorem d1_36 : decode prog_7_method_4_code 36 = .ok (.iconst 0, 1) := by decide +kernel
theorem d1_25 : decode prog_7_method_4_code 25 = .ok (.iload_n 0, 1) := by decide +kernel
theorem d1_26 : decode prog_7_method_4_code 26 = .ok (.sipush 255, 3) := by decide +kernel
theorem d1_29 : decode prog_7_method_4_code 29 = .ok (.if_icmp .gt 7, 3) := by decide +kernel
theorem d1_12 : decode prog_7_method_4_code 12 = .ok (.iload_n 0, 1) := by decide +kernel
theorem d1_13 : decode prog_7_method_4_code 13 = .ok (.bipush 126, 2) := by decide +kernel
theorem d1_15 : decode prog_7_method_4_code 15 = .ok (.if_icmp .le 17, 3) := by decide +kernel
def own_q (x0 : Int32) : Int32 := (if x0 = (9 : Int32) then (1 : Int32) else (if x0 < (32 : Int32) then (if x0 < (128 : Int32) then (0 : Int32) else (if (255 : Int32) < x0 then (0 : Int32) else (1 : Int32))) else (if (126 : Int32) < x0 then (if x0 < (128 : Int32) then (0 : Int32) else (if (255 : Int32) < x0 then (0 : Int32) else (1 : Int32))) else (1 : Int32))))
theorem d1_37 : decode prog_7_method_4_code 37 = .ok (.ireturn, 1) := by decide +kernel
theorem pn_0 : plainName "com/example/lyrebird/lyrebird/core/header/HeaderSyntax" = true := by first | (simp [plainName, overriddenIn]; done) | decide +kernel
theorem ef_rm1 (m : MethodId) (x0 : Int32) : entryFrame m #[(.int x0)] 1 = mkF m 0 #[.val (.int x0)] [] := by first | (simp [entryFrame, mkF, argsToLocals, Value.category]; done) | rfl
def Q1 (Z : State) (x0 : Int32) (h0 : Heap) (n0 : Nat) (v : Option Value) (h : Heap) (L : List Loc) : Prop := v = some (.int (own_q x0)) ∧ Fr n0 L ∧ h = h0
set_option maxRecDepth 65536 in
set_option maxHeartbeats 40000000 in
theorem rm1 (l : Launch) (Z : State) (a0 : Array Value) (hw : ∀ d ∈ tables_1, d.before a0 Z = true) (ws : List Jvm.Cond) (x0 : Int32) (h0 : Heap) (n0 : Nat) (Z0 : n0 ≤ h0.size) :
    MetFree l (⟨"com/example/lyrebird/lyrebird/core/header/HeaderSyntax", "isQuotedText", "(C)Z"⟩ : MethodName) (head1 (Jvm.Cond.code (⟨"com/example/lyrebird/lyrebird/core/header/HeaderSyntax", "isQuotedText", "(C)Z"⟩ : MethodName) prog_7_method_4_code 1 (some .boolean) :: ws) ({ frames := 0, cells := 0, slots := 0, locals := 0 } : Room)) (fun a U => a = #[(.int x0)] ∧ Z.Warmed39 U.vm ∧ U.heap = h0) (fun _ _ _ _ _ => True) (fun _ U o U' => ∃ v L, o = .returned v ∧ Q1 Z x0 h0 n0 v U'.heap L ∧ FrameEnd U o U' L ({ frames := 0, cells := 0, slots := 0, locals := 0 } : Room).cells ({ frames := 0, cells := 0, slots := 0, locals := 0 } : Room).slots) := by
  refine MetFree.of_bodySF (plainFor_of_name pn_0) hisR ?_
  intro p e s m args below meth c s₁ Bd hml0 hP hK
  obtain ⟨rfl, hZ, hh⟩ := hP
  have hx := Bd.exec
  have hby := Bd.bytes
  have hml : c.maxLocals = 1 := hml0
  have hown : s.vm.findClass "com/example/lyrebird/lyrebird/core/header/HeaderSyntax" = some m.cls := findClass_of_methodNamed Bd.named
  have hnm := (name_of_methodNamed Bd.named Bd.method).1
  have X0 : Stand p l e ({ frames := 0, cells := 0, slots := 0, locals := 0 } : Room) s m #[(.int x0)] below meth c s₁ [] 0 0 := Stand.of_body Bd
  have e0 : s₁.heap = h0 := by rw [← hh, Bd.state]; rfl
  have N0 := Fr.nil n0
  have K0 := Keep.refl h0 []
  suffices hD : Dn p e below s (Q1 Z x0 h0 n0) ({ frames := 0, cells := 0, slots := 0, locals := 0 } : Room).cells ({ frames := 0, cells := 0, slots := 0, locals := 0 } : Room).slots s₁ (mkF m 0 #[.val (.int x0)] []) from by
    obtain ⟨s₂, o, q1, q2⟩ := hD
    exact ⟨s₂, o, castTop (ef_rm1 m x0) q1, q2⟩
  refine Dn.st (fun t q => XS.iloadN X0.here hx rfl (hb hby d1_0) rfl  q) ?_
  show Dn p e below s _ _ _ s₁ (mkF m 1 #[.val (.int x0)] [(.int x0)])
  refine Dn.st (fun t q => XS.bipush X0.here hx rfl (hb hby d1_1) q) ?_
  show Dn p e below s _ _ _ s₁ (mkF m 3 #[.val (.int x0)] [(.int (9 : Int32)), (.int x0)])
  by_cases c1 : x0 = (9 : Int32)
  · refine Dn.st (fun t q => XS.icmpYes X0.here hx rfl (pc0 := 3) (pc' := 32) rfl (hb hby d1_3) rfl (teq c1).1 (by decide) (by decide) q) ?_
    show Dn p e below s _ _ _ s₁ (mkF m 32 #[.val (.int x0)] [])
    refine Dn.st (fun t q => XS.iconst X0.here hx rfl (hb hby d1_32) q) ?_
    show Dn p e below s _ _ _ s₁ (mkF m 33 #[.val (.int x0)] [(.int (1 : Int32))])
    refine Dn.st (fun t q => XS.goto X0.here hx rfl (pc0 := 33) (pc' := 37) rfl (hb hby d1_33) (by decide) (by decide) q) ?_
    show Dn p e below s _ _ _ s₁ (mkF m 37 #[.val (.int x0)] [(.int (1 : Int32))])
    exact Dn.retZ X0 hx Bd.notSynchronized (t := .boolean) Bd.returns (by simp) (hb hby d1_37) (by rw [e0]; exact ⟨by show some (Value.int (1 : Int32)) = some (Value.int (own_q x0)); rw [own_q, if_pos c1], N0, rfl⟩) (by decide) (by decide)
  · refine Dn.st (fun t q => XS.icmpNo X0.here hx rfl (hb hby d1_3) rfl (feq c1).1 q) ?_
    show Dn p e below s _ _ _ s₁ (mkF m 6 #[.val (.int x0)] [])
    refine Dn.st (fun t q => XS.iloadN X0.here hx rfl (hb hby d1_6) rfl  q) ?_
    show Dn p e below s _ _ _ s₁ (mkF m 7 #[.val (.int x0)] [(.int x0)])
    refine Dn.st (fun t q => XS.bipush X0.here hx rfl (hb hby d1_7) q) ?_
    show Dn p e below s _ _ _ s₁ (mkF m 9 #[.val (.int x0)] [(.int (32 : Int32)), (.int x0)])
    by_cases c2 : x0 < (32 : Int32)
    · refine Dn.st (fun t q => XS.icmpYes X0.here hx rfl (pc0 := 9) (pc' := 18) rfl (hb hby d1_9) rfl (tlt c2).1 (by decide) (by decide) q) ?_
      show Dn p e below s _ _ _ s₁ (mkF m 18 #[.val (.int x0)] [])
      refine Dn.st (fun t q => XS.iloadN X0.here hx rfl (hb hby d1_18) rfl  q) ?_
      show Dn p e below s _ _ _ s₁ (mkF m 19 #[.val (.int x0)] [(.int x0)])
      refine Dn.st (fun t q => XS.sipush X0.here hx rfl (hb hby d1_19) q) ?_
      show Dn p e below s _ _ _ s₁ (mkF m 22 #[.val (.int x0)] [(.int (128 : Int32)), (.int x0)])
      by_cases c3 : x0 < (128 : Int32)
      · refine Dn.st (fun t q => XS.icmpYes X0.here hx rfl (pc0 := 22) (pc' := 36) rfl (hb hby d1_22) rfl (tlt c3).1 (by decide) (by decide) q) ?_
        show Dn p e below s _ _ _ s₁ (mkF m 36 #[.val (.int x0)] [])
        refine Dn.st (fun t q => XS.iconst X0.here hx rfl (hb hby d1_36) q) ?_
        show Dn p e below s _ _ _ s₁ (mkF m 37 #[.val (.int x0)] [(.int (0 : Int32))])
        exact Dn.retZ X0 hx Bd.notSynchronized (t := .boolean) Bd.returns (by simp) (hb hby d1_37) (by rw [e0]; exact ⟨by show some (Value.int (0 : Int32)) = some (Value.int (own_q x0)); rw [own_q, if_neg c1, if_pos c2, if_pos c3], N0, rfl⟩) (by decide) (by decide)
      · refine Dn.st (fun t q => XS.icmpNo X0.here hx rfl (hb hby d1_22) rfl (flt c3).1 q) ?_
        show Dn p e below s _ _ _ s₁ (mkF m 25 #[.val (.int x0)] [])
        refine Dn.st (fun t q => XS.iloadN X0.here hx rfl (hb hby d1_25) rfl  q) ?_
        show Dn p e below s _ _ _ s₁ (mkF m 26 #[.val (.int x0)] [(.int x0)])
        refine Dn.st (fun t q => XS.sipush X0.here hx rfl (hb hby d1_26) q) ?_
        show Dn p e below s _ _ _ s₁ (mkF m 29 #[.val (.int x0)] [(.int (255 : Int32)), (.int x0)])
        by_cases c4 : (255 : Int32) < x0
        · refine Dn.st (fun t q => XS.icmpYes X0.here hx rfl (pc0 := 29) (pc' := 36) rfl (hb hby d1_29) rfl (tlt c4).2.2.1 (by decide) (by decide) q) ?_
          show Dn p e below s _ _ _ s₁ (mkF m 36 #[.val (.int x0)] [])
          refine Dn.st (fun t q => XS.iconst X0.here hx rfl (hb hby d1_36) q) ?_
          show Dn p e below s _ _ _ s₁ (mkF m 37 #[.val (.int x0)] [(.int (0 : Int32))])
          exact Dn.retZ X0 hx Bd.notSynchronized (t := .boolean) Bd.returns (by simp) (hb hby d1_37) (by rw [e0]; exact ⟨by show some (Value.int (0 : Int32)) = some (Value.int (own_q x0)); rw [own_q, if_neg c1, if_pos c2, if_neg c3, if_pos c4], N0, rfl⟩) (by decide) (by decide)
        · refine Dn.st (fun t q => XS.icmpNo X0.here hx rfl (hb hby d1_29) rfl (flt c4).2.2.1 q) ?_
          show Dn p e below s _ _ _ s₁ (mkF m 32 #[.val (.int x0)] [])
          refine Dn.st (fun t q => XS.iconst X0.here hx rfl (hb hby d1_32) q) ?_
          show Dn p e below s _ _ _ s₁ (mkF m 33 #[.val (.int x0)] [(.int (1 : Int32))])
          refine Dn.st (fun t q => XS.goto X0.here hx rfl (pc0 := 33) (pc' := 37) rfl (hb hby d1_33) (by decide) (by decide) q) ?_
          show Dn p e below s _ _ _ s₁ (mkF m 37 #[.val (.int x0)] [(.int (1 : Int32))])
          exact Dn.retZ X0 hx Bd.notSynchronized (t := .boolean) Bd.returns (by simp) (hb hby d1_37) (by rw [e0]; exact ⟨by show some (Value.int (1 : Int32)) = some (Value.int (own_q x0)); rw [own_q, if_neg c1, if_pos c2, if_neg c3, if_neg c4], N0, rfl⟩) (by decide) (by decide)
    · refine Dn.st (fun t q => XS.icmpNo X0.here hx rfl (hb hby d1_9) rfl (flt c2).1 q) ?_
      show Dn p e below s _ _ _ s₁ (mkF m 12 #[.val (.int x0)] [])
      refine Dn.st (fun t q => XS.iloadN X0.here hx rfl (hb hby d1_12) rfl  q) ?_
      show Dn p e below s _ _ _ s₁ (mkF m 13 #[.val (.int x0)] [(.int x0)])
      refine Dn.st (fun t q => XS.bipush X0.here hx rfl (hb hby d1_13) q) ?_
      show Dn p e below s _ _ _ s₁ (mkF m 15 #[.val (.int x0)] [(.int (126 : Int32)), (.int x0)])
      by_cases c5 : (126 : Int32) < x0
      · refine Dn.st (fun t q => XS.icmpNo X0.here hx rfl (hb hby d1_15) rfl (tlt c5).2.2.2 q) ?_
        show Dn p e below s _ _ _ s₁ (mkF m 18 #[.val (.int x0)] [])
        refine Dn.st (fun t q => XS.iloadN X0.here hx rfl (hb hby d1_18) rfl  q) ?_
        show Dn p e below s _ _ _ s₁ (mkF m 19 #[.val (.int x0)] [(.int x0)])
        refine Dn.st (fun t q => XS.sipush X0.here hx rfl (hb hby d1_19) q) ?_
        show Dn p e below s _ _ _ s₁ (mkF m 22 #[.val (.int x0)] [(.int (128 : Int32)), (.int x0)])
        by_cases c6 : x0 < (128 : Int32)
        · refine Dn.st (fun t q => XS.icmpYes X0.here hx rfl (pc0 := 22) (pc' := 36) rfl (hb hby d1_22) rfl (tlt c6).1 (by decide) (by decide) q) ?_
          show Dn p e below s _ _ _ s₁ (mkF m 36 #[.val (.int x0)] [])
          refine Dn.st (fun t q => XS.iconst X0.here hx rfl (hb hby d1_36) q) ?_
          show Dn p e below s _ _ _ s₁ (mkF m 37 #[.val (.int x0)] [(.int (0 : Int32))])
          exact Dn.retZ X0 hx Bd.notSynchronized (t := .boolean) Bd.returns (by simp) (hb hby d1_37) (by rw [e0]; exact ⟨by show some (Value.int (0 : Int32)) = some (Value.int (own_q x0)); rw [own_q, if_neg c1, if_neg c2, if_pos c5, if_pos c6], N0, rfl⟩) (by decide) (by decide)
        · refine Dn.st (fun t q => XS.icmpNo X0.here hx rfl (hb hby d1_22) rfl (flt c6).1 q) ?_
          show Dn p e below s _ _ _ s₁ (mkF m 25 #[.val (.int x0)] [])
          refine Dn.st (fun t q => XS.iloadN X0.here hx rfl (hb hby d1_25) rfl  q) ?_
          show Dn p e below s _ _ _ s₁ (mkF m 26 #[.val (.int x0)] [(.int x0)])
          refine Dn.st (fun t q => XS.sipush X0.here hx rfl (hb hby d1_26) q) ?_
          show Dn p e below s _ _ _ s₁ (mkF m 29 #[.val (.int x0)] [(.int (255 : Int32)), (.int x0)])
          by_cases c7 : (255 : Int32) < x0
          · refine Dn.st (fun t q => XS.icmpYes X0.here hx rfl (pc0 := 29) (pc' := 36) rfl (hb hby d1_29) rfl (tlt c7).2.2.1 (by decide) (by decide) q) ?_
            show Dn p e below s _ _ _ s₁ (mkF m 36 #[.val (.int x0)] [])
            refine Dn.st (fun t q => XS.iconst X0.here hx rfl (hb hby d1_36) q) ?_
            show Dn p e below s _ _ _ s₁ (mkF m 37 #[.val (.int x0)] [(.int (0 : Int32))])
            exact Dn.retZ X0 hx Bd.notSynchronized (t := .boolean) Bd.returns (by simp) (hb hby d1_37) (by rw [e0]; exact ⟨by show some (Value.int (0 : Int32)) = some (Value.int (own_q x0)); rw [own_q, if_neg c1, if_neg c2, if_pos c5, if_neg c6, if_pos c7], N0, rfl⟩) (by decide) (by decide)
          · refine Dn.st (fun t q => XS.icmpNo X0.here hx rfl (hb hby d1_29) rfl (flt c7).2.2.1 q) ?_
            show Dn p e below s _ _ _ s₁ (mkF m 32 #[.val (.int x0)] [])
            refine Dn.st (fun t q => XS.iconst X0.here hx rfl (hb hby d1_32) q) ?_
            show Dn p e below s _ _ _ s₁ (mkF m 33 #[.val (.int x0)] [(.int (1 : Int32))])
            refine Dn.st (fun t q => XS.goto X0.here hx rfl (pc0 := 33) (pc' := 37) rfl (hb hby d1_33) (by decide) (by decide) q) ?_
            show Dn p e below s _ _ _ s₁ (mkF m 37 #[.val (.int x0)] [(.int (1 : Int32))])
            exact Dn.retZ X0 hx Bd.notSynchronized (t := .boolean) Bd.returns (by simp) (hb hby d1_37) (by rw [e0]; exact ⟨by show some (Value.int (1 : Int32)) = some (Value.int (own_q x0)); rw [own_q, if_neg c1, if_neg c2, if_pos c5, if_neg c6, if_neg c7], N0, rfl⟩) (by decide) (by decide)
      · refine Dn.st (fun t q => XS.icmpYes X0.here hx rfl (pc0 := 15) (pc' := 32) rfl (hb hby d1_15) rfl (flt c5).2.2.2 (by decide) (by decide) q) ?_
        show Dn p e below s _ _ _ s₁ (mkF m 32 #[.val (.int x0)] [])
        refine Dn.st (fun t q => XS.iconst X0.here hx rfl (hb hby d1_32) q) ?_
        show Dn p e below s _ _ _ s₁ (mkF m 33 #[.val (.int x0)] [(.int (1 : Int32))])
        refine Dn.st (fun t q => XS.goto X0.here hx rfl (pc0 := 33) (pc' := 37) rfl (hb hby d1_33) (by decide) (by decide) q) ?_
        show Dn p e below s _ _ _ s₁ (mkF m 37 #[.val (.int x0)] [(.int (1 : Int32))])
        exact Dn.retZ X0 hx Bd.notSynchronized (t := .boolean) Bd.returns (by simp) (hb hby d1_37) (by rw [e0]; exact ⟨by show some (Value.int (1 : Int32)) = some (Value.int (own_q x0)); rw [own_q, if_neg c1, if_neg c2, if_neg c5], N0, rfl⟩) (by decide) (by decide)
theorem pd_0 : parseMethodDescriptor "(C)Z" = some ⟨[.char], some .boolean⟩ := by decide +kernel
theorem own_fin3 (ch : Int32) (c1 : (255 : Int32) < ch) : own_q ch = (0 : Int32) := by
  unfold own_q
  simp only [Int32.lt_iff_toInt_lt, ← Int32.toInt_inj] at *
  repeat' split
  all_goals first | rfl | (exfalso; simp at *; omega)
theorem own_fin6 (ch : Int32) (c1 : ¬ ((255 : Int32) < ch)) (c4 : ch = (127 : Int32)) : own_q ch = (0 : Int32) := by
  unfold own_q
  simp only [Int32.lt_iff_toInt_lt, ← Int32.toInt_inj] at *
  repeat' split
  all_goals first | rfl | (exfalso; simp at *; omega)
theorem own_fin10 (ch : Int32) (c1 : ¬ ((255 : Int32) < ch)) (c4 : ¬ (ch = (127 : Int32))) (c7 : ch < (32 : Int32)) (c8 : ch = (9 : Int32)) : own_q ch = (1 : Int32) := by
  unfold own_q
  simp only [Int32.lt_iff_toInt_lt, ← Int32.toInt_inj] at *
  repeat' split
  all_goals first | rfl | (exfalso; simp at *; omega)
theorem own_fin12 (ch : Int32) (c1 : ¬ ((255 : Int32) < ch)) (c4 : ¬ (ch = (127 : Int32))) (c7 : ch < (32 : Int32)) (c8 : ¬ (ch = (9 : Int32))) : own_q ch = (0 : Int32) := by
  unfold own_q
  simp only [Int32.lt_iff_toInt_lt, ← Int32.toInt_inj] at *
  repeat' split
  all_goals first | rfl | (exfalso; simp at *; omega)
theorem own_fin14 (ch : Int32) (c1 : ¬ ((255 : Int32) < ch)) (c4 : ¬ (ch = (127 : Int32))) (c7 : ¬ (ch < (32 : Int32))) : own_q ch = (1 : Int32) := by
  unfold own_q
  simp only [Int32.lt_iff_toInt_lt, ← Int32.toInt_inj] at *
  repeat' split
  all_goals first | rfl | (exfalso; simp at *; omega)
theorem pn_1 : plainName "com/example/lyrebird/lyrebird/core/header/HeaderSyntaxIsQuotedTextPinLaw" = true := by first | (simp [plainName, overriddenIn]; done) | decide +kernel
theorem ef_rm0 (m : MethodId) (x0 : Int32) : entryFrame m #[(.int x0)] maxLocals = mkF m 0 #[.val (.int x0), .unset, .unset, .unset] [] := by first | (simp [entryFrame, mkF, argsToLocals, Value.category, maxLocals]; done) | rfl
def Q0 (Z : State) (x0 : Int32) (h0 : Heap) (n0 : Nat) (v : Option Value) (h : Heap) (L : List Loc) : Prop := v = some (.int 1) ∧ Fr n0 L
set_option maxRecDepth 65536 in
set_option maxHeartbeats 40000000 in
theorem rm0 (l : Launch) (Z : State) (a0 : Array Value) (hw : ∀ d ∈ tables_1, d.before a0 Z = true) (ws : List Jvm.Cond) (x0 : Int32) (h0 : Heap) (n0 : Nat) (Z0 : n0 ≤ h0.size) :
    MetFree l x (head1 (Jvm.Cond.code x code maxLocals ret :: ws) room_1) (fun a U => a = #[(.int x0)] ∧ Z.Warmed39 U.vm ∧ U.heap = h0) (fun _ _ _ _ _ => True) (fun _ U o U' => ∃ v L, o = .returned v ∧ Q0 Z x0 h0 n0 v U'.heap L ∧ FrameEnd U o U' L 0 0) := by
  refine MetFree.of_bodySF (plainFor_of_name pn_1) hisR ?_
  intro p e s m args below meth c s₁ Bd hml0 hP hK
  obtain ⟨rfl, hZ, hh⟩ := hP
  have hx := Bd.exec
  have hby := Bd.bytes
  have hml : c.maxLocals = 4 := hml0
  have hown : s.vm.findClass "com/example/lyrebird/lyrebird/core/header/HeaderSyntaxIsQuotedTextPinLaw" = some m.cls := findClass_of_methodNamed Bd.named
  have hnm := (name_of_methodNamed Bd.named Bd.method).1
  have X0 : Stand p l e room_1 s m #[(.int x0)] below meth c s₁ [] 0 0 := Stand.of_body Bd
  have e0 : s₁.heap = h0 := by rw [← hh, Bd.state]; rfl
  have N0 := Fr.nil n0
  have K0 := Keep.refl h0 []
  suffices hD : Dn p e below s (Q0 Z x0 h0 n0) 0 0 s₁ (mkF m 0 #[.val (.int x0), .unset, .unset, .unset] []) from by
    obtain ⟨s₂, o, q1, q2⟩ := hD
    exact ⟨s₂, o, castTop (ef_rm0 m x0) q1, q2⟩
  refine Dn.st (fun t q => XS.iloadN X0.here hx rfl (hb hby at_0) rfl  q) ?_
  show Dn p e below s _ _ _ s₁ (mkF m 1 #[.val (.int x0), .unset, .unset, .unset] [(.int x0)])
  refine Dn.st (X0.ldcInt hx hown (mvT hZ (hw _ (List.mem_of_getElem? (i := 0) rfl))) (g := (mkF m 1 #[.val (.int x0), .unset, .unset, .unset] [(.int x0)])) rfl (hb hby at_1)) ?_
  show Dn p e below s _ _ _ s₁ (mkF m 3 #[.val (.int x0), .unset, .unset, .unset] [(.int (65535 : Int32)), (.int x0)])
  refine Dn.st (fun t q => XS.iand X0.here hx rfl (hb hby at_3) rfl q) ?_
  show Dn p e below s _ _ _ s₁ (mkF m 4 #[.val (.int x0), .unset, .unset, .unset] [(.int (x0 &&& (65535 : Int32)))])
  refine Dn.st (fun t q => XS.i2c X0.here hx rfl (hb hby at_4) rfl q) ?_
  show Dn p e below s _ _ _ s₁ (mkF m 5 #[.val (.int x0), .unset, .unset, .unset] [(.int ((x0 &&& (65535 : Int32)).toUInt32.toUInt16.toUInt32.toInt32))])
  generalize hch : ((x0 &&& (65535 : Int32)).toUInt32.toUInt16.toUInt32.toInt32) = ch
  show Dn p e below s _ _ _ s₁ (mkF m 5 #[.val (.int x0), .unset, .unset, .unset] [(.int ch)])
  refine Dn.st (fun t q => XS.istoreN X0.here hx rfl (hb hby at_5) rfl (l' := #[.val (.int x0), .val (.int ch), .unset, .unset]) rfl q) ?_
  show Dn p e below s _ _ _ s₁ (mkF m 6 #[.val (.int x0), .val (.int ch), .unset, .unset] [])
  refine Dn.st (fun t q => XS.iloadN X0.here hx rfl (hb hby at_6) rfl  q) ?_
  show Dn p e below s _ _ _ s₁ (mkF m 7 #[.val (.int x0), .val (.int ch), .unset, .unset] [(.int ch)])
  refine Dn.st (fun t q => XS.istoreN X0.here hx rfl (hb hby at_7) rfl (l' := #[.val (.int x0), .val (.int ch), .val (.int ch), .unset]) rfl q) ?_
  show Dn p e below s _ _ _ s₁ (mkF m 8 #[.val (.int x0), .val (.int ch), .val (.int ch), .unset] [])
  refine Dn.st (fun t q => XS.iloadN X0.here hx rfl (hb hby at_8) rfl  q) ?_
  show Dn p e below s _ _ _ s₁ (mkF m 9 #[.val (.int x0), .val (.int ch), .val (.int ch), .unset] [(.int ch)])
  refine Dn.st (fun t q => XS.sipush X0.here hx rfl (hb hby at_9) q) ?_
  show Dn p e below s _ _ _ s₁ (mkF m 12 #[.val (.int x0), .val (.int ch), .val (.int ch), .unset] [(.int (255 : Int32)), (.int ch)])
  by_cases c1 : (255 : Int32) < ch
  · refine Dn.st (fun t q => XS.icmpYes X0.here hx rfl (pc0 := 12) (pc' := 37) rfl (hb hby at_12) rfl (tlt c1).2.2.1 (by decide) (by decide) q) ?_
    show Dn p e below s _ _ _ s₁ (mkF m 37 #[.val (.int x0), .val (.int ch), .val (.int ch), .unset] [])
    refine Dn.st (fun t q => XS.iconst X0.here hx rfl (hb hby at_37) q) ?_
    show Dn p e below s _ _ _ s₁ (mkF m 38 #[.val (.int x0), .val (.int ch), .val (.int ch), .unset] [(.int (0 : Int32))])
    refine Dn.st (fun t q => XS.istoreN X0.here hx rfl (hb hby at_38) rfl (l' := #[.val (.int x0), .val (.int ch), .val (.int ch), .val (.int (0 : Int32))]) rfl q) ?_
    show Dn p e below s _ _ _ s₁ (mkF m 39 #[.val (.int x0), .val (.int ch), .val (.int ch), .val (.int (0 : Int32))] [])
    refine Dn.st (fun t q => XS.iloadN X0.here hx rfl (hb hby at_39) rfl  q) ?_
    show Dn p e below s _ _ _ s₁ (mkF m 40 #[.val (.int x0), .val (.int ch), .val (.int ch), .val (.int (0 : Int32))] [(.int ch)])
    obtain ⟨_, _, ⟨T2, Lq2, kq_2, nq_2⟩, -, X2, ⟨Lc2, hQ2, lq2, yq2, zq2⟩, st2⟩ := Jvm.LawKit.callS X0 hx (y := (⟨"com/example/lyrebird/lyrebird/core/header/HeaderSyntax", "isQuotedText", "(C)Z"⟩ : MethodName)) hown (mvT hZ (hw _ (List.mem_of_getElem? (i := 1) rfl))) (mvT hZ (hw _ (List.mem_of_getElem? (i := 2) rfl))) (mvT hZ (hw _ (List.mem_of_getElem? (i := 3) rfl))) (mvT hZ (hw _ (List.mem_of_getElem? (i := 4) rfl))) (by decide) (backOf (W := 0) (rm1 l Z a0 hw [] ch  h0 n0 Z0 ) hZ (hw _ (List.mem_of_getElem? (i := 4) rfl)) (hw _ (List.mem_of_getElem? (i := 3) rfl)) (by decide) (by decide)) (g := (mkF m 40 #[.val (.int x0), .val (.int ch), .val (.int ch), .val (.int (0 : Int32))] [(.int ch)])) rfl (by rw [hml]; rfl) (argsL := [(.int ch)]) (rest := []) (lenOf pd_0 rfl) rfl (by show 2 * 0 + _ ≤ _; exact Nat.le_of_eq rfl) (hb hby at_40) (fun _ _ => ⟨rfl, e0, (by decide : 0 + 0 ≤ _), (by decide : 0 + 0 ≤ _)⟩)
    dsimp only [Pt.U, Pt.locs, Pt.cells, Pt.slots] at X2 lq2 yq2 zq2 st2 hQ2
    subst lq2 yq2 zq2
    obtain ⟨rfl, N2q, hq2⟩ := hQ2
    have N0 := Fr.app N0 N2q
    have e2 : T2.heap = h0 := hq2
    refine Dn.st st2 ?_
    show Dn p e below s _ _ _ T2 (mkF m 43 #[.val (.int x0), .val (.int ch), .val (.int ch), .val (.int (0 : Int32))] [(.int (own_q ch))])
    refine Dn.st (fun t q => XS.iloadN X2.here hx rfl (hb hby at_43) rfl  q) ?_
    show Dn p e below s _ _ _ T2 (mkF m 44 #[.val (.int x0), .val (.int ch), .val (.int ch), .val (.int (0 : Int32))] [(.int (0 : Int32)), (.int (own_q ch))])
    refine Dn.st (fun t q => XS.icmpNo X2.here hx rfl (hb hby at_44) rfl (teq (own_fin3 ch c1)).2 q) ?_
    show Dn p e below s _ _ _ T2 (mkF m 47 #[.val (.int x0), .val (.int ch), .val (.int ch), .val (.int (0 : Int32))] [])
    refine Dn.st (fun t q => XS.iconst X2.here hx rfl (hb hby at_47) q) ?_
    show Dn p e below s _ _ _ T2 (mkF m 48 #[.val (.int x0), .val (.int ch), .val (.int ch), .val (.int (0 : Int32))] [(.int (1 : Int32))])
    refine Dn.st (fun t q => XS.goto X2.here hx rfl (pc0 := 48) (pc' := 52) rfl (hb hby at_48) (by decide) (by decide) q) ?_
    show Dn p e below s _ _ _ T2 (mkF m 52 #[.val (.int x0), .val (.int ch), .val (.int ch), .val (.int (0 : Int32))] [(.int (1 : Int32))])
    exact Dn.retZ X2 hx Bd.notSynchronized (t := .boolean) Bd.returns (by simp) (hb hby at_52) (by rw [e2]; exact ⟨rfl, N0⟩) (by decide) (by decide)
  · refine Dn.st (fun t q => XS.icmpNo X0.here hx rfl (hb hby at_12) rfl (flt c1).2.2.1 q) ?_
    show Dn p e below s _ _ _ s₁ (mkF m 15 #[.val (.int x0), .val (.int ch), .val (.int ch), .unset] [])
    refine Dn.st (fun t q => XS.iloadN X0.here hx rfl (hb hby at_15) rfl  q) ?_
    show Dn p e below s _ _ _ s₁ (mkF m 16 #[.val (.int x0), .val (.int ch), .val (.int ch), .unset] [(.int ch)])
    refine Dn.st (fun t q => XS.bipush X0.here hx rfl (hb hby at_16) q) ?_
    show Dn p e below s _ _ _ s₁ (mkF m 18 #[.val (.int x0), .val (.int ch), .val (.int ch), .unset] [(.int (127 : Int32)), (.int ch)])
    by_cases c4 : ch = (127 : Int32)
    · refine Dn.st (fun t q => XS.icmpYes X0.here hx rfl (pc0 := 18) (pc' := 37) rfl (hb hby at_18) rfl (teq c4).1 (by decide) (by decide) q) ?_
      show Dn p e below s _ _ _ s₁ (mkF m 37 #[.val (.int x0), .val (.int ch), .val (.int ch), .unset] [])
      refine Dn.st (fun t q => XS.iconst X0.here hx rfl (hb hby at_37) q) ?_
      show Dn p e below s _ _ _ s₁ (mkF m 38 #[.val (.int x0), .val (.int ch), .val (.int ch), .unset] [(.int (0 : Int32))])
      refine Dn.st (fun t q => XS.istoreN X0.here hx rfl (hb hby at_38) rfl (l' := #[.val (.int x0), .val (.int ch), .val (.int ch), .val (.int (0 : Int32))]) rfl q) ?_
      show Dn p e below s _ _ _ s₁ (mkF m 39 #[.val (.int x0), .val (.int ch), .val (.int ch), .val (.int (0 : Int32))] [])
      refine Dn.st (fun t q => XS.iloadN X0.here hx rfl (hb hby at_39) rfl  q) ?_
      show Dn p e below s _ _ _ s₁ (mkF m 40 #[.val (.int x0), .val (.int ch), .val (.int ch), .val (.int (0 : Int32))] [(.int ch)])
      obtain ⟨_, _, ⟨T5, Lq5, kq_5, nq_5⟩, -, X5, ⟨Lc5, hQ5, lq5, yq5, zq5⟩, st5⟩ := Jvm.LawKit.callS X0 hx (y := (⟨"com/example/lyrebird/lyrebird/core/header/HeaderSyntax", "isQuotedText", "(C)Z"⟩ : MethodName)) hown (mvT hZ (hw _ (List.mem_of_getElem? (i := 1) rfl))) (mvT hZ (hw _ (List.mem_of_getElem? (i := 2) rfl))) (mvT hZ (hw _ (List.mem_of_getElem? (i := 3) rfl))) (mvT hZ (hw _ (List.mem_of_getElem? (i := 4) rfl))) (by decide) (backOf (W := 0) (rm1 l Z a0 hw [] ch  h0 n0 Z0 ) hZ (hw _ (List.mem_of_getElem? (i := 4) rfl)) (hw _ (List.mem_of_getElem? (i := 3) rfl)) (by decide) (by decide)) (g := (mkF m 40 #[.val (.int x0), .val (.int ch), .val (.int ch), .val (.int (0 : Int32))] [(.int ch)])) rfl (by rw [hml]; rfl) (argsL := [(.int ch)]) (rest := []) (lenOf pd_0 rfl) rfl (by show 2 * 0 + _ ≤ _; exact Nat.le_of_eq rfl) (hb hby at_40) (fun _ _ => ⟨rfl, e0, (by decide : 0 + 0 ≤ _), (by decide : 0 + 0 ≤ _)⟩)
      dsimp only [Pt.U, Pt.locs, Pt.cells, Pt.slots] at X5 lq5 yq5 zq5 st5 hQ5
      subst lq5 yq5 zq5
      obtain ⟨rfl, N5q, hq5⟩ := hQ5
      have N0 := Fr.app N0 N5q
      have e5 : T5.heap = h0 := hq5
      refine Dn.st st5 ?_
      show Dn p e below s _ _ _ T5 (mkF m 43 #[.val (.int x0), .val (.int ch), .val (.int ch), .val (.int (0 : Int32))] [(.int (own_q ch))])
      refine Dn.st (fun t q => XS.iloadN X5.here hx rfl (hb hby at_43) rfl  q) ?_
      show Dn p e below s _ _ _ T5 (mkF m 44 #[.val (.int x0), .val (.int ch), .val (.int ch), .val (.int (0 : Int32))] [(.int (0 : Int32)), (.int (own_q ch))])
      refine Dn.st (fun t q => XS.icmpNo X5.here hx rfl (hb hby at_44) rfl (teq (own_fin6 ch c1 c4)).2 q) ?_
      show Dn p e below s _ _ _ T5 (mkF m 47 #[.val (.int x0), .val (.int ch), .val (.int ch), .val (.int (0 : Int32))] [])
      refine Dn.st (fun t q => XS.iconst X5.here hx rfl (hb hby at_47) q) ?_
      show Dn p e below s _ _ _ T5 (mkF m 48 #[.val (.int x0), .val (.int ch), .val (.int ch), .val (.int (0 : Int32))] [(.int (1 : Int32))])
      refine Dn.st (fun t q => XS.goto X5.here hx rfl (pc0 := 48) (pc' := 52) rfl (hb hby at_48) (by decide) (by decide) q) ?_
      show Dn p e below s _ _ _ T5 (mkF m 52 #[.val (.int x0), .val (.int ch), .val (.int ch), .val (.int (0 : Int32))] [(.int (1 : Int32))])
      exact Dn.retZ X5 hx Bd.notSynchronized (t := .boolean) Bd.returns (by simp) (hb hby at_52) (by rw [e5]; exact ⟨rfl, N0⟩) (by decide) (by decide)
    · refine Dn.st (fun t q => XS.icmpNo X0.here hx rfl (hb hby at_18) rfl (feq c4).1 q) ?_
      show Dn p e below s _ _ _ s₁ (mkF m 21 #[.val (.int x0), .val (.int ch), .val (.int ch), .unset] [])
      refine Dn.st (fun t q => XS.iloadN X0.here hx rfl (hb hby at_21) rfl  q) ?_
      show Dn p e below s _ _ _ s₁ (mkF m 22 #[.val (.int x0), .val (.int ch), .val (.int ch), .unset] [(.int ch)])
      refine Dn.st (fun t q => XS.bipush X0.here hx rfl (hb hby at_22) q) ?_
      show Dn p e below s _ _ _ s₁ (mkF m 24 #[.val (.int x0), .val (.int ch), .val (.int ch), .unset] [(.int (32 : Int32)), (.int ch)])
      by_cases c7 : ch < (32 : Int32)
      · refine Dn.st (fun t q => XS.icmpNo X0.here hx rfl (hb hby at_24) rfl (tlt c7).2.1 q) ?_
        show Dn p e below s _ _ _ s₁ (mkF m 27 #[.val (.int x0), .val (.int ch), .val (.int ch), .unset] [])
        refine Dn.st (fun t q => XS.iloadN X0.here hx rfl (hb hby at_27) rfl  q) ?_
        show Dn p e below s _ _ _ s₁ (mkF m 28 #[.val (.int x0), .val (.int ch), .val (.int ch), .unset] [(.int ch)])
        refine Dn.st (fun t q => XS.bipush X0.here hx rfl (hb hby at_28) q) ?_
        show Dn p e below s _ _ _ s₁ (mkF m 30 #[.val (.int x0), .val (.int ch), .val (.int ch), .unset] [(.int (9 : Int32)), (.int ch)])
        by_cases c8 : ch = (9 : Int32)
        · refine Dn.st (fun t q => XS.icmpNo X0.here hx rfl (hb hby at_30) rfl (teq c8).2 q) ?_
          show Dn p e below s _ _ _ s₁ (mkF m 33 #[.val (.int x0), .val (.int ch), .val (.int ch), .unset] [])
          refine Dn.st (fun t q => XS.iconst X0.here hx rfl (hb hby at_33) q) ?_
          show Dn p e below s _ _ _ s₁ (mkF m 34 #[.val (.int x0), .val (.int ch), .val (.int ch), .unset] [(.int (1 : Int32))])
          refine Dn.st (fun t q => XS.goto X0.here hx rfl (pc0 := 34) (pc' := 38) rfl (hb hby at_34) (by decide) (by decide) q) ?_
          show Dn p e below s _ _ _ s₁ (mkF m 38 #[.val (.int x0), .val (.int ch), .val (.int ch), .unset] [(.int (1 : Int32))])
          refine Dn.st (fun t q => XS.istoreN X0.here hx rfl (hb hby at_38) rfl (l' := #[.val (.int x0), .val (.int ch), .val (.int ch), .val (.int (1 : Int32))]) rfl q) ?_
          show Dn p e below s _ _ _ s₁ (mkF m 39 #[.val (.int x0), .val (.int ch), .val (.int ch), .val (.int (1 : Int32))] [])
          refine Dn.st (fun t q => XS.iloadN X0.here hx rfl (hb hby at_39) rfl  q) ?_
          show Dn p e below s _ _ _ s₁ (mkF m 40 #[.val (.int x0), .val (.int ch), .val (.int ch), .val (.int (1 : Int32))] [(.int ch)])
          obtain ⟨_, _, ⟨T9, Lq9, kq_9, nq_9⟩, -, X9, ⟨Lc9, hQ9, lq9, yq9, zq9⟩, st9⟩ := Jvm.LawKit.callS X0 hx (y := (⟨"com/example/lyrebird/lyrebird/core/header/HeaderSyntax", "isQuotedText", "(C)Z"⟩ : MethodName)) hown (mvT hZ (hw _ (List.mem_of_getElem? (i := 1) rfl))) (mvT hZ (hw _ (List.mem_of_getElem? (i := 2) rfl))) (mvT hZ (hw _ (List.mem_of_getElem? (i := 3) rfl))) (mvT hZ (hw _ (List.mem_of_getElem? (i := 4) rfl))) (by decide) (backOf (W := 0) (rm1 l Z a0 hw [] ch  h0 n0 Z0 ) hZ (hw _ (List.mem_of_getElem? (i := 4) rfl)) (hw _ (List.mem_of_getElem? (i := 3) rfl)) (by decide) (by decide)) (g := (mkF m 40 #[.val (.int x0), .val (.int ch), .val (.int ch), .val (.int (1 : Int32))] [(.int ch)])) rfl (by rw [hml]; rfl) (argsL := [(.int ch)]) (rest := []) (lenOf pd_0 rfl) rfl (by show 2 * 0 + _ ≤ _; exact Nat.le_of_eq rfl) (hb hby at_40) (fun _ _ => ⟨rfl, e0, (by decide : 0 + 0 ≤ _), (by decide : 0 + 0 ≤ _)⟩)
          dsimp only [Pt.U, Pt.locs, Pt.cells, Pt.slots] at X9 lq9 yq9 zq9 st9 hQ9
          subst lq9 yq9 zq9
          obtain ⟨rfl, N9q, hq9⟩ := hQ9
          have N0 := Fr.app N0 N9q
          have e9 : T9.heap = h0 := hq9
          refine Dn.st st9 ?_
          show Dn p e below s _ _ _ T9 (mkF m 43 #[.val (.int x0), .val (.int ch), .val (.int ch), .val (.int (1 : Int32))] [(.int (own_q ch))])
          refine Dn.st (fun t q => XS.iloadN X9.here hx rfl (hb hby at_43) rfl  q) ?_
          show Dn p e below s _ _ _ T9 (mkF m 44 #[.val (.int x0), .val (.int ch), .val (.int ch), .val (.int (1 : Int32))] [(.int (1 : Int32)), (.int (own_q ch))])
          refine Dn.st (fun t q => XS.icmpNo X9.here hx rfl (hb hby at_44) rfl (teq (own_fin10 ch c1 c4 c7 c8)).2 q) ?_
          show Dn p e below s _ _ _ T9 (mkF m 47 #[.val (.int x0), .val (.int ch), .val (.int ch), .val (.int (1 : Int32))] [])
          refine Dn.st (fun t q => XS.iconst X9.here hx rfl (hb hby at_47) q) ?_
          show Dn p e below s _ _ _ T9 (mkF m 48 #[.val (.int x0), .val (.int ch), .val (.int ch), .val (.int (1 : Int32))] [(.int (1 : Int32))])
          refine Dn.st (fun t q => XS.goto X9.here hx rfl (pc0 := 48) (pc' := 52) rfl (hb hby at_48) (by decide) (by decide) q) ?_
          show Dn p e below s _ _ _ T9 (mkF m 52 #[.val (.int x0), .val (.int ch), .val (.int ch), .val (.int (1 : Int32))] [(.int (1 : Int32))])
          exact Dn.retZ X9 hx Bd.notSynchronized (t := .boolean) Bd.returns (by simp) (hb hby at_52) (by rw [e9]; exact ⟨rfl, N0⟩) (by decide) (by decide)
        · refine Dn.st (fun t q => XS.icmpYes X0.here hx rfl (pc0 := 30) (pc' := 37) rfl (hb hby at_30) rfl (feq c8).2 (by decide) (by decide) q) ?_
          show Dn p e below s _ _ _ s₁ (mkF m 37 #[.val (.int x0), .val (.int ch), .val (.int ch), .unset] [])
          refine Dn.st (fun t q => XS.iconst X0.here hx rfl (hb hby at_37) q) ?_
          show Dn p e below s _ _ _ s₁ (mkF m 38 #[.val (.int x0), .val (.int ch), .val (.int ch), .unset] [(.int (0 : Int32))])
          refine Dn.st (fun t q => XS.istoreN X0.here hx rfl (hb hby at_38) rfl (l' := #[.val (.int x0), .val (.int ch), .val (.int ch), .val (.int (0 : Int32))]) rfl q) ?_
          show Dn p e below s _ _ _ s₁ (mkF m 39 #[.val (.int x0), .val (.int ch), .val (.int ch), .val (.int (0 : Int32))] [])
          refine Dn.st (fun t q => XS.iloadN X0.here hx rfl (hb hby at_39) rfl  q) ?_
          show Dn p e below s _ _ _ s₁ (mkF m 40 #[.val (.int x0), .val (.int ch), .val (.int ch), .val (.int (0 : Int32))] [(.int ch)])
          obtain ⟨_, _, ⟨T11, Lq11, kq_11, nq_11⟩, -, X11, ⟨Lc11, hQ11, lq11, yq11, zq11⟩, st11⟩ := Jvm.LawKit.callS X0 hx (y := (⟨"com/example/lyrebird/lyrebird/core/header/HeaderSyntax", "isQuotedText", "(C)Z"⟩ : MethodName)) hown (mvT hZ (hw _ (List.mem_of_getElem? (i := 1) rfl))) (mvT hZ (hw _ (List.mem_of_getElem? (i := 2) rfl))) (mvT hZ (hw _ (List.mem_of_getElem? (i := 3) rfl))) (mvT hZ (hw _ (List.mem_of_getElem? (i := 4) rfl))) (by decide) (backOf (W := 0) (rm1 l Z a0 hw [] ch  h0 n0 Z0 ) hZ (hw _ (List.mem_of_getElem? (i := 4) rfl)) (hw _ (List.mem_of_getElem? (i := 3) rfl)) (by decide) (by decide)) (g := (mkF m 40 #[.val (.int x0), .val (.int ch), .val (.int ch), .val (.int (0 : Int32))] [(.int ch)])) rfl (by rw [hml]; rfl) (argsL := [(.int ch)]) (rest := []) (lenOf pd_0 rfl) rfl (by show 2 * 0 + _ ≤ _; exact Nat.le_of_eq rfl) (hb hby at_40) (fun _ _ => ⟨rfl, e0, (by decide : 0 + 0 ≤ _), (by decide : 0 + 0 ≤ _)⟩)
          dsimp only [Pt.U, Pt.locs, Pt.cells, Pt.slots] at X11 lq11 yq11 zq11 st11 hQ11
          subst lq11 yq11 zq11
          obtain ⟨rfl, N11q, hq11⟩ := hQ11
          have N0 := Fr.app N0 N11q
          have e11 : T11.heap = h0 := hq11
          refine Dn.st st11 ?_
          show Dn p e below s _ _ _ T11 (mkF m 43 #[.val (.int x0), .val (.int ch), .val (.int ch), .val (.int (0 : Int32))] [(.int (own_q ch))])
          refine Dn.st (fun t q => XS.iloadN X11.here hx rfl (hb hby at_43) rfl  q) ?_
          show Dn p e below s _ _ _ T11 (mkF m 44 #[.val (.int x0), .val (.int ch), .val (.int ch), .val (.int (0 : Int32))] [(.int (0 : Int32)), (.int (own_q ch))])
          refine Dn.st (fun t q => XS.icmpNo X11.here hx rfl (hb hby at_44) rfl (teq (own_fin12 ch c1 c4 c7 c8)).2 q) ?_
          show Dn p e below s _ _ _ T11 (mkF m 47 #[.val (.int x0), .val (.int ch), .val (.int ch), .val (.int (0 : Int32))] [])
          refine Dn.st (fun t q => XS.iconst X11.here hx rfl (hb hby at_47) q) ?_
          show Dn p e below s _ _ _ T11 (mkF m 48 #[.val (.int x0), .val (.int ch), .val (.int ch), .val (.int (0 : Int32))] [(.int (1 : Int32))])
          refine Dn.st (fun t q => XS.goto X11.here hx rfl (pc0 := 48) (pc' := 52) rfl (hb hby at_48) (by decide) (by decide) q) ?_
          show Dn p e below s _ _ _ T11 (mkF m 52 #[.val (.int x0), .val (.int ch), .val (.int ch), .val (.int (0 : Int32))] [(.int (1 : Int32))])
          exact Dn.retZ X11 hx Bd.notSynchronized (t := .boolean) Bd.returns (by simp) (hb hby at_52) (by rw [e11]; exact ⟨rfl, N0⟩) (by decide) (by decide)
      · refine Dn.st (fun t q => XS.icmpYes X0.here hx rfl (pc0 := 24) (pc' := 33) rfl (hb hby at_24) rfl (flt c7).2.1 (by decide) (by decide) q) ?_
        show Dn p e below s _ _ _ s₁ (mkF m 33 #[.val (.int x0), .val (.int ch), .val (.int ch), .unset] [])
        refine Dn.st (fun t q => XS.iconst X0.here hx rfl (hb hby at_33) q) ?_
        show Dn p e below s _ _ _ s₁ (mkF m 34 #[.val (.int x0), .val (.int ch), .val (.int ch), .unset] [(.int (1 : Int32))])
        refine Dn.st (fun t q => XS.goto X0.here hx rfl (pc0 := 34) (pc' := 38) rfl (hb hby at_34) (by decide) (by decide) q) ?_
        show Dn p e below s _ _ _ s₁ (mkF m 38 #[.val (.int x0), .val (.int ch), .val (.int ch), .unset] [(.int (1 : Int32))])
        refine Dn.st (fun t q => XS.istoreN X0.here hx rfl (hb hby at_38) rfl (l' := #[.val (.int x0), .val (.int ch), .val (.int ch), .val (.int (1 : Int32))]) rfl q) ?_
        show Dn p e below s _ _ _ s₁ (mkF m 39 #[.val (.int x0), .val (.int ch), .val (.int ch), .val (.int (1 : Int32))] [])
        refine Dn.st (fun t q => XS.iloadN X0.here hx rfl (hb hby at_39) rfl  q) ?_
        show Dn p e below s _ _ _ s₁ (mkF m 40 #[.val (.int x0), .val (.int ch), .val (.int ch), .val (.int (1 : Int32))] [(.int ch)])
        obtain ⟨_, _, ⟨T13, Lq13, kq_13, nq_13⟩, -, X13, ⟨Lc13, hQ13, lq13, yq13, zq13⟩, st13⟩ := Jvm.LawKit.callS X0 hx (y := (⟨"com/example/lyrebird/lyrebird/core/header/HeaderSyntax", "isQuotedText", "(C)Z"⟩ : MethodName)) hown (mvT hZ (hw _ (List.mem_of_getElem? (i := 1) rfl))) (mvT hZ (hw _ (List.mem_of_getElem? (i := 2) rfl))) (mvT hZ (hw _ (List.mem_of_getElem? (i := 3) rfl))) (mvT hZ (hw _ (List.mem_of_getElem? (i := 4) rfl))) (by decide) (backOf (W := 0) (rm1 l Z a0 hw [] ch  h0 n0 Z0 ) hZ (hw _ (List.mem_of_getElem? (i := 4) rfl)) (hw _ (List.mem_of_getElem? (i := 3) rfl)) (by decide) (by decide)) (g := (mkF m 40 #[.val (.int x0), .val (.int ch), .val (.int ch), .val (.int (1 : Int32))] [(.int ch)])) rfl (by rw [hml]; rfl) (argsL := [(.int ch)]) (rest := []) (lenOf pd_0 rfl) rfl (by show 2 * 0 + _ ≤ _; exact Nat.le_of_eq rfl) (hb hby at_40) (fun _ _ => ⟨rfl, e0, (by decide : 0 + 0 ≤ _), (by decide : 0 + 0 ≤ _)⟩)
        dsimp only [Pt.U, Pt.locs, Pt.cells, Pt.slots] at X13 lq13 yq13 zq13 st13 hQ13
        subst lq13 yq13 zq13
        obtain ⟨rfl, N13q, hq13⟩ := hQ13
        have N0 := Fr.app N0 N13q
        have e13 : T13.heap = h0 := hq13
        refine Dn.st st13 ?_
        show Dn p e below s _ _ _ T13 (mkF m 43 #[.val (.int x0), .val (.int ch), .val (.int ch), .val (.int (1 : Int32))] [(.int (own_q ch))])
        refine Dn.st (fun t q => XS.iloadN X13.here hx rfl (hb hby at_43) rfl  q) ?_
        show Dn p e below s _ _ _ T13 (mkF m 44 #[.val (.int x0), .val (.int ch), .val (.int ch), .val (.int (1 : Int32))] [(.int (1 : Int32)), (.int (own_q ch))])
        refine Dn.st (fun t q => XS.icmpNo X13.here hx rfl (hb hby at_44) rfl (teq (own_fin14 ch c1 c4 c7)).2 q) ?_
        show Dn p e below s _ _ _ T13 (mkF m 47 #[.val (.int x0), .val (.int ch), .val (.int ch), .val (.int (1 : Int32))] [])
        refine Dn.st (fun t q => XS.iconst X13.here hx rfl (hb hby at_47) q) ?_
        show Dn p e below s _ _ _ T13 (mkF m 48 #[.val (.int x0), .val (.int ch), .val (.int ch), .val (.int (1 : Int32))] [(.int (1 : Int32))])
        refine Dn.st (fun t q => XS.goto X13.here hx rfl (pc0 := 48) (pc' := 52) rfl (hb hby at_48) (by decide) (by decide) q) ?_
        show Dn p e below s _ _ _ T13 (mkF m 52 #[.val (.int x0), .val (.int ch), .val (.int ch), .val (.int (1 : Int32))] [(.int (1 : Int32))])
        exact Dn.retZ X13 hx Bd.notSynchronized (t := .boolean) Bd.returns (by simp) (hb hby at_52) (by rw [e13]; exact ⟨rfl, N0⟩) (by decide) (by decide)
set_option maxRecDepth 65536 in
set_option maxHeartbeats 40000000 in
theorem comes_1 {Post : Tables → Env → Array Value → State → Outcome → State → Prop} (hpost : ∀ tb e args s v u, (limb_1_1.after args s (.returned v) u = true ∧ limb_1_2.after args s (.returned v) u = true ∧ True) → FrameEnd s (.returned v) u (Jvm.fieldLocs frame_1_writes args s ++ Jvm.arrayLocs frame_1_arrays args s ++ Jvm.staticLocs frame_1_statics s) 0 0 → Post tb e args s (.returned v) u) :
    ArmFor flags0 classFile x code maxLocals ret World_1 tables_1 room_1 Calls_1 rest_1 Pre_1 Post := by
  intro l hfl _ _ p e ha hc hk s m args below hf hA hF happ hP
  obtain ⟨hcalls, hrest, hpre⟩ := hP
  obtain ⟨-, -, -, hnamed, -, -, -, hat⟩ := (Spec.applies_iff hf).mp happ
  obtain ⟨hg, hn⟩ := and_e (Cond.before_iff.mp (show (Jvm.Cond.and given_1 narrow_1).before args s = true from hpre))
  obtain ⟨g1, g2⟩ := and_e hg
  obtain ⟨w0, rfl⟩ : ∃ w0 : Value, args = #[w0] := by
    have hs : args.size = 1 := by simpa [Cond.value, given_1] using g1
    obtain ⟨L⟩ := args
    match L, hs with
    | [w0], _ => exact ⟨w0, rfl⟩
  have hw := fun d (hd : d ∈ tables_1) => atoms_spec (ws := Jvm.Cond.code x code maxLocals ret :: tables_1) hat d (List.mem_cons_of_mem _ hd)
  obtain ⟨i0, ei0⟩ := is_v g2
  obtain rfl : w0 = (.int i0) := Option.some.inj ei0
  obtain ⟨n, o, h1, h2, h3, _, L, rfl, ⟨rfl, N⟩, hq⟩ := rm0 l s _ hw tables_1 i0 s.heap s.heap.size (Nat.le_refl _)  p e ha hc hk s m _ below hf ((Spec.applies_iff_loose hf).mp happ).1 ⟨rfl, State.Warmed39.refl s, rfl⟩ trivial
  refine ⟨n, _, h1, h2, h3, hpost _ _ _ _ _ _ ⟨Cond.after_iff.mpr rfl, Cond.after_iff.mpr (eq_i res_at (Term.int_eval (1)) rfl), trivial⟩ ⟨hq.1, hq.2.1, (hq.2.2.sift fun y hy => Or.inr (N y hy)).mono (by decide) (by decide)⟩⟩
theorem main_1_1 : Claimed_1_1 := comes_1 fun _ _ _ _ _ _ h hF => ⟨h.1, hF⟩
theorem main_1_2 : Claimed_1_2 := comes_1 fun _ _ _ _ _ _ h hF => ⟨h.2.1, hF⟩
end Jvm.Pilot.@@N@@
namespace Jvm.Pilot.@@N@@
open Jvm Jvm.ClassFile Sem Op Lib Jvm.Free Jvm.Stand Jvm.Pilot.@@N@@.Jvm.D
/-! MADE BY PROGRAM (witnessworld.py) out of the Statement's table words and the real class files: 9 classes; the members and pool entries that the words name. The judged class is class 1, her method 1. -/
namespace start1
open Jvm.ClassFile
def u (s : String) : CpInfo := .utf8 (stringToUtf16 s)
/-- a pool by its gaps: so many unusable entries, then the entry; so many at the end -/
def gap : Nat → List CpInfo → List CpInfo
  | 0, r => r
  | n + 1, r => .unusable :: gap n r
def poolList (es : List (Nat × CpInfo)) (last : Nat) : List CpInfo := es.foldr (fun e r => gap e.1 (e.2 :: r)) (gap last [])
def pool (es : List (Nat × CpInfo)) (last : Nat) : Array CpInfo := ⟨poolList es last⟩
def fileOf (pool : Array CpInfo) (this : Nat) (attrs : Array Attribute := #[]) (ms : Array MethodInfo := #[]) (fl : Nat := 33) (sup : Nat := 0) (ifs : Array Nat := #[]) (fds : Array FieldInfo := #[]) : ClassFile where
  minorVersion := 0
  majorVersion := 65
  constantPool := pool
  accessFlags := fl
  thisClass := this
  superClass := sup
  interfaces := ifs
  fields := fds
  methods := ms
  attributes := attrs
def plain (name : String) (sup : Option ClassId) : Class where
  name := name
  kind := .ordinary
  loader := none
  accessFlags := 33
  super := sup
  interfaces := #[]
  cf := none
  fields := #[]
  methods := #[]
  instanceTypes := #[]
  staticTypes := #[]
  resolved := #[]
  callSites := []
  init := .initialized
  statics := none
  mirror := none

def pool0 : Array CpInfo := pool [(5, u "<init>"), (0, u "()V"), (1, .class_ 10), (1, u "java/lang/Object")] 113

def k0m0 : Method := { name := "<init>", desc := "()V", sig := { parameters := [], returnType := none }, accessFlags := 1, code := none }
/-- java/lang/Object -/
def k0 : Class := { plain "java/lang/Object" none with
  accessFlags := 33
  interfaces := #[]
  cf := some (fileOf pool0 8 #[] #[{ accessFlags := 1, nameIndex := 5, descriptorIndex := 6, attributes := #[] }] 33 0 #[] #[])
  fields := #[]
  methods := #[k0m0]
  instanceTypes := #[]
  staticTypes := #[]
  resolved := Array.replicate 124 none
  statics := none }

def pool1 : Array CpInfo := pool [(2, .class_ 4), (1, u "java/lang/Object"), (0, u "<init>"), (0, u "()V"), (0, .integer 65535), (0, .methodref 9 10), (0, .class_ 11), (0, .nameAndType 12 13), (0, u "com/example/lyrebird/lyrebird/core/header/HeaderSyntax"), (0, u "isQuotedText"), (0, u "(C)Z"), (0, .class_ 15), (0, u "com/example/lyrebird/lyrebird/core/header/HeaderSyntaxIsQuotedTextPinLaw"), (2, u "law"), (0, u "(I)Z")] 3

def k1m0 : Method := { name := "<init>", desc := "()V", sig := { parameters := [], returnType := none }, accessFlags := 2, code := none }
def k1c1 : Code := { maxStack := 2, maxLocals := 4, code := code, exceptionTable := #[], attributes := #[] }
def k1m1 : Method := { name := "law", desc := "(I)Z", sig := { parameters := [.int], returnType := some .boolean }, accessFlags := 9, code := some k1c1 }
/-- com/example/lyrebird/lyrebird/core/header/HeaderSyntaxIsQuotedTextPinLaw -/
def k1 : Class := { plain "com/example/lyrebird/lyrebird/core/header/HeaderSyntaxIsQuotedTextPinLaw" (some 0) with
  accessFlags := 49
  interfaces := #[]
  cf := some (fileOf pool1 14 #[] #[{ accessFlags := 2, nameIndex := 5, descriptorIndex := 6, attributes := #[] }, { accessFlags := 9, nameIndex := 18, descriptorIndex := 19, attributes := #[] }] 49 2 #[] #[])
  fields := #[]
  methods := #[k1m0, k1m1]
  instanceTypes := #[]
  staticTypes := #[]
  resolved := Array.replicate 23 none
  statics := none }

def pool2 : Array CpInfo := pool [(2, .class_ 4), (1, u "java/lang/Object"), (0, u "<init>"), (0, u "()V"), (15, .class_ 24), (1, u "com/example/lyrebird/lyrebird/core/header/HeaderSyntax"), (1, u "(C)Z"), (32, u "isQuotedText")] 32

def k2m0 : Method := { name := "<init>", desc := "()V", sig := { parameters := [], returnType := none }, accessFlags := 2, code := none }
def k2c1 : Code := { maxStack := 2, maxLocals := 1, code := prog_7_method_4_code, exceptionTable := #[], attributes := #[] }
def k2m1 : Method := { name := "isQuotedText", desc := "(C)Z", sig := { parameters := [.char], returnType := some .boolean }, accessFlags := 8, code := some k2c1 }
/-- com/example/lyrebird/lyrebird/core/header/HeaderSyntax -/
def k2 : Class := { plain "com/example/lyrebird/lyrebird/core/header/HeaderSyntax" (some 0) with
  accessFlags := 32
  interfaces := #[]
  cf := some (fileOf pool2 22 #[] #[{ accessFlags := 2, nameIndex := 5, descriptorIndex := 6, attributes := #[] }, { accessFlags := 8, nameIndex := 59, descriptorIndex := 26, attributes := #[] }] 32 2 #[] #[])
  fields := #[]
  methods := #[k2m0, k2m1]
  instanceTypes := #[]
  staticTypes := #[]
  resolved := Array.replicate 92 none
  statics := none }

def pool3 : Array CpInfo := pool [(1, u "java/lang/Cloneable"), (0, .class_ 1), (0, u "java/lang/Object"), (0, .class_ 3)] 3

/-- java/lang/Cloneable -/
def k3 : Class := { plain "java/lang/Cloneable" (some 0) with
  accessFlags := 1537
  interfaces := #[]
  cf := some (fileOf pool3 2 #[] #[] 1537 4 #[] #[])
  fields := #[]
  methods := #[]
  instanceTypes := #[]
  staticTypes := #[]
  resolved := Array.replicate 8 none
  statics := none }

def pool4 : Array CpInfo := pool [(1, u "java/io/Serializable"), (0, .class_ 1), (0, u "java/lang/Object"), (0, .class_ 3)] 3

/-- java/io/Serializable -/
def k4 : Class := { plain "java/io/Serializable" (some 0) with
  accessFlags := 1537
  interfaces := #[]
  cf := some (fileOf pool4 2 #[] #[] 1537 4 #[] #[])
  fields := #[]
  methods := #[]
  instanceTypes := #[]
  staticTypes := #[]
  resolved := Array.replicate 8 none
  statics := none }

/-- the primitive byte -/
def k5 : Class := { plain "byte" none with kind := .primitive 'B', accessFlags := 0x411 }
/-- [B -/
def k6 : Class := { plain "[B" (some 0) with kind := .array 5 .byte, interfaces := #[3, 4], accessFlags := 1041 }

/-- the primitive int -/
def k7 : Class := { plain "int" none with kind := .primitive 'I', accessFlags := 0x411 }
/-- [I -/
def k8 : Class := { plain "[I" (some 0) with kind := .array 7 .int, interfaces := #[3, 4], accessFlags := 1041 }

def heap : Heap := #[]
def classes : Array Class := #[k0, k1, k2, k3, k4, k5, k6, k7, k8]
def interned : List (Array UInt16 × Addr) := []
def slotsUsed : Nat := 0
def theMethod : MethodId := ⟨1, 1⟩
def args0 : Array Value := #[.int 5]
def aboutOver (below : List Frame) : State where
  vm := { classes := classes, interned := interned.toArray }
  heap := heap
  slotsUsed := slotsUsed
  threads := #[{ frames := .invoking theMethod args0 :: below }]
def below0 : List Frame := [.native { method := ⟨0, 0⟩, args := #[] }]
def about1 : State := aboutOver below0
def p0 : Program := .bare "" "" ""
def e0 : Env := launch0.env 0 0 0
theorem w_frames : about1.frames = Frame.invoking theMethod args0 :: below0 := rfl
set_option maxRecDepth 65536 in
theorem w_args : argsFit about1.vm theMethod args0 = true := by decide +kernel
set_option maxRecDepth 65536 in
theorem w_heap : heapFits about1 = true := by decide +kernel
set_option maxRecDepth 65536 in
theorem w_runnable : about1.curStatus? = some .runnable := by decide +kernel
set_option maxRecDepth 65536 in
theorem w_alone : about1.alone = true := by decide +kernel
set_option maxRecDepth 65536 in
theorem w_named : about1.methodNamed? x = some theMethod := by decide +kernel
set_option maxRecDepth 65536 in
theorem w_hears : about1.hears theMethod below0 = true := by decide +kernel
set_option maxRecDepth 65536 in
theorem w_ripe : about1.ripe theMethod args0 below0 = true := by decide +kernel
theorem w_running : about1.status = .running := rfl
set_option maxRecDepth 65536 in
theorem w_room : about1.hasRoom e0.platform room_1 = true :=
  launch0.hasRoom_least _ room_1 (by decide +kernel) (by decide +kernel) (by decide +kernel) (by decide +kernel) (by decide +kernel) (by decide +kernel)
theorem allAtoms_all (ts : List Jvm.Cond) (a : Array Jvm.Value) (st : Jvm.State) : (allAtoms ts).before a st = ts.all (fun c => c.before a st) := by
  induction ts with
  | nil => rfl
  | cons c t ih =>
    show (Jvm.Cond.and c (allAtoms t)).before a st = _
    rw [Jvm.Cond.before_and, ih, List.all_cons]
def words1 : List Jvm.Cond := Jvm.Cond.code x code maxLocals ret :: tables_1
/-- a 'code' word, met by the world's own term for the bytes: nothing is compared byte by byte -/
theorem code_word {y : MethodName} {bytes : ByteArray} {mx : Nat} {rt : Option FieldType} {a : Array Value} {s : State} {m : MethodId} {meth : Method} {c : Code} (h1 : s.methodNamed? y = some m) (h2 : s.vm.method? m = some meth) (h3 : meth.code = some c) (h4 : c.code = bytes)
    (h5 : (c.maxLocals == mx && c.exceptionTable.isEmpty && decide (c.maxStack ≤ mostOperands) && decide (meth.sig.returnType = rt) && !meth.locks && decide (parseMethodDescriptor y.desc = some meth.sig)) = true) : (Jvm.Cond.code y bytes mx rt).before a s = true := by
  simp only [Bool.and_eq_true, beq_iff_eq, Bool.not_eq_true', decide_eq_true_eq] at h5
  obtain ⟨⟨⟨⟨⟨g1, g2⟩, g3⟩, g4⟩, g5⟩, g6⟩ := h5
  simp [Cond.before, Cond.holds, Cond.value, h1, h2, h3, h4, g1, g2, g3, g4, g5, g6]
def isCode : Jvm.Cond → Bool
  | .code _ _ _ _ => true
  | _ => false
theorem all_split {L : List Jvm.Cond} {P : Jvm.Cond → Bool} (h1 : L.all (fun c => isCode c || P c) = true) (h2 : ∀ c ∈ L.filter isCode, P c = true) : L.all P = true := by
  refine List.all_eq_true.mpr fun c hc => ?_
  have h := List.all_eq_true.mp h1 c hc
  rcases Bool.eq_false_or_eq_true (isCode c) with hi | hi
  · exact h2 c (List.mem_filter.mpr ⟨hc, hi⟩)
  · simpa [hi] using h
set_option maxRecDepth 65536 in
theorem w_c0 : (Jvm.Cond.code x code maxLocals ret).before args0 about1 = true := code_word (m := ⟨1, 1⟩) (meth := k1m1) (c := k1c1) (by decide +kernel) rfl rfl rfl (by decide +kernel)
set_option maxRecDepth 65536 in
theorem w_c1 : (Jvm.Cond.code ({ cls := "com/example/lyrebird/lyrebird/core/header/HeaderSyntax", name := "isQuotedText", desc := "(C)Z" } : Jvm.MethodName) prog_7_method_4_code (1 : Nat) (Option.some Jvm.ClassFile.FieldType.boolean)).before args0 about1 = true := code_word (m := ⟨2, 1⟩) (meth := k2m1) (c := k2c1) (by decide +kernel) rfl rfl rfl (by decide +kernel)
def codes1 : List Jvm.Cond := [Jvm.Cond.code x code maxLocals ret, Jvm.Cond.code ({ cls := "com/example/lyrebird/lyrebird/core/header/HeaderSyntax", name := "isQuotedText", desc := "(C)Z" } : Jvm.MethodName) prog_7_method_4_code (1 : Nat) (Option.some Jvm.ClassFile.FieldType.boolean)]
set_option maxRecDepth 65536 in
theorem codes_eq : words1.filter isCode = codes1 := rfl
theorem w_codes : ∀ c ∈ words1.filter isCode, c.before args0 about1 = true := by
  rw [codes_eq]
  intro c hc
  simp only [codes1, List.mem_cons, List.not_mem_nil, or_false] at hc
  rcases hc with rfl | rfl
  · exact w_c0
  · exact w_c1
set_option maxRecDepth 65536 in
theorem w_t1 : words1.all (fun c => isCode c || c.before args0 about1) = true := by decide +kernel
theorem w_tables : (allAtoms (Jvm.Cond.code x code maxLocals ret :: tables_1)).before args0 about1 = true := by
  rw [allAtoms_all]
  show words1.all (fun c => c.before args0 about1) = true
  refine all_split ?_ w_codes
  rw [w_t1]
set_option maxRecDepth 65536 in
theorem w_case : (Jvm.Cond.and given_1 narrow_1).before args0 about1 = true := by decide +kernel
theorem w_applies : (headSpec (Jvm.Cond.code x code maxLocals ret :: tables_1) room_1).applies x e0.platform about1 = true :=
  (Spec.applies_iff w_frames).mpr ⟨w_running, w_runnable, w_alone, w_named, w_hears, w_ripe, w_room, w_tables⟩
theorem atStart : AtStart classFile x code maxLocals ret World_1 tables_1 room_1 Calls_1 rest_1 Pre_1 launch0 p0 e0 about1 theMethod args0 below0 :=
  ⟨lists_1, trivial, launch0.admits_env _ _ _, launch0.least_env, fairChoices_fair.cas, fairChoices_fair.clock, w_frames, w_args, w_heap, w_applies, trivial, trivial, w_case⟩
end start1
theorem witness_1 : WitnessClaimed_1 := ⟨start1.p0, start1.e0, start1.about1, start1.theMethod, start1.args0, start1.below0, start1.atStart⟩
end Jvm.Pilot.@@N@@
