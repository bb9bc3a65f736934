import JvmDerived
import JvmDerived.Pilot.@@N@@Statement
import JvmDerived.Pilot.@@N@@Code
set_option linter.unusedVariables false
set_option linter.unusedSimpArgs false
@@BLOCK:NumsL.lean.txt@@
namespace Jvm.Pilot.@@N@@
open Jvm Jvm.ClassFile Sem Op Lib Jvm.Free Jvm.Stand Jvm.LawKit Jvm.RoadKit Bundle Jvm.Pilot.@@N@@.Jvm.D
/-! THE OWN KIT: a walk in small steps to the body's end -/
/-- from T with the frame g on top the body comes to its end, and what it leaves fulfils Q -/
def Dn (p : Program) (e : Env) (below : List Frame) (s : State) (Q : Option Value → Heap → List Loc → Prop) (k n : Nat) (T : State) (g : JFrame) : Prop :=
  ∃ s₂ o, Steps p.tables e below (T.setTop g) s₂ ∧ s₂.status = .running ∧ Ended s₂ below o ∧ ∃ v L, o = .returned v ∧ Q v s₂.heap L ∧ FrameEnd s o s₂ L k n
section OwnKit
variable {p : Program} {l : Launch} {e : Env} {R : Room} {s : State} {m : MethodId} {args : Array Value} {below : List Frame} {meth : Method} {c : Code} {T T' : State} {locs : List Loc} {cells slots : Nat} {Z : State} {h h' : Heap} {g g' : JFrame} {k n : Nat} {Q : Option Value → Heap → List Loc → Prop}
theorem Dn.st (f : ∀ t, Steps p.tables e below (T'.setTop g') t → Steps p.tables e below (T.setTop g) t) (d : Dn p e below s Q k n T' g') : Dn p e below s Q k n T g := by
  obtain ⟨s₂, o, h1, h2⟩ := d
  exact ⟨s₂, o, f _ h1, h2⟩
theorem Dn.tr (f : Steps p.tables e below (T.setTop g) (T'.setTop g')) (d : Dn p e below s Q k n T' g') : Dn p e below s Q k n T g := by
  obtain ⟨s₂, o, h1, h2⟩ := d
  exact ⟨s₂, o, f.trans h1, h2⟩
theorem Dn.cast (q : g = g') (d : Dn p e below s Q k n T g') : Dn p e below s Q k n T g := q ▸ d
theorem Dn.retI (X : Stand p l e R s m args below meth c T locs cells slots) (hx : p.tables.exec = Jvm.exec) (hk : meth.locks = false) {pc : Nat} {Ls : Array Slot} {z : Int32} {rest : List Value} (hret : meth.sig.returnType = some .int) (hd : decode c.code pc = .ok (.ireturn, 1)) (hQ : Q (some (.int z)) T.heap locs) (hc : cells ≤ k) (hs : slots ≤ n) :
    Dn p e below s Q k n T (mkF m pc Ls (.int z :: rest)) := by
  obtain ⟨fs, hr, hrun, hended, hW, hsame⟩ := X.leave (v := some (.int z)) (fun q => by rw [hret] at q; cases q) hk
  exact ⟨_, _, retOut X hx hret rfl (Or.inl ⟨rfl, Or.inl rfl, z, rfl⟩) hd hr, hrun, hended, _, _, rfl, hQ, ⟨_, rfl⟩, hW, hsame.mono hc hs⟩
theorem Dn.retZ (X : Stand p l e R s m args below meth c T locs cells slots) (hx : p.tables.exec = Jvm.exec) (hk : meth.locks = false) {pc : Nat} {Ls : Array Slot} {z : Int32} {t : FieldType} {rest : List Value} (hret : meth.sig.returnType = some t) (ht : t = .boolean ∨ t = .byte ∨ t = .char ∨ t = .short) (hd : decode c.code pc = .ok (.ireturn, 1)) (hQ : Q (some (.int (nar t z))) T.heap locs) (hc : cells ≤ k) (hs : slots ≤ n) :
    Dn p e below s Q k n T (mkF m pc Ls (.int z :: rest)) := by
  obtain ⟨fs, hr, hrun, hended, hW, hsame⟩ := X.leave (v := some (.int (nar t z))) (fun q => by rw [hret] at q; cases q) hk
  exact ⟨_, _, retN X hx hret ht hd hr, hrun, hended, _, _, rfl, hQ, ⟨_, rfl⟩, hW, hsame.mono hc hs⟩
theorem Dn.retJ (X : Stand p l e R s m args below meth c T locs cells slots) (hx : p.tables.exec = Jvm.exec) (hk : meth.locks = false) {pc : Nat} {Ls : Array Slot} {z : Int64} {rest : List Value} (hret : meth.sig.returnType = some .long) (hd : decode c.code pc = .ok (.lreturn, 1)) (hQ : Q (some (.long z)) T.heap locs) (hc : cells ≤ k) (hs : slots ≤ n) :
    Dn p e below s Q k n T (mkF m pc Ls (.long z :: rest)) := by
  obtain ⟨fs, hr, hrun, hended, hW, hsame⟩ := X.leave (v := some (.long z)) (fun q => by rw [hret] at q; cases q) hk
  exact ⟨_, _, retOut X hx hret rfl (Or.inr (Or.inl ⟨rfl, rfl, z, rfl⟩)) hd hr, hrun, hended, _, _, rfl, hQ, ⟨_, rfl⟩, hW, hsame.mono hc hs⟩
theorem Dn.retA (X : Stand p l e R s m args below meth c T locs cells slots) (hx : p.tables.exec = Jvm.exec) (hk : meth.locks = false) {pc : Nat} {Ls : Array Slot} {a : Addr} {t : FieldType} {rest : List Value} (hret : meth.sig.returnType = some t) (ht : t.isReference = true) (hn : narrow t (.ref a) = .ref a) (hd : decode c.code pc = .ok (.areturn, 1)) (hQ : Q (some (.ref a)) T.heap locs) (hc : cells ≤ k) (hs : slots ≤ n) :
    Dn p e below s Q k n T (mkF m pc Ls (.ref a :: rest)) := by
  obtain ⟨fs, hr, hrun, hended, hW, hsame⟩ := X.leave (v := some (.ref a)) (fun q => by rw [hret] at q; cases q) hk
  exact ⟨_, _, retOut X hx hret hn (Or.inr (Or.inr (Or.inr (Or.inr ⟨rfl, ht, rfl⟩)))) hd hr, hrun, hended, _, _, rfl, hQ, ⟨_, rfl⟩, hW, hsame.mono hc hs⟩
theorem Dn.retV (X : Stand p l e R s m args below meth c T locs cells slots) (hx : p.tables.exec = Jvm.exec) (hk : meth.locks = false) {pc : Nat} {Ls : Array Slot} (hret : meth.sig.returnType = none) (hd : decode c.code pc = .ok (.return_, 1)) (hQ : Q none T.heap locs) (hc : cells ≤ k) (hs : slots ≤ n) :
    Dn p e below s Q k n T (mkF m pc Ls []) := by
  obtain ⟨fs, hr, hrun, hended, hW, hsame⟩ := X.leave (v := none) (fun _ => rfl) hk
  exact ⟨_, _, X.returnOut hx hret hd hr, hrun, hended, _, _, rfl, hQ, ⟨_, rfl⟩, hW, hsame.mono hc hs⟩
theorem own_ne {a b : Addr} {j : Nat} (q : a < j) (r : b = j) : a ≠ b := fun e => absurd (e.trans r) (Nat.ne_of_lt q)
theorem own_ne' {a b : Addr} {j : Nat} (q : a < j) (r : j ≤ b) : a ≠ b := Nat.ne_of_lt (Nat.lt_of_lt_of_le q r)
theorem own_self {s : State} {args : Array Value} {y : MethodName} {n : Nat} (wi : (Jvm.Cond.instantiable y.cls n).before args s = true) (wp : (Jvm.Cond.privateMethod y).before args s = true) (hinst : (Jvm.Cond.instanceMethod y).before args s = true) (hy : y.cls ≠ "java/lang/invoke/MethodHandle" ∧ y.cls ≠ "java/lang/invoke/VarHandle") : (Jvm.Cond.selects y.cls y y).before args s = true := by
  obtain ⟨c, k, h1, h2, -, h4, -⟩ := Jvm.Cond.instantiable_spec wi
  exact selects_self_of_private h1 h2 (Bool.or_eq_false_iff.mp h4).1 (Jvm.Cond.privateMethod_at wp) hinst hy
end OwnKit
/-- what the inverse promises -/
def own_res (y1 y2 x : Int64) : Prop := 0 ≤ x.toInt ∧ x.toInt < y2.toInt ∧ ∃ g : Int, 0 < g ∧ g ∣ y2.toInt ∧ g ∣ y1.toInt ∧ y2.toInt ∣ (y1.toInt * x.toInt - g)
def own_I (M A r0 r1 t0 t1 : Int) : Prop := 0 ≤ r1 ∧ r1 < r0 ∧ r0 ≤ M ∧ (∃ σ p0 p1 : Int, (σ = 1 ∨ σ = -1) ∧ 0 ≤ p0 ∧ 0 ≤ p1 ∧ t0 = -(σ * p0) ∧ t1 = σ * p1 ∧ p1 * r0 + p0 * r1 = M ∧ 2 * p0 ≤ M) ∧ M ∣ (t0 * A - r0) ∧ M ∣ (t1 * A - r1) ∧ ∀ d : Int, d ∣ r0 → d ∣ r1 → d ∣ M ∧ d ∣ A
def own_inv (y2 y1 r0 r1 t0 t1 : Int64) : Prop := own_I y2.toInt y1.toInt r0.toInt r1.toInt t0.toInt t1.toInt
theorem own_z64 : (0 : Int64).toInt = 0 := rfl
theorem own_o64 : (1 : Int64).toInt = 1 := rfl
theorem own_t64 : (2 : Int64).toInt = 2 := rfl
theorem own_mnz {y : Int64} (h : 1 ≤ y.toInt) : y ≠ 0 := fun e => by rw [e, own_z64] at h; omega
theorem own_eq0 {y : Int64} (h : y.toInt = 0) : y = 0 := Int64.toInt_inj.mp (h.trans own_z64.symm)
theorem own_ar {y1 y2 ar : Int64} (ha : 0 ≤ y1.toInt) (hm : 1 ≤ y2.toInt) (har : y1 - (y1 / y2) * y2 = ar) : ar.toInt = y1.toInt % y2.toInt := by
  rw [← har]; exact Jvm.Kit.i64_rem_nonneg ha
theorem own_start {y1 y2 ar : Int64} (ha : 0 ≤ y1.toInt) (hm : 1 ≤ y2.toInt) (h2 : ar.toInt = y1.toInt % y2.toInt) : own_inv y2 y1 y2 ar 0 1 := by
  unfold own_inv; rw [h2, own_z64, own_o64]
  have h1 := Int.emod_nonneg y1.toInt (show y2.toInt ≠ 0 by omega)
  have h3 := Int.emod_lt_of_pos y1.toInt (show 0 < y2.toInt by omega)
  have h4 := Int.emod_add_mul_ediv y1.toInt y2.toInt
  refine ⟨h1, h3, Int.le_refl _, ⟨1, 0, 1, Or.inl rfl, by decide, by decide, by decide, by decide, by omega, by omega⟩, ⟨-1, by omega⟩, ⟨y1.toInt / y2.toInt, by omega⟩, fun d hd0 hd1 => ⟨hd0, ?_⟩⟩
  rw [← h4]
  exact Int.dvd_add hd1 (Int.dvd_trans hd0 ⟨_, rfl⟩)
theorem own_stepI {M A R0 R1 T0 T1 Q : Int} (hI : own_I M A R0 R1 T0 T1) (hp : 0 < R1) (hQ : Q = R0 / R1) : 0 ≤ Q ∧ 0 ≤ Q * R1 ∧ Q * R1 ≤ R0 ∧ -M ≤ Q * T1 ∧ Q * T1 ≤ M ∧ -M ≤ T0 - Q * T1 ∧ T0 - Q * T1 ≤ M ∧ own_I M A R1 (R0 - Q * R1) T1 (T0 - Q * T1) := by
  obtain ⟨h1, h2, h3, ⟨σ, p0, p1, hs, hp0, hp1, e0, e1, em, h2p⟩, d0, d1, hd⟩ := hI
  have hQ0 : 0 ≤ Q := by rw [hQ]; exact Int.ediv_nonneg (by omega) (by omega)
  have hmod : R0 - Q * R1 = R0 % R1 := by
    have := Int.emod_add_mul_ediv R0 R1
    rw [hQ, Int.mul_comm]; omega
  have hr0 := Int.emod_nonneg R0 (show R1 ≠ 0 by omega)
  have hr1 := Int.emod_lt_of_pos R0 hp
  have hQR : 0 ≤ Q * R1 := Int.mul_nonneg hQ0 (by omega)
  have hQp : 0 ≤ Q * p1 := Int.mul_nonneg hQ0 hp1
  have hm' : (p0 + Q * p1) * R1 + p1 * (R0 - Q * R1) = M := by grind
  have hp1' : p0 + Q * p1 ≤ M := by
    have a1 : 0 ≤ p1 * (R0 - Q * R1) := Int.mul_nonneg hp1 (by omega)
    have a2 : (p0 + Q * p1) * 1 ≤ (p0 + Q * p1) * R1 := Int.mul_le_mul_of_nonneg_left (by omega) (by omega)
    omega
  have h2p1 : 2 * p1 ≤ M := by
    have a1 : 0 ≤ p0 * R1 := Int.mul_nonneg hp0 (by omega)
    have a2 : p1 * 2 ≤ p1 * R0 := Int.mul_le_mul_of_nonneg_left (by omega) hp1
    omega
  have eT : T0 - Q * T1 = -(σ * (p0 + Q * p1)) := by rw [e0, e1]; grind
  have eQ : Q * T1 = σ * (Q * p1) := by rw [e1]; grind
  refine ⟨hQ0, hQR, by omega, ?_, ?_, ?_, ?_, by omega, by omega, by omega, ⟨-σ, p1, p0 + Q * p1, ?_, hp1, by omega, ?_, ?_, hm', h2p1⟩, d1, ?_, fun d q1 q2 => ?_⟩
  · rw [eQ]; rcases hs with rfl | rfl <;> omega
  · rw [eQ]; rcases hs with rfl | rfl <;> omega
  · rw [eT]; rcases hs with rfl | rfl <;> omega
  · rw [eT]; rcases hs with rfl | rfl <;> omega
  · rcases hs with rfl | rfl
    · exact Or.inr rfl
    · exact Or.inl rfl
  · rw [e1]; grind
  · rw [eT]; grind
  · have : (T0 - Q * T1) * A - (R0 - Q * R1) = (T0 * A - R0) - Q * (T1 * A - R1) := by grind
    rw [this]
    exact Int.dvd_sub d0 (Int.dvd_trans d1 ⟨Q, by grind⟩)
  · have : R0 = (R0 - Q * R1) + Q * R1 := by omega
    refine hd d ?_ q1
    rw [this]
    exact Int.dvd_add q2 (Int.dvd_trans q1 ⟨Q, by grind⟩)
theorem own_step {y1 y2 r0 r1 t0 t1 : Int64} (hI : own_inv y2 y1 r0 r1 t0 t1) (hz : ¬ (r1 = (0 : Int64))) : own_inv y2 y1 r1 (r0 - ((r0 / r1) * r1)) t1 (t0 - ((r0 / r1) * t1)) := by
  have hI' : own_I y2.toInt y1.toInt r0.toInt r1.toInt t0.toInt t1.toInt := hI
  have hp : 0 < r1.toInt := by
    have h1 := hI'.1
    rcases Int.lt_or_eq_of_le h1 with q | q
    · exact q
    · exact absurd (own_eq0 q.symm) hz
  have eq : (r0 / r1).toInt = r0.toInt / r1.toInt := by
    rw [Jvm.Kit.i64_div (by omega), Int.tdiv_eq_ediv_of_nonneg (by have := hI'.1; have := hI'.2.1; omega)]
  obtain ⟨a1, a2, a3, a4, a5, a6, a7, a8⟩ := own_stepI hI' hp eq
  have b1 := y2.toInt_lt; have b2 := r0.toInt_lt; have b3 := hI'.2.2.1
  have f1 : ((r0 / r1) * r1).toInt = (r0 / r1).toInt * r1.toInt := Jvm.Kit.i64_mul (by omega) (by omega)
  have f2 : ((r0 / r1) * t1).toInt = (r0 / r1).toInt * t1.toInt := Jvm.Kit.i64_mul (by omega) (by omega)
  have f3 : (r0 - ((r0 / r1) * r1)).toInt = r0.toInt - (r0 / r1).toInt * r1.toInt := by rw [Jvm.Kit.i64_sub (by omega) (by omega), f1]
  have f4 : (t0 - ((r0 / r1) * t1)).toInt = t0.toInt - (r0 / r1).toInt * t1.toInt := by rw [Jvm.Kit.i64_sub (by omega) (by omega), f2]
  unfold own_inv; rw [f3, f4]; exact a8
theorem own_less {y1 y2 r0 r1 t0 t1 : Int64} {k : Nat} (hI : own_inv y2 y1 r0 r1 t0 t1) (hz : ¬ (r1 = (0 : Int64))) (hk : r1.toInt ≤ ((k + 1 : Nat) : Int)) : (r0 - ((r0 / r1) * r1)).toInt ≤ (k : Int) := by
  have h : own_I _ _ _ _ _ _ := own_step hI hz
  have := h.2.1
  omega
theorem own_zero {y1 y2 r0 r1 t0 t1 : Int64} (hI : own_inv y2 y1 r0 r1 t0 t1) (hk : r1.toInt ≤ ((0 : Nat) : Int)) : r1 = (0 : Int64) := by
  have h : own_I _ _ _ _ _ _ := hI
  have := h.1
  exact own_eq0 (by omega)
theorem own_big (x : Int64) : x.toInt ≤ ((x.toInt.toNat : Nat) : Int) := Int.self_le_toNat _
theorem own_endI {M A R0 T0 T1 : Int} (hI : own_I M A R0 0 T0 T1) : 1 ≤ M ∧ -M ≤ 2 * T0 ∧ 2 * T0 ≤ M ∧ 0 < R0 ∧ R0 ∣ M ∧ R0 ∣ A ∧ M ∣ (A * T0 - R0) := by
  obtain ⟨h1, h2, h3, ⟨σ, p0, p1, hs, hp0, hp1, e0, e1, em, h2p⟩, d0, d1, hd⟩ := hI
  have hx := hd R0 (Int.dvd_refl _) (Int.dvd_zero _)
  refine ⟨by omega, ?_, ?_, h2, hx.1, hx.2, by rw [Int.mul_comm]; exact d0⟩
  · rw [e0]; rcases hs with rfl | rfl <;> omega
  · rw [e0]; rcases hs with rfl | rfl <;> omega
theorem own_endn {y1 y2 r0 r1 t0 t1 : Int64} (hI : own_inv y2 y1 r0 r1 t0 t1) (h0 : r1 = (0 : Int64)) (hc : t0 < (0 : Int64)) : own_res y1 y2 (t0 + y2) := by
  subst h0
  obtain ⟨a1, a2, a3, a4, a5, a6, a7⟩ := own_endI (show own_I y2.toInt y1.toInt r0.toInt 0 t0.toInt t1.toInt from hI)
  rw [Int64.lt_iff_toInt_lt, own_z64] at hc
  have b1 := y2.toInt_lt
  have e : (t0 + y2).toInt = t0.toInt + y2.toInt := Jvm.Kit.i64_add (by omega) (by omega)
  unfold own_res; rw [e]
  refine ⟨by omega, by omega, r0.toInt, a4, a5, a6, ?_⟩
  have : y1.toInt * (t0.toInt + y2.toInt) - r0.toInt = (y1.toInt * t0.toInt - r0.toInt) + y2.toInt * y1.toInt := by grind
  rw [this]; exact Int.dvd_add a7 ⟨_, rfl⟩
theorem own_endp {y1 y2 r0 r1 t0 t1 : Int64} (hI : own_inv y2 y1 r0 r1 t0 t1) (h0 : r1 = (0 : Int64)) (hc : ¬ (t0 < (0 : Int64))) : own_res y1 y2 t0 := by
  subst h0
  obtain ⟨a1, a2, a3, a4, a5, a6, a7⟩ := own_endI (show own_I y2.toInt y1.toInt r0.toInt 0 t0.toInt t1.toInt from hI)
  rw [Int64.lt_iff_toInt_lt, own_z64] at hc
  exact ⟨by omega, by omega, r0.toInt, a4, a5, a6, a7⟩
/-! the law's own numbers -/
theorem own_m32' {y mm : Int64} (h : (y &&& (2147483647 : Int64)) + (1 : Int64) = mm) : 1 ≤ mm.toInt ∧ mm.toInt ≤ 2147483648 := by
  have e : (y &&& 2147483647).toInt = y.toInt % 2 ^ 31 := Jvm.Kit.i64_mask y 2147483647 (k := 31) (by decide) (by decide)
  have e2 : ((y &&& (2147483647 : Int64)) + (1 : Int64)).toInt = y.toInt % 2 ^ 31 + 1 := by rw [Jvm.Kit.i64_add (by rw [e, own_o64]; omega) (by rw [e, own_o64]; omega), e, own_o64]
  rw [← h, e2]; omega
theorem own_m32 {y mm : Int64} (h : (y &&& (2147483647 : Int64)) + (1 : Int64) = mm) : 1 ≤ mm.toInt := (own_m32' h).1
theorem own_mle {y mm : Int64} (h : (y &&& (2147483647 : Int64)) + (1 : Int64) = mm) : mm.toInt ≤ 2147483648 := (own_m32' h).2
theorem own_max {y aa : Int64} (h : (y &&& (9223372036854775807 : Int64)) = aa) : 0 ≤ aa.toInt := by
  have e : (y &&& 9223372036854775807).toInt = y.toInt % 2 ^ 63 := Jvm.Kit.i64_mask y 9223372036854775807 (k := 63) (by decide) (by decide)
  rw [← h, e]; omega
theorem own_nlt {a m x : Int64} (h : own_res a m x) : ¬ (x < (0 : Int64)) := by rw [Int64.lt_iff_toInt_lt, own_z64]; have := h.1; omega
theorem own_ltm {a m x : Int64} (h : own_res a m x) : x < m := by rw [Int64.lt_iff_toInt_lt]; exact h.2.1
theorem own_dnz {d : Int64} (h : (1 : Int64) < d) : d ≠ 0 := fun e => by rw [e] at h; revert h; decide
theorem own_modI {A M X g : Int} (hM : 1 ≤ M) (h : M ∣ (A * X - g)) : ((A % M) * X) % M = g % M := by
  have e : ((A % M) * X) % M = (A * X) % M := by rw [Int.mul_emod, Int.emod_emod_of_dvd _ (Int.dvd_refl _), ← Int.mul_emod]
  rw [e]
  exact Int.emod_eq_emod_iff_emod_sub_eq_zero.mpr (Int.emod_eq_zero_of_dvd h)
theorem own_even {aa mm xx ar rr on : Int64} (ha : 0 ≤ aa.toInt) (hm : 1 ≤ mm.toInt) (hle : mm.toInt ≤ 2147483648) (hX : own_res aa mm xx) (har : aa - (aa / mm) * mm = ar) (hrr : (ar * xx) - ((ar * xx) / mm) * mm = rr) (hon : (1 : Int64) - ((1 : Int64) / mm) * mm = on) (h1 : ¬ (rr = on)) :
    ((rr = (0 : Int64)) → ((1 : Int64) < mm ∧ (mm - (mm / mm) * mm) = (0 : Int64) ∧ (ar - (ar / mm) * mm) = (0 : Int64))) ∧ (¬ (rr = (0 : Int64)) → ((1 : Int64) < rr ∧ (mm - (mm / rr) * rr) = (0 : Int64) ∧ (ar - (ar / rr) * rr) = (0 : Int64))) := by
  obtain ⟨x0, x1, g, g0, g1, g2, g3⟩ := hX
  have eA : ar.toInt = aa.toInt % mm.toInt := own_ar ha hm har
  have hA0 := Int.emod_nonneg aa.toInt (show mm.toInt ≠ 0 by omega)
  have hA1 := Int.emod_lt_of_pos aa.toInt (show 0 < mm.toInt by omega)
  have p0 : 0 ≤ ar.toInt * xx.toInt := Int.mul_nonneg (by omega) x0
  have p1 : ar.toInt * xx.toInt ≤ 2147483648 * 2147483648 := Int.mul_le_mul (by omega) (by omega) x0 (by decide)
  have eM : (ar * xx).toInt = ar.toInt * xx.toInt := Jvm.Kit.i64_mul (by omega) (by omega)
  have eR : rr.toInt = g % mm.toInt := by rw [← hrr, Jvm.Kit.i64_rem_nonneg (by omega), eM, eA]; exact own_modI hm g3
  have eO : on.toInt = 1 % mm.toInt := by rw [← hon, Jvm.Kit.i64_rem_nonneg (by decide), own_o64]
  have hgM : g ≤ mm.toInt := Int.le_of_dvd (by omega) g1
  have hne : ¬ (g % mm.toInt = 1 % mm.toInt) := fun q => h1 (Int64.toInt_inj.mp (by rw [eR, eO, q]))
  have z1 : (mm - (mm / mm) * mm) = (0 : Int64) := own_eq0 (by rw [Jvm.Kit.i64_rem_nonneg (by omega), Int.emod_self])
  refine ⟨fun hr => ?_, fun hr => ?_⟩
  · have q : g % mm.toInt = 0 := by rw [← eR, hr, own_z64]
    have hg : g = mm.toInt := by
      rcases Int.lt_or_eq_of_le hgM with u | u
      · rw [Int.emod_eq_of_lt (by omega) u] at q; omega
      · exact u
    have hm2 : 1 < mm.toInt := by
      rcases Int.lt_or_eq_of_le hm with u | u
      · exact u
      · rw [← u, Int.emod_one, Int.emod_one] at hne; exact absurd rfl hne
    refine ⟨by rw [Int64.lt_iff_toInt_lt, own_o64]; exact hm2, z1, own_eq0 ?_⟩
    rw [Jvm.Kit.i64_rem_nonneg (by omega), eA, Int.emod_emod_of_dvd _ (Int.dvd_refl _)]
    exact Int.emod_eq_zero_of_dvd (hg ▸ g2)
  · have hg : g < mm.toInt := by
      rcases Int.lt_or_eq_of_le hgM with u | u
      · exact u
      · exact absurd (own_eq0 (by rw [eR, u, Int.emod_self])) hr
    have eg : rr.toInt = g := by rw [eR, Int.emod_eq_of_lt (by omega) hg]
    have hg1 : 1 < g := by
      rcases Int.lt_or_eq_of_le (show 1 ≤ g by omega) with u | u
      · exact u
      · rw [← u] at hne; exact absurd rfl hne
    refine ⟨by rw [Int64.lt_iff_toInt_lt, own_o64, eg]; exact hg1, own_eq0 ?_, own_eq0 ?_⟩
    · rw [Jvm.Kit.i64_rem_nonneg (by omega), eg]; exact Int.emod_eq_zero_of_dvd g1
    · rw [Jvm.Kit.i64_rem_nonneg (by omega), eg, eA]
      refine Int.emod_eq_zero_of_dvd ?_
      have := Int.emod_add_mul_ediv aa.toInt mm.toInt
      have e : aa.toInt % mm.toInt = aa.toInt - mm.toInt * (aa.toInt / mm.toInt) := by omega
      rw [e]; exact Int.dvd_sub g2 (Int.dvd_trans g1 ⟨_, rfl⟩)
theorem own_ge1 {mm : Int64} (h : 0 ≤ mm.toInt) (hz : ¬ (mm = (0 : Int64))) : 1 ≤ mm.toInt := by
  rcases Int.lt_or_eq_of_le h with u | u
  · omega
  · exact absurd (own_eq0 u.symm) hz
theorem own_sub1 {mm : Int64} (h : 1 ≤ mm.toInt) : (mm - (1 : Int64)).toInt = mm.toInt - 1 := by
  have := mm.toInt_lt
  rw [Jvm.Kit.i64_sub (by rw [own_o64]; omega) (by rw [own_o64]; omega), own_o64]
theorem own_sub2 {mm : Int64} (h : 1 ≤ mm.toInt) : (mm - (2 : Int64)).toInt = mm.toInt - 2 := by
  have := mm.toInt_lt
  rw [Jvm.Kit.i64_sub (by rw [own_t64]; omega) (by rw [own_t64]; omega), own_t64]
theorem own_m1 {mm : Int64} (h : 0 ≤ mm.toInt) (hz : ¬ (mm = (0 : Int64))) : 0 ≤ (mm - (1 : Int64)).toInt := by
  have := own_ge1 h hz
  rw [own_sub1 this]; omega
theorem own_of_toInt {x y : Int64} (h : x.toInt = y.toInt) : x = y := Int64.toInt_inj.mp h
theorem own_one {a xx : Int64} (hX : own_res a (1 : Int64) xx) : xx = 0 := by
  obtain ⟨x0, x1, -⟩ := hX
  rw [own_o64] at x1; exact own_eq0 (by omega)
theorem own_s0z {xx : Int64} (hX : own_res ((1 : Int64) - (1 : Int64)) (1 : Int64) xx) : xx = ((1 : Int64) - (1 : Int64)) := (own_one hX).trans rfl
theorem own_s1z {xx : Int64} (hX : own_res (1 : Int64) (1 : Int64) xx) : xx = ((1 : Int64) - ((1 : Int64) / (1 : Int64)) * (1 : Int64)) := (own_one hX).trans (by decide)
theorem own_s2z {md xx : Int64} (hz : md = (1 : Int64)) (hX : own_res (2 : Int64) md xx) : xx = (0 : Int64) := by subst hz; exact own_one hX
theorem own_dvd_eq {M k : Int} (h : M ∣ k) (h1 : 0 < k) (h2 : k < 2 * M) : k = M := by
  obtain ⟨q, rfl⟩ := h
  have hM : 0 < M := by omega
  have q1 : 0 < q := by
    rcases Int.lt_or_le 0 q with u | u
    · exact u
    · have := Int.mul_nonneg (show 0 ≤ M by omega) (show 0 ≤ -q by omega)
      have e : M * -q = -(M * q) := Int.mul_neg M q
      omega
  have q2 : q < 2 := by
    rcases Int.lt_or_le q 2 with u | u
    · exact u
    · have := Int.mul_le_mul_of_nonneg_left u (show 0 ≤ M by omega)
      omega
  have : q = 1 := by omega
  rw [this, Int.mul_one]
theorem own_dvd_one {g : Int} (h0 : 0 < g) (h : g ∣ 1) : g = 1 := by
  have := Int.le_of_dvd (by decide) h
  omega
theorem own_s0 {mm xx : Int64} (h : 0 ≤ mm.toInt) (hz : ¬ (mm = (0 : Int64))) (hX : own_res (mm - (1 : Int64)) mm xx) : xx = (mm - (1 : Int64)) := by
  have hm := own_ge1 h hz
  obtain ⟨x0, x1, g, g0, g1, g2, g3⟩ := hX
  rw [own_sub1 hm] at g2 g3
  have hg : g = 1 := own_dvd_one g0 (by have := Int.dvd_sub g1 g2; rwa [show mm.toInt - (mm.toInt - 1) = 1 by omega] at this)
  subst hg
  have e : (mm.toInt - 1) * xx.toInt - 1 = mm.toInt * xx.toInt - (xx.toInt + 1) := by grind
  rw [e] at g3
  have d : mm.toInt ∣ (xx.toInt + 1) := by
    have := Int.dvd_sub (show mm.toInt ∣ mm.toInt * xx.toInt from ⟨_, rfl⟩) g3
    rwa [show mm.toInt * xx.toInt - (mm.toInt * xx.toInt - (xx.toInt + 1)) = xx.toInt + 1 by omega] at this
  have := own_dvd_eq d (by omega) (by omega)
  exact own_of_toInt (by rw [own_sub1 hm]; omega)
theorem own_s1 {mm xx : Int64} (h : 0 ≤ mm.toInt) (hz : ¬ (mm = (0 : Int64))) (hX : own_res (1 : Int64) mm xx) : xx = ((1 : Int64) - ((1 : Int64) / mm) * mm) := by
  have hm := own_ge1 h hz
  obtain ⟨x0, x1, g, g0, g1, g2, g3⟩ := hX
  rw [own_o64] at g2 g3
  have hg : g = 1 := own_dvd_one g0 g2
  subst hg
  refine own_of_toInt ?_
  rw [Jvm.Kit.i64_rem_nonneg (by decide), own_o64]
  rcases Int.lt_or_eq_of_le hm with u | u
  · have d : mm.toInt ∣ (xx.toInt - 1 + mm.toInt) := Int.dvd_add (by rwa [Int.one_mul] at g3) (Int.dvd_refl _)
    have := own_dvd_eq d (by omega) (by omega)
    rw [Int.emod_eq_of_lt (by decide) u]; omega
  · rw [← u, Int.emod_one]; omega
theorem own_odd {mm md : Int64} (h : 0 ≤ mm.toInt) (hmd : (mm ||| (1 : Int64)) = md) : 1 ≤ md.toInt ∧ md.toInt % 2 = 1 := by
  have hb := mm.toBitVec.isLt
  have e1 : mm.toInt = (mm.toBitVec.toNat : Int) ∧ 2 * mm.toBitVec.toNat < 2 ^ 64 := by
    have q : mm.toInt = mm.toBitVec.toInt := rfl
    rw [q, BitVec.toInt_eq_toNat_cond] at h ⊢
    by_cases hc : 2 * mm.toBitVec.toNat < 2 ^ 64
    · rw [if_pos hc]; exact ⟨rfl, hc⟩
    · rw [if_neg hc] at h; omega
  have e2 : md.toBitVec.toNat = mm.toBitVec.toNat ||| 1 := by rw [← hmd]; rfl
  have e3 : (mm.toBitVec.toNat ||| 1) / 2 = mm.toBitVec.toNat / 2 := by rw [Nat.or_div_two]; simp
  have e4 : (mm.toBitVec.toNat ||| 1) % 2 = 1 := Nat.or_mod_two_eq_one.mpr (Or.inr rfl)
  have q : md.toInt = md.toBitVec.toInt := rfl
  rw [q, BitVec.toInt_eq_toNat_cond, e2, if_pos (by omega)]
  omega
theorem own_s2 {md xx : Int64} (ho : 1 ≤ md.toInt ∧ md.toInt % 2 = 1) (hz : ¬ (md = (1 : Int64))) (hX : own_res (2 : Int64) md xx) : xx = ((md / (2 : Int64)) + (1 : Int64)) := by
  have h3 : 3 ≤ md.toInt := by
    have : md.toInt ≠ 1 := fun q => hz (own_of_toInt (q.trans own_o64.symm))
    omega
  have hlt := md.toInt_lt
  obtain ⟨x0, x1, g, g0, g1, g2, g3⟩ := hX
  rw [own_t64] at g2 g3
  have hg : g = 1 := own_dvd_one g0 (by
    have a := Int.dvd_trans g2 (show (2 : Int) ∣ 2 * (md.toInt / 2) from ⟨_, rfl⟩)
    have := Int.dvd_sub g1 a
    rwa [show md.toInt - 2 * (md.toInt / 2) = 1 by omega] at this)
  subst hg
  have d : md.toInt ∣ (2 * xx.toInt - 1) := g3
  have hx1 : 1 ≤ xx.toInt := by
    rcases Int.lt_or_eq_of_le x0 with u | u
    · omega
    · rw [← u] at d
      have := Int.le_of_dvd (by decide) (show md.toInt ∣ 1 by have := Int.dvd_neg.mpr d; simpa using this)
      omega
  have := own_dvd_eq d (by omega) (by omega)
  have ed : (md / (2 : Int64)).toInt = md.toInt / 2 := by
    rw [Jvm.Kit.i64_div (by rw [own_t64]; omega), own_t64, Int.tdiv_eq_ediv_of_nonneg (by omega)]
  refine own_of_toInt ?_
  rw [Jvm.Kit.i64_add (by rw [ed, own_o64]; omega) (by rw [ed, own_o64]; omega), ed, own_o64]; omega
theorem own_s3z {xx : Int64} (hX : own_res ((3 : Int64) - (2 : Int64)) (3 : Int64) xx) : xx = (((3 : Int64) - (1 : Int64)) / (2 : Int64)) := by
  obtain ⟨x0, x1, g, g0, g1, g2, g3⟩ := hX
  have e1 : ((3 : Int64) - (2 : Int64)).toInt = 1 := by decide
  have e3 : (3 : Int64).toInt = 3 := rfl
  rw [e1] at g2 g3; rw [e3] at x1 g3
  have hg : g = 1 := own_dvd_one g0 g2
  subst hg
  have e4 : (((3 : Int64) - (1 : Int64)) / (2 : Int64)).toInt = 1 := by decide
  exact own_of_toInt (by rw [e4]; omega)
theorem own_m2 {md : Int64} (ho : 1 ≤ md.toInt ∧ md.toInt % 2 = 1) (hz : ¬ (md < (3 : Int64))) : 0 ≤ (md - (2 : Int64)).toInt := by
  rw [Int64.lt_iff_toInt_lt, show (3 : Int64).toInt = 3 from rfl] at hz
  rw [own_sub2 ho.1]; omega
theorem own_s3 {md xx : Int64} (ho : 1 ≤ md.toInt ∧ md.toInt % 2 = 1) (hz : ¬ (md < (3 : Int64))) (hX : own_res (md - (2 : Int64)) md xx) : xx = ((md - (1 : Int64)) / (2 : Int64)) := by
  rw [Int64.lt_iff_toInt_lt, show (3 : Int64).toInt = 3 from rfl] at hz
  have hlt := md.toInt_lt
  obtain ⟨x0, x1, g, g0, g1, g2, g3⟩ := hX
  rw [own_sub2 ho.1] at g2 g3
  have hg : g = 1 := own_dvd_one g0 (by
    have a := Int.dvd_sub g1 g2
    rw [show md.toInt - (md.toInt - 2) = 2 by omega] at a
    have b := Int.dvd_trans a (show (2 : Int) ∣ 2 * (md.toInt / 2) from ⟨_, rfl⟩)
    have := Int.dvd_sub g1 b
    rwa [show md.toInt - 2 * (md.toInt / 2) = 1 by omega] at this)
  subst hg
  have e : (md.toInt - 2) * xx.toInt - 1 = md.toInt * xx.toInt - (2 * xx.toInt + 1) := by grind
  rw [e] at g3
  have d : md.toInt ∣ (2 * xx.toInt + 1) := by
    have := Int.dvd_sub (show md.toInt ∣ md.toInt * xx.toInt from ⟨_, rfl⟩) g3
    rwa [show md.toInt * xx.toInt - (md.toInt * xx.toInt - (2 * xx.toInt + 1)) = 2 * xx.toInt + 1 by omega] at this
  have := own_dvd_eq d (by omega) (by omega)
  refine own_of_toInt ?_
  rw [Jvm.Kit.i64_div (by rw [own_sub1 ho.1, own_t64]; omega), own_sub1 ho.1, own_t64, Int.tdiv_eq_ediv_of_nonneg (by omega)]; omega
theorem d1_0 : decode prog_47_method_5_code 0 = .ok (.lload_n 2, 1) := by decide +kernel
theorem d1_1 : decode prog_47_method_5_code 1 = .ok (.lstore 4, 2) := by decide +kernel
theorem d1_3 : decode prog_47_method_5_code 3 = .ok (.lload_n 0, 1) := by decide +kernel
theorem d1_4 : decode prog_47_method_5_code 4 = .ok (.lload_n 2, 1) := by decide +kernel
theorem d1_5 : decode prog_47_method_5_code 5 = .ok (.lrem, 1) := by decide +kernel
theorem d1_6 : decode prog_47_method_5_code 6 = .ok (.lstore 6, 2) := by decide +kernel
theorem d1_8 : decode prog_47_method_5_code 8 = .ok (.lconst 0, 1) := by decide +kernel
theorem d1_9 : decode prog_47_method_5_code 9 = .ok (.lstore 8, 2) := by decide +kernel
theorem d1_11 : decode prog_47_method_5_code 11 = .ok (.lconst 1, 1) := by decide +kernel
theorem d1_12 : decode prog_47_method_5_code 12 = .ok (.lstore 10, 2) := by decide +kernel
theorem d1_14 : decode prog_47_method_5_code 14 = .ok (.lload 6, 2) := by decide +kernel
theorem d1_16 : decode prog_47_method_5_code 16 = .ok (.lconst 0, 1) := by decide +kernel
theorem d1_17 : decode prog_47_method_5_code 17 = .ok (.lcmp, 1) := by decide +kernel
theorem d1_18 : decode prog_47_method_5_code 18 = .ok (.ifCond .eq 49, 3) := by decide +kernel
theorem d1_67 : decode prog_47_method_5_code 67 = .ok (.lload 8, 2) := by decide +kernel
theorem d1_69 : decode prog_47_method_5_code 69 = .ok (.lconst 0, 1) := by decide +kernel
theorem d1_70 : decode prog_47_method_5_code 70 = .ok (.lcmp, 1) := by decide +kernel
theorem d1_71 : decode prog_47_method_5_code 71 = .ok (.ifCond .ge 10, 3) := by decide +kernel
theorem d1_74 : decode prog_47_method_5_code 74 = .ok (.lload 8, 2) := by decide +kernel
theorem d1_76 : decode prog_47_method_5_code 76 = .ok (.lload_n 2, 1) := by decide +kernel
theorem d1_77 : decode prog_47_method_5_code 77 = .ok (.ladd, 1) := by decide +kernel
theorem d1_78 : decode prog_47_method_5_code 78 = .ok (.goto 5, 3) := by decide +kernel
theorem d1_83 : decode prog_47_method_5_code 83 = .ok (.lreturn, 1) := by decide +kernel
theorem d1_81 : decode prog_47_method_5_code 81 = .ok (.lload 8, 2) := by decide +kernel
theorem d1_21 : decode prog_47_method_5_code 21 = .ok (.lload 4, 2) := by decide +kernel
theorem d1_23 : decode prog_47_method_5_code 23 = .ok (.lload 6, 2) := by decide +kernel
theorem d1_25 : decode prog_47_method_5_code 25 = .ok (.ldiv, 1) := by decide +kernel
theorem d1_26 : decode prog_47_method_5_code 26 = .ok (.lstore 12, 2) := by decide +kernel
theorem d1_28 : decode prog_47_method_5_code 28 = .ok (.lload 4, 2) := by decide +kernel
theorem d1_30 : decode prog_47_method_5_code 30 = .ok (.lload 12, 2) := by decide +kernel
theorem d1_32 : decode prog_47_method_5_code 32 = .ok (.lload 6, 2) := by decide +kernel
theorem d1_34 : decode prog_47_method_5_code 34 = .ok (.lmul, 1) := by decide +kernel
theorem d1_35 : decode prog_47_method_5_code 35 = .ok (.lsub, 1) := by decide +kernel
theorem d1_36 : decode prog_47_method_5_code 36 = .ok (.lstore 14, 2) := by decide +kernel
theorem d1_38 : decode prog_47_method_5_code 38 = .ok (.lload 6, 2) := by decide +kernel
theorem d1_40 : decode prog_47_method_5_code 40 = .ok (.lstore 4, 2) := by decide +kernel
theorem d1_42 : decode prog_47_method_5_code 42 = .ok (.lload 14, 2) := by decide +kernel
theorem d1_44 : decode prog_47_method_5_code 44 = .ok (.lstore 6, 2) := by decide +kernel
theorem d1_46 : decode prog_47_method_5_code 46 = .ok (.lload 8, 2) := by decide +kernel
theorem d1_48 : decode prog_47_method_5_code 48 = .ok (.lload 12, 2) := by decide +kernel
theorem d1_50 : decode prog_47_method_5_code 50 = .ok (.lload 10, 2) := by decide +kernel
theorem d1_52 : decode prog_47_method_5_code 52 = .ok (.lmul, 1) := by decide +kernel
theorem d1_53 : decode prog_47_method_5_code 53 = .ok (.lsub, 1) := by decide +kernel
theorem d1_54 : decode prog_47_method_5_code 54 = .ok (.lstore 16, 2) := by decide +kernel
theorem d1_56 : decode prog_47_method_5_code 56 = .ok (.lload 10, 2) := by decide +kernel
theorem d1_58 : decode prog_47_method_5_code 58 = .ok (.lstore 8, 2) := by decide +kernel
theorem d1_60 : decode prog_47_method_5_code 60 = .ok (.lload 16, 2) := by decide +kernel
theorem d1_62 : decode prog_47_method_5_code 62 = .ok (.lstore 10, 2) := by decide +kernel
theorem d1_64 : decode prog_47_method_5_code 64 = .ok (.goto (-50), 3) := by decide +kernel
theorem pn_0 : plainName "com/example/tideway/tideway/NumberTheory" = true := by first | (simp [plainName, overriddenIn]; done) | decide +kernel
theorem ef_rm1 (m : MethodId) (x0 : Int64) (x1 : Int64) : entryFrame m #[(.long x0), (.long x1)] 18 = mkF m 0 #[.val (.long x0), .second, .val (.long x1), .second, .unset, .unset, .unset, .unset, .unset, .unset, .unset, .unset, .unset, .unset, .unset, .unset, .unset, .unset] [] := by first | (simp [entryFrame, mkF, argsToLocals, Value.category]; done) | rfl
def Q1 (Z : State) (y1 : Int64) (y2 : Int64) (h0 : Heap) (n0 : Nat) (v : Option Value) (h : Heap) (L : List Loc) : Prop := ∃ x : Int64, v = some (.long x) ∧ Fr n0 L ∧ h = h0 ∧ own_res y1 y2 x
set_option maxRecDepth 65536 in
set_option maxHeartbeats 40000000 in
theorem rm1 (l : Launch) (Z : State) (a0 : Array Value) (hw : ∀ d ∈ tables_1, d.before a0 Z = true) (ws : List Jvm.Cond) (y1 : Int64) (y2 : Int64) (h0 : Heap) (n0 : Nat) (Z0 : n0 ≤ h0.size) (ha : 0 ≤ y1.toInt) (hm : 1 ≤ y2.toInt) :
    MetFree l (⟨"com/example/tideway/tideway/NumberTheory", "inverseModulo", "(JJ)J"⟩ : MethodName) (head1 (Jvm.Cond.code (⟨"com/example/tideway/tideway/NumberTheory", "inverseModulo", "(JJ)J"⟩ : MethodName) prog_47_method_5_code 18 (some .long) :: ws) ({ frames := 0, cells := 0, slots := 0, locals := 0 } : Room)) (fun a U => a = #[(.long y1), (.long y2)] ∧ Z.Warmed39 U.vm ∧ U.heap = h0) (fun _ _ _ _ _ => True) (fun _ U o U' => ∃ v L, o = .returned v ∧ Q1 Z y1 y2 h0 n0 v U'.heap L ∧ FrameEnd U o U' L ({ frames := 0, cells := 0, slots := 0, locals := 0 } : Room).cells ({ frames := 0, cells := 0, slots := 0, locals := 0 } : Room).slots) := by
  refine MetFree.of_bodySF (plainFor_of_name pn_0) hisR ?_
  intro p e s m args below meth c s₁ Bd hml0 hP hK
  obtain ⟨rfl, hZ, hh⟩ := hP
  have hx := Bd.exec
  have hby := Bd.bytes
  have hml : c.maxLocals = 18 := hml0
  have hown : s.vm.findClass "com/example/tideway/tideway/NumberTheory" = some m.cls := findClass_of_methodNamed Bd.named
  have hnm := (name_of_methodNamed Bd.named Bd.method).1
  have X0 : Stand p l e ({ frames := 0, cells := 0, slots := 0, locals := 0 } : Room) s m #[(.long y1), (.long y2)] below meth c s₁ [] 0 0 := Stand.of_body Bd
  have e0 : s₁.heap = h0 := by rw [← hh, Bd.state]; rfl
  have N0 := Fr.nil n0
  have K0 := Keep.refl h0 []
  suffices hD : Dn p e below s (Q1 Z y1 y2 h0 n0) ({ frames := 0, cells := 0, slots := 0, locals := 0 } : Room).cells ({ frames := 0, cells := 0, slots := 0, locals := 0 } : Room).slots s₁ (mkF m 0 #[.val (.long y1), .second, .val (.long y2), .second, .unset, .unset, .unset, .unset, .unset, .unset, .unset, .unset, .unset, .unset, .unset, .unset, .unset, .unset] []) from by
    obtain ⟨s₂, o, q1, q2⟩ := hD
    exact ⟨s₂, o, castTop (ef_rm1 m y1 y2) q1, q2⟩
  refine Dn.st (fun t q => XS.lloadN X0.here hx rfl (hb hby d1_0) rfl  q) ?_
  show Dn p e below s _ _ _ s₁ (mkF m 1 #[.val (.long y1), .second, .val (.long y2), .second, .unset, .unset, .unset, .unset, .unset, .unset, .unset, .unset, .unset, .unset, .unset, .unset, .unset, .unset] [(.long y2)])
  refine Dn.st (fun t q => XS.lstore X0.here hx rfl (hb hby d1_1) rfl (l' := #[.val (.long y1), .second, .val (.long y2), .second, .val (.long y2), .second, .unset, .unset, .unset, .unset, .unset, .unset, .unset, .unset, .unset, .unset, .unset, .unset]) rfl q) ?_
  show Dn p e below s _ _ _ s₁ (mkF m 3 #[.val (.long y1), .second, .val (.long y2), .second, .val (.long y2), .second, .unset, .unset, .unset, .unset, .unset, .unset, .unset, .unset, .unset, .unset, .unset, .unset] [])
  refine Dn.st (fun t q => XS.lloadN X0.here hx rfl (hb hby d1_3) rfl  q) ?_
  show Dn p e below s _ _ _ s₁ (mkF m 4 #[.val (.long y1), .second, .val (.long y2), .second, .val (.long y2), .second, .unset, .unset, .unset, .unset, .unset, .unset, .unset, .unset, .unset, .unset, .unset, .unset] [(.long y1)])
  refine Dn.st (fun t q => XS.lloadN X0.here hx rfl (hb hby d1_4) rfl  q) ?_
  show Dn p e below s _ _ _ s₁ (mkF m 5 #[.val (.long y1), .second, .val (.long y2), .second, .val (.long y2), .second, .unset, .unset, .unset, .unset, .unset, .unset, .unset, .unset, .unset, .unset, .unset, .unset] [(.long y2), (.long y1)])
  refine Dn.st (fun t q => XS.lrem X0.here hx rfl (hb hby d1_5) rfl (own_mnz hm) q) ?_
  show Dn p e below s _ _ _ s₁ (mkF m 6 #[.val (.long y1), .second, .val (.long y2), .second, .val (.long y2), .second, .unset, .unset, .unset, .unset, .unset, .unset, .unset, .unset, .unset, .unset, .unset, .unset] [(.long (y1 - (y1 / y2) * y2))])
  generalize har : (y1 - (y1 / y2) * y2) = ar
  show Dn p e below s _ _ _ s₁ (mkF m 6 #[.val (.long y1), .second, .val (.long y2), .second, .val (.long y2), .second, .unset, .unset, .unset, .unset, .unset, .unset, .unset, .unset, .unset, .unset, .unset, .unset] [(.long ar)])
  have har2 := own_ar ha hm har
  refine Dn.st (fun t q => XS.lstore X0.here hx rfl (hb hby d1_6) rfl (l' := #[.val (.long y1), .second, .val (.long y2), .second, .val (.long y2), .second, .val (.long ar), .second, .unset, .unset, .unset, .unset, .unset, .unset, .unset, .unset, .unset, .unset]) rfl q) ?_
  show Dn p e below s _ _ _ s₁ (mkF m 8 #[.val (.long y1), .second, .val (.long y2), .second, .val (.long y2), .second, .val (.long ar), .second, .unset, .unset, .unset, .unset, .unset, .unset, .unset, .unset, .unset, .unset] [])
  refine Dn.st (fun t q => XS.lconst X0.here hx rfl (hb hby d1_8) q) ?_
  show Dn p e below s _ _ _ s₁ (mkF m 9 #[.val (.long y1), .second, .val (.long y2), .second, .val (.long y2), .second, .val (.long ar), .second, .unset, .unset, .unset, .unset, .unset, .unset, .unset, .unset, .unset, .unset] [(.long (0 : Int64))])
  refine Dn.st (fun t q => XS.lstore X0.here hx rfl (hb hby d1_9) rfl (l' := #[.val (.long y1), .second, .val (.long y2), .second, .val (.long y2), .second, .val (.long ar), .second, .val (.long (0 : Int64)), .second, .unset, .unset, .unset, .unset, .unset, .unset, .unset, .unset]) rfl q) ?_
  show Dn p e below s _ _ _ s₁ (mkF m 11 #[.val (.long y1), .second, .val (.long y2), .second, .val (.long y2), .second, .val (.long ar), .second, .val (.long (0 : Int64)), .second, .unset, .unset, .unset, .unset, .unset, .unset, .unset, .unset] [])
  refine Dn.st (fun t q => XS.lconst X0.here hx rfl (hb hby d1_11) q) ?_
  show Dn p e below s _ _ _ s₁ (mkF m 12 #[.val (.long y1), .second, .val (.long y2), .second, .val (.long y2), .second, .val (.long ar), .second, .val (.long (0 : Int64)), .second, .unset, .unset, .unset, .unset, .unset, .unset, .unset, .unset] [(.long (1 : Int64))])
  refine Dn.st (fun t q => XS.lstore X0.here hx rfl (hb hby d1_12) rfl (l' := #[.val (.long y1), .second, .val (.long y2), .second, .val (.long y2), .second, .val (.long ar), .second, .val (.long (0 : Int64)), .second, .val (.long (1 : Int64)), .second, .unset, .unset, .unset, .unset, .unset, .unset]) rfl q) ?_
  show Dn p e below s _ _ _ s₁ (mkF m 14 #[.val (.long y1), .second, .val (.long y2), .second, .val (.long y2), .second, .val (.long ar), .second, .val (.long (0 : Int64)), .second, .val (.long (1 : Int64)), .second, .unset, .unset, .unset, .unset, .unset, .unset] [])
  refine Dn.st (fun t q => XS.lload X0.here hx rfl (hb hby d1_14) rfl  q) ?_
  show Dn p e below s _ _ _ s₁ (mkF m 16 #[.val (.long y1), .second, .val (.long y2), .second, .val (.long y2), .second, .val (.long ar), .second, .val (.long (0 : Int64)), .second, .val (.long (1 : Int64)), .second, .unset, .unset, .unset, .unset, .unset, .unset] [(.long ar)])
  refine Dn.st (fun t q => XS.lconst X0.here hx rfl (hb hby d1_16) q) ?_
  show Dn p e below s _ _ _ s₁ (mkF m 17 #[.val (.long y1), .second, .val (.long y2), .second, .val (.long y2), .second, .val (.long ar), .second, .val (.long (0 : Int64)), .second, .val (.long (1 : Int64)), .second, .unset, .unset, .unset, .unset, .unset, .unset] [(.long (0 : Int64)), (.long ar)])
  refine Dn.st (fun t q => XS.lcmp X0.here hx rfl (hb hby d1_17) rfl q) ?_
  show Dn p e below s _ _ _ s₁ (mkF m 18 #[.val (.long y1), .second, .val (.long y2), .second, .val (.long y2), .second, .val (.long ar), .second, .val (.long (0 : Int64)), .second, .val (.long (1 : Int64)), .second, .unset, .unset, .unset, .unset, .unset, .unset] [(.int (lcmpW ar (0 : Int64)))])
  have hI0 : own_inv y2 y1 y2 ar 0 1 := own_start ha hm har2
  by_cases hz : ar = (0 : Int64)
  · refine Dn.st (fun t q => XS.ifYes X0.here hx rfl (pc0 := 18) (pc' := 67) rfl (hb hby d1_18) rfl ((if0 _ _).trans (teq ((lw_eq _ _).mpr hz)).1) (by decide) (by decide) q) ?_
    show Dn p e below s _ _ _ s₁ (mkF m 67 #[.val (.long y1), .second, .val (.long y2), .second, .val (.long y2), .second, .val (.long ar), .second, .val (.long (0 : Int64)), .second, .val (.long (1 : Int64)), .second, .unset, .unset, .unset, .unset, .unset, .unset] [])
    refine Dn.st (fun t q => XS.lload X0.here hx rfl (hb hby d1_67) rfl  q) ?_
    show Dn p e below s _ _ _ s₁ (mkF m 69 #[.val (.long y1), .second, .val (.long y2), .second, .val (.long y2), .second, .val (.long ar), .second, .val (.long (0 : Int64)), .second, .val (.long (1 : Int64)), .second, .unset, .unset, .unset, .unset, .unset, .unset] [(.long (0 : Int64))])
    refine Dn.st (fun t q => XS.lconst X0.here hx rfl (hb hby d1_69) q) ?_
    show Dn p e below s _ _ _ s₁ (mkF m 70 #[.val (.long y1), .second, .val (.long y2), .second, .val (.long y2), .second, .val (.long ar), .second, .val (.long (0 : Int64)), .second, .val (.long (1 : Int64)), .second, .unset, .unset, .unset, .unset, .unset, .unset] [(.long (0 : Int64)), (.long (0 : Int64))])
    refine Dn.st (fun t q => XS.lcmp X0.here hx rfl (hb hby d1_70) rfl q) ?_
    show Dn p e below s _ _ _ s₁ (mkF m 71 #[.val (.long y1), .second, .val (.long y2), .second, .val (.long y2), .second, .val (.long ar), .second, .val (.long (0 : Int64)), .second, .val (.long (1 : Int64)), .second, .unset, .unset, .unset, .unset, .unset, .unset] [(.int (lcmpW (0 : Int64) (0 : Int64)))])
    by_cases hc : (0 : Int64) < (0 : Int64)
    · refine Dn.st (fun t q => XS.ifNo X0.here hx rfl (hb hby d1_71) rfl ((if0 _ _).trans (tlt ((lw_lt _ _).mpr hc)).2.1) q) ?_
      show Dn p e below s _ _ _ s₁ (mkF m 74 #[.val (.long y1), .second, .val (.long y2), .second, .val (.long y2), .second, .val (.long ar), .second, .val (.long (0 : Int64)), .second, .val (.long (1 : Int64)), .second, .unset, .unset, .unset, .unset, .unset, .unset] [])
      refine Dn.st (fun t q => XS.lload X0.here hx rfl (hb hby d1_74) rfl  q) ?_
      show Dn p e below s _ _ _ s₁ (mkF m 76 #[.val (.long y1), .second, .val (.long y2), .second, .val (.long y2), .second, .val (.long ar), .second, .val (.long (0 : Int64)), .second, .val (.long (1 : Int64)), .second, .unset, .unset, .unset, .unset, .unset, .unset] [(.long (0 : Int64))])
      refine Dn.st (fun t q => XS.lloadN X0.here hx rfl (hb hby d1_76) rfl  q) ?_
      show Dn p e below s _ _ _ s₁ (mkF m 77 #[.val (.long y1), .second, .val (.long y2), .second, .val (.long y2), .second, .val (.long ar), .second, .val (.long (0 : Int64)), .second, .val (.long (1 : Int64)), .second, .unset, .unset, .unset, .unset, .unset, .unset] [(.long y2), (.long (0 : Int64))])
      refine Dn.st (fun t q => XS.ladd X0.here hx rfl (hb hby d1_77) rfl q) ?_
      show Dn p e below s _ _ _ s₁ (mkF m 78 #[.val (.long y1), .second, .val (.long y2), .second, .val (.long y2), .second, .val (.long ar), .second, .val (.long (0 : Int64)), .second, .val (.long (1 : Int64)), .second, .unset, .unset, .unset, .unset, .unset, .unset] [(.long ((0 : Int64) + y2))])
      refine Dn.st (fun t q => XS.goto X0.here hx rfl (pc0 := 78) (pc' := 83) rfl (hb hby d1_78) (by decide) (by decide) q) ?_
      show Dn p e below s _ _ _ s₁ (mkF m 83 #[.val (.long y1), .second, .val (.long y2), .second, .val (.long y2), .second, .val (.long ar), .second, .val (.long (0 : Int64)), .second, .val (.long (1 : Int64)), .second, .unset, .unset, .unset, .unset, .unset, .unset] [(.long ((0 : Int64) + y2))])
      exact Dn.retJ X0 hx Bd.notSynchronized Bd.returns (hb hby d1_83) (by rw [e0]; exact ⟨_, rfl, N0, rfl, own_endn hI0 hz hc⟩) (by decide) (by decide)
    · refine Dn.st (fun t q => XS.ifYes X0.here hx rfl (pc0 := 71) (pc' := 81) rfl (hb hby d1_71) rfl ((if0 _ _).trans (flt (mt (lw_lt _ _).mp hc)).2.1) (by decide) (by decide) q) ?_
      show Dn p e below s _ _ _ s₁ (mkF m 81 #[.val (.long y1), .second, .val (.long y2), .second, .val (.long y2), .second, .val (.long ar), .second, .val (.long (0 : Int64)), .second, .val (.long (1 : Int64)), .second, .unset, .unset, .unset, .unset, .unset, .unset] [])
      refine Dn.st (fun t q => XS.lload X0.here hx rfl (hb hby d1_81) rfl  q) ?_
      show Dn p e below s _ _ _ s₁ (mkF m 83 #[.val (.long y1), .second, .val (.long y2), .second, .val (.long y2), .second, .val (.long ar), .second, .val (.long (0 : Int64)), .second, .val (.long (1 : Int64)), .second, .unset, .unset, .unset, .unset, .unset, .unset] [(.long (0 : Int64))])
      exact Dn.retJ X0 hx Bd.notSynchronized Bd.returns (hb hby d1_83) (by rw [e0]; exact ⟨_, rfl, N0, rfl, own_endp hI0 hz hc⟩) (by decide) (by decide)
  · refine Dn.st (fun t q => XS.ifNo X0.here hx rfl (hb hby d1_18) rfl ((if0 _ _).trans (feq (mt (lw_eq _ _).mp hz)).1) q) ?_
    show Dn p e below s _ _ _ s₁ (mkF m 21 #[.val (.long y1), .second, .val (.long y2), .second, .val (.long y2), .second, .val (.long ar), .second, .val (.long (0 : Int64)), .second, .val (.long (1 : Int64)), .second, .unset, .unset, .unset, .unset, .unset, .unset] [])
    refine Dn.st (fun t q => XS.lload X0.here hx rfl (hb hby d1_21) rfl  q) ?_
    show Dn p e below s _ _ _ s₁ (mkF m 23 #[.val (.long y1), .second, .val (.long y2), .second, .val (.long y2), .second, .val (.long ar), .second, .val (.long (0 : Int64)), .second, .val (.long (1 : Int64)), .second, .unset, .unset, .unset, .unset, .unset, .unset] [(.long y2)])
    refine Dn.st (fun t q => XS.lload X0.here hx rfl (hb hby d1_23) rfl  q) ?_
    show Dn p e below s _ _ _ s₁ (mkF m 25 #[.val (.long y1), .second, .val (.long y2), .second, .val (.long y2), .second, .val (.long ar), .second, .val (.long (0 : Int64)), .second, .val (.long (1 : Int64)), .second, .unset, .unset, .unset, .unset, .unset, .unset] [(.long ar), (.long y2)])
    refine Dn.st (fun t q => XS.ldiv X0.here hx rfl (hb hby d1_25) rfl hz q) ?_
    show Dn p e below s _ _ _ s₁ (mkF m 26 #[.val (.long y1), .second, .val (.long y2), .second, .val (.long y2), .second, .val (.long ar), .second, .val (.long (0 : Int64)), .second, .val (.long (1 : Int64)), .second, .unset, .unset, .unset, .unset, .unset, .unset] [(.long (y2 / ar))])
    refine Dn.st (fun t q => XS.lstore X0.here hx rfl (hb hby d1_26) rfl (l' := #[.val (.long y1), .second, .val (.long y2), .second, .val (.long y2), .second, .val (.long ar), .second, .val (.long (0 : Int64)), .second, .val (.long (1 : Int64)), .second, .val (.long (y2 / ar)), .second, .unset, .unset, .unset, .unset]) rfl q) ?_
    show Dn p e below s _ _ _ s₁ (mkF m 28 #[.val (.long y1), .second, .val (.long y2), .second, .val (.long y2), .second, .val (.long ar), .second, .val (.long (0 : Int64)), .second, .val (.long (1 : Int64)), .second, .val (.long (y2 / ar)), .second, .unset, .unset, .unset, .unset] [])
    refine Dn.st (fun t q => XS.lload X0.here hx rfl (hb hby d1_28) rfl  q) ?_
    show Dn p e below s _ _ _ s₁ (mkF m 30 #[.val (.long y1), .second, .val (.long y2), .second, .val (.long y2), .second, .val (.long ar), .second, .val (.long (0 : Int64)), .second, .val (.long (1 : Int64)), .second, .val (.long (y2 / ar)), .second, .unset, .unset, .unset, .unset] [(.long y2)])
    refine Dn.st (fun t q => XS.lload X0.here hx rfl (hb hby d1_30) rfl  q) ?_
    show Dn p e below s _ _ _ s₁ (mkF m 32 #[.val (.long y1), .second, .val (.long y2), .second, .val (.long y2), .second, .val (.long ar), .second, .val (.long (0 : Int64)), .second, .val (.long (1 : Int64)), .second, .val (.long (y2 / ar)), .second, .unset, .unset, .unset, .unset] [(.long (y2 / ar)), (.long y2)])
    refine Dn.st (fun t q => XS.lload X0.here hx rfl (hb hby d1_32) rfl  q) ?_
    show Dn p e below s _ _ _ s₁ (mkF m 34 #[.val (.long y1), .second, .val (.long y2), .second, .val (.long y2), .second, .val (.long ar), .second, .val (.long (0 : Int64)), .second, .val (.long (1 : Int64)), .second, .val (.long (y2 / ar)), .second, .unset, .unset, .unset, .unset] [(.long ar), (.long (y2 / ar)), (.long y2)])
    refine Dn.st (fun t q => XS.lmul X0.here hx rfl (hb hby d1_34) rfl q) ?_
    show Dn p e below s _ _ _ s₁ (mkF m 35 #[.val (.long y1), .second, .val (.long y2), .second, .val (.long y2), .second, .val (.long ar), .second, .val (.long (0 : Int64)), .second, .val (.long (1 : Int64)), .second, .val (.long (y2 / ar)), .second, .unset, .unset, .unset, .unset] [(.long ((y2 / ar) * ar)), (.long y2)])
    refine Dn.st (fun t q => XS.lsub X0.here hx rfl (hb hby d1_35) rfl q) ?_
    show Dn p e below s _ _ _ s₁ (mkF m 36 #[.val (.long y1), .second, .val (.long y2), .second, .val (.long y2), .second, .val (.long ar), .second, .val (.long (0 : Int64)), .second, .val (.long (1 : Int64)), .second, .val (.long (y2 / ar)), .second, .unset, .unset, .unset, .unset] [(.long (y2 - ((y2 / ar) * ar)))])
    refine Dn.st (fun t q => XS.lstore X0.here hx rfl (hb hby d1_36) rfl (l' := #[.val (.long y1), .second, .val (.long y2), .second, .val (.long y2), .second, .val (.long ar), .second, .val (.long (0 : Int64)), .second, .val (.long (1 : Int64)), .second, .val (.long (y2 / ar)), .second, .val (.long (y2 - ((y2 / ar) * ar))), .second, .unset, .unset]) rfl q) ?_
    show Dn p e below s _ _ _ s₁ (mkF m 38 #[.val (.long y1), .second, .val (.long y2), .second, .val (.long y2), .second, .val (.long ar), .second, .val (.long (0 : Int64)), .second, .val (.long (1 : Int64)), .second, .val (.long (y2 / ar)), .second, .val (.long (y2 - ((y2 / ar) * ar))), .second, .unset, .unset] [])
    refine Dn.st (fun t q => XS.lload X0.here hx rfl (hb hby d1_38) rfl  q) ?_
    show Dn p e below s _ _ _ s₁ (mkF m 40 #[.val (.long y1), .second, .val (.long y2), .second, .val (.long y2), .second, .val (.long ar), .second, .val (.long (0 : Int64)), .second, .val (.long (1 : Int64)), .second, .val (.long (y2 / ar)), .second, .val (.long (y2 - ((y2 / ar) * ar))), .second, .unset, .unset] [(.long ar)])
    refine Dn.st (fun t q => XS.lstore X0.here hx rfl (hb hby d1_40) rfl (l' := #[.val (.long y1), .second, .val (.long y2), .second, .val (.long ar), .second, .val (.long ar), .second, .val (.long (0 : Int64)), .second, .val (.long (1 : Int64)), .second, .val (.long (y2 / ar)), .second, .val (.long (y2 - ((y2 / ar) * ar))), .second, .unset, .unset]) rfl q) ?_
    show Dn p e below s _ _ _ s₁ (mkF m 42 #[.val (.long y1), .second, .val (.long y2), .second, .val (.long ar), .second, .val (.long ar), .second, .val (.long (0 : Int64)), .second, .val (.long (1 : Int64)), .second, .val (.long (y2 / ar)), .second, .val (.long (y2 - ((y2 / ar) * ar))), .second, .unset, .unset] [])
    refine Dn.st (fun t q => XS.lload X0.here hx rfl (hb hby d1_42) rfl  q) ?_
    show Dn p e below s _ _ _ s₁ (mkF m 44 #[.val (.long y1), .second, .val (.long y2), .second, .val (.long ar), .second, .val (.long ar), .second, .val (.long (0 : Int64)), .second, .val (.long (1 : Int64)), .second, .val (.long (y2 / ar)), .second, .val (.long (y2 - ((y2 / ar) * ar))), .second, .unset, .unset] [(.long (y2 - ((y2 / ar) * ar)))])
    refine Dn.st (fun t q => XS.lstore X0.here hx rfl (hb hby d1_44) rfl (l' := #[.val (.long y1), .second, .val (.long y2), .second, .val (.long ar), .second, .val (.long (y2 - ((y2 / ar) * ar))), .second, .val (.long (0 : Int64)), .second, .val (.long (1 : Int64)), .second, .val (.long (y2 / ar)), .second, .val (.long (y2 - ((y2 / ar) * ar))), .second, .unset, .unset]) rfl q) ?_
    show Dn p e below s _ _ _ s₁ (mkF m 46 #[.val (.long y1), .second, .val (.long y2), .second, .val (.long ar), .second, .val (.long (y2 - ((y2 / ar) * ar))), .second, .val (.long (0 : Int64)), .second, .val (.long (1 : Int64)), .second, .val (.long (y2 / ar)), .second, .val (.long (y2 - ((y2 / ar) * ar))), .second, .unset, .unset] [])
    refine Dn.st (fun t q => XS.lload X0.here hx rfl (hb hby d1_46) rfl  q) ?_
    show Dn p e below s _ _ _ s₁ (mkF m 48 #[.val (.long y1), .second, .val (.long y2), .second, .val (.long ar), .second, .val (.long (y2 - ((y2 / ar) * ar))), .second, .val (.long (0 : Int64)), .second, .val (.long (1 : Int64)), .second, .val (.long (y2 / ar)), .second, .val (.long (y2 - ((y2 / ar) * ar))), .second, .unset, .unset] [(.long (0 : Int64))])
    refine Dn.st (fun t q => XS.lload X0.here hx rfl (hb hby d1_48) rfl  q) ?_
    show Dn p e below s _ _ _ s₁ (mkF m 50 #[.val (.long y1), .second, .val (.long y2), .second, .val (.long ar), .second, .val (.long (y2 - ((y2 / ar) * ar))), .second, .val (.long (0 : Int64)), .second, .val (.long (1 : Int64)), .second, .val (.long (y2 / ar)), .second, .val (.long (y2 - ((y2 / ar) * ar))), .second, .unset, .unset] [(.long (y2 / ar)), (.long (0 : Int64))])
    refine Dn.st (fun t q => XS.lload X0.here hx rfl (hb hby d1_50) rfl  q) ?_
    show Dn p e below s _ _ _ s₁ (mkF m 52 #[.val (.long y1), .second, .val (.long y2), .second, .val (.long ar), .second, .val (.long (y2 - ((y2 / ar) * ar))), .second, .val (.long (0 : Int64)), .second, .val (.long (1 : Int64)), .second, .val (.long (y2 / ar)), .second, .val (.long (y2 - ((y2 / ar) * ar))), .second, .unset, .unset] [(.long (1 : Int64)), (.long (y2 / ar)), (.long (0 : Int64))])
    refine Dn.st (fun t q => XS.lmul X0.here hx rfl (hb hby d1_52) rfl q) ?_
    show Dn p e below s _ _ _ s₁ (mkF m 53 #[.val (.long y1), .second, .val (.long y2), .second, .val (.long ar), .second, .val (.long (y2 - ((y2 / ar) * ar))), .second, .val (.long (0 : Int64)), .second, .val (.long (1 : Int64)), .second, .val (.long (y2 / ar)), .second, .val (.long (y2 - ((y2 / ar) * ar))), .second, .unset, .unset] [(.long ((y2 / ar) * (1 : Int64))), (.long (0 : Int64))])
    refine Dn.st (fun t q => XS.lsub X0.here hx rfl (hb hby d1_53) rfl q) ?_
    show Dn p e below s _ _ _ s₁ (mkF m 54 #[.val (.long y1), .second, .val (.long y2), .second, .val (.long ar), .second, .val (.long (y2 - ((y2 / ar) * ar))), .second, .val (.long (0 : Int64)), .second, .val (.long (1 : Int64)), .second, .val (.long (y2 / ar)), .second, .val (.long (y2 - ((y2 / ar) * ar))), .second, .unset, .unset] [(.long ((0 : Int64) - ((y2 / ar) * (1 : Int64))))])
    refine Dn.st (fun t q => XS.lstore X0.here hx rfl (hb hby d1_54) rfl (l' := #[.val (.long y1), .second, .val (.long y2), .second, .val (.long ar), .second, .val (.long (y2 - ((y2 / ar) * ar))), .second, .val (.long (0 : Int64)), .second, .val (.long (1 : Int64)), .second, .val (.long (y2 / ar)), .second, .val (.long (y2 - ((y2 / ar) * ar))), .second, .val (.long ((0 : Int64) - ((y2 / ar) * (1 : Int64)))), .second]) rfl q) ?_
    show Dn p e below s _ _ _ s₁ (mkF m 56 #[.val (.long y1), .second, .val (.long y2), .second, .val (.long ar), .second, .val (.long (y2 - ((y2 / ar) * ar))), .second, .val (.long (0 : Int64)), .second, .val (.long (1 : Int64)), .second, .val (.long (y2 / ar)), .second, .val (.long (y2 - ((y2 / ar) * ar))), .second, .val (.long ((0 : Int64) - ((y2 / ar) * (1 : Int64)))), .second] [])
    refine Dn.st (fun t q => XS.lload X0.here hx rfl (hb hby d1_56) rfl  q) ?_
    show Dn p e below s _ _ _ s₁ (mkF m 58 #[.val (.long y1), .second, .val (.long y2), .second, .val (.long ar), .second, .val (.long (y2 - ((y2 / ar) * ar))), .second, .val (.long (0 : Int64)), .second, .val (.long (1 : Int64)), .second, .val (.long (y2 / ar)), .second, .val (.long (y2 - ((y2 / ar) * ar))), .second, .val (.long ((0 : Int64) - ((y2 / ar) * (1 : Int64)))), .second] [(.long (1 : Int64))])
    refine Dn.st (fun t q => XS.lstore X0.here hx rfl (hb hby d1_58) rfl (l' := #[.val (.long y1), .second, .val (.long y2), .second, .val (.long ar), .second, .val (.long (y2 - ((y2 / ar) * ar))), .second, .val (.long (1 : Int64)), .second, .val (.long (1 : Int64)), .second, .val (.long (y2 / ar)), .second, .val (.long (y2 - ((y2 / ar) * ar))), .second, .val (.long ((0 : Int64) - ((y2 / ar) * (1 : Int64)))), .second]) rfl q) ?_
    show Dn p e below s _ _ _ s₁ (mkF m 60 #[.val (.long y1), .second, .val (.long y2), .second, .val (.long ar), .second, .val (.long (y2 - ((y2 / ar) * ar))), .second, .val (.long (1 : Int64)), .second, .val (.long (1 : Int64)), .second, .val (.long (y2 / ar)), .second, .val (.long (y2 - ((y2 / ar) * ar))), .second, .val (.long ((0 : Int64) - ((y2 / ar) * (1 : Int64)))), .second] [])
    refine Dn.st (fun t q => XS.lload X0.here hx rfl (hb hby d1_60) rfl  q) ?_
    show Dn p e below s _ _ _ s₁ (mkF m 62 #[.val (.long y1), .second, .val (.long y2), .second, .val (.long ar), .second, .val (.long (y2 - ((y2 / ar) * ar))), .second, .val (.long (1 : Int64)), .second, .val (.long (1 : Int64)), .second, .val (.long (y2 / ar)), .second, .val (.long (y2 - ((y2 / ar) * ar))), .second, .val (.long ((0 : Int64) - ((y2 / ar) * (1 : Int64)))), .second] [(.long ((0 : Int64) - ((y2 / ar) * (1 : Int64))))])
    refine Dn.st (fun t q => XS.lstore X0.here hx rfl (hb hby d1_62) rfl (l' := #[.val (.long y1), .second, .val (.long y2), .second, .val (.long ar), .second, .val (.long (y2 - ((y2 / ar) * ar))), .second, .val (.long (1 : Int64)), .second, .val (.long ((0 : Int64) - ((y2 / ar) * (1 : Int64)))), .second, .val (.long (y2 / ar)), .second, .val (.long (y2 - ((y2 / ar) * ar))), .second, .val (.long ((0 : Int64) - ((y2 / ar) * (1 : Int64)))), .second]) rfl q) ?_
    show Dn p e below s _ _ _ s₁ (mkF m 64 #[.val (.long y1), .second, .val (.long y2), .second, .val (.long ar), .second, .val (.long (y2 - ((y2 / ar) * ar))), .second, .val (.long (1 : Int64)), .second, .val (.long ((0 : Int64) - ((y2 / ar) * (1 : Int64)))), .second, .val (.long (y2 / ar)), .second, .val (.long (y2 - ((y2 / ar) * ar))), .second, .val (.long ((0 : Int64) - ((y2 / ar) * (1 : Int64)))), .second] [])
    refine Dn.st (fun t q => XS.goto X0.here hx rfl (pc0 := 64) (pc' := 14) rfl (hb hby d1_64) (by decide) (by decide) q) ?_
    show Dn p e below s _ _ _ s₁ (mkF m 14 #[.val (.long y1), .second, .val (.long y2), .second, .val (.long ar), .second, .val (.long (y2 - ((y2 / ar) * ar))), .second, .val (.long (1 : Int64)), .second, .val (.long ((0 : Int64) - ((y2 / ar) * (1 : Int64)))), .second, .val (.long (y2 / ar)), .second, .val (.long (y2 - ((y2 / ar) * ar))), .second, .val (.long ((0 : Int64) - ((y2 / ar) * (1 : Int64)))), .second] [])
    have hI1 := own_step hI0 hz
    have lp : ∀ (k : Nat) (r0 : Int64) (r1 : Int64) (t0 : Int64) (t1 : Int64) (q2 : Int64) (r2 : Int64) (t2 : Int64)  (hI : own_inv y2 y1 r0 r1 t0 t1) (hk : r1.toInt ≤ (k : Int)), Dn p e below s (Q1 Z y1 y2 h0 n0) (({ frames := 0, cells := 0, slots := 0, locals := 0 } : Room).cells) (({ frames := 0, cells := 0, slots := 0, locals := 0 } : Room).slots) s₁ (mkF m 14 #[.val (.long y1), .second, .val (.long y2), .second, .val (.long r0), .second, .val (.long r1), .second, .val (.long t0), .second, .val (.long t1), .second, .val (.long q2), .second, .val (.long r2), .second, .val (.long t2), .second] []) := by
      intro k
      induction k with
      | zero =>
        intro r0 r1 t0 t1 q2 r2 t2 hI hk
        refine Dn.st (fun t q => XS.lload X0.here hx rfl (hb hby d1_14) rfl  q) ?_
        show Dn p e below s _ _ _ s₁ (mkF m 16 #[.val (.long y1), .second, .val (.long y2), .second, .val (.long r0), .second, .val (.long r1), .second, .val (.long t0), .second, .val (.long t1), .second, .val (.long q2), .second, .val (.long r2), .second, .val (.long t2), .second] [(.long r1)])
        refine Dn.st (fun t q => XS.lconst X0.here hx rfl (hb hby d1_16) q) ?_
        show Dn p e below s _ _ _ s₁ (mkF m 17 #[.val (.long y1), .second, .val (.long y2), .second, .val (.long r0), .second, .val (.long r1), .second, .val (.long t0), .second, .val (.long t1), .second, .val (.long q2), .second, .val (.long r2), .second, .val (.long t2), .second] [(.long (0 : Int64)), (.long r1)])
        refine Dn.st (fun t q => XS.lcmp X0.here hx rfl (hb hby d1_17) rfl q) ?_
        show Dn p e below s _ _ _ s₁ (mkF m 18 #[.val (.long y1), .second, .val (.long y2), .second, .val (.long r0), .second, .val (.long r1), .second, .val (.long t0), .second, .val (.long t1), .second, .val (.long q2), .second, .val (.long r2), .second, .val (.long t2), .second] [(.int (lcmpW r1 (0 : Int64)))])
        refine Dn.st (fun t q => XS.ifYes X0.here hx rfl (pc0 := 18) (pc' := 67) rfl (hb hby d1_18) rfl ((if0 _ _).trans (teq ((lw_eq _ _).mpr (own_zero hI hk))).1) (by decide) (by decide) q) ?_
        show Dn p e below s _ _ _ s₁ (mkF m 67 #[.val (.long y1), .second, .val (.long y2), .second, .val (.long r0), .second, .val (.long r1), .second, .val (.long t0), .second, .val (.long t1), .second, .val (.long q2), .second, .val (.long r2), .second, .val (.long t2), .second] [])
        refine Dn.st (fun t q => XS.lload X0.here hx rfl (hb hby d1_67) rfl  q) ?_
        show Dn p e below s _ _ _ s₁ (mkF m 69 #[.val (.long y1), .second, .val (.long y2), .second, .val (.long r0), .second, .val (.long r1), .second, .val (.long t0), .second, .val (.long t1), .second, .val (.long q2), .second, .val (.long r2), .second, .val (.long t2), .second] [(.long t0)])
        refine Dn.st (fun t q => XS.lconst X0.here hx rfl (hb hby d1_69) q) ?_
        show Dn p e below s _ _ _ s₁ (mkF m 70 #[.val (.long y1), .second, .val (.long y2), .second, .val (.long r0), .second, .val (.long r1), .second, .val (.long t0), .second, .val (.long t1), .second, .val (.long q2), .second, .val (.long r2), .second, .val (.long t2), .second] [(.long (0 : Int64)), (.long t0)])
        refine Dn.st (fun t q => XS.lcmp X0.here hx rfl (hb hby d1_70) rfl q) ?_
        show Dn p e below s _ _ _ s₁ (mkF m 71 #[.val (.long y1), .second, .val (.long y2), .second, .val (.long r0), .second, .val (.long r1), .second, .val (.long t0), .second, .val (.long t1), .second, .val (.long q2), .second, .val (.long r2), .second, .val (.long t2), .second] [(.int (lcmpW t0 (0 : Int64)))])
        by_cases hc : t0 < (0 : Int64)
        · refine Dn.st (fun t q => XS.ifNo X0.here hx rfl (hb hby d1_71) rfl ((if0 _ _).trans (tlt ((lw_lt _ _).mpr hc)).2.1) q) ?_
          show Dn p e below s _ _ _ s₁ (mkF m 74 #[.val (.long y1), .second, .val (.long y2), .second, .val (.long r0), .second, .val (.long r1), .second, .val (.long t0), .second, .val (.long t1), .second, .val (.long q2), .second, .val (.long r2), .second, .val (.long t2), .second] [])
          refine Dn.st (fun t q => XS.lload X0.here hx rfl (hb hby d1_74) rfl  q) ?_
          show Dn p e below s _ _ _ s₁ (mkF m 76 #[.val (.long y1), .second, .val (.long y2), .second, .val (.long r0), .second, .val (.long r1), .second, .val (.long t0), .second, .val (.long t1), .second, .val (.long q2), .second, .val (.long r2), .second, .val (.long t2), .second] [(.long t0)])
          refine Dn.st (fun t q => XS.lloadN X0.here hx rfl (hb hby d1_76) rfl  q) ?_
          show Dn p e below s _ _ _ s₁ (mkF m 77 #[.val (.long y1), .second, .val (.long y2), .second, .val (.long r0), .second, .val (.long r1), .second, .val (.long t0), .second, .val (.long t1), .second, .val (.long q2), .second, .val (.long r2), .second, .val (.long t2), .second] [(.long y2), (.long t0)])
          refine Dn.st (fun t q => XS.ladd X0.here hx rfl (hb hby d1_77) rfl q) ?_
          show Dn p e below s _ _ _ s₁ (mkF m 78 #[.val (.long y1), .second, .val (.long y2), .second, .val (.long r0), .second, .val (.long r1), .second, .val (.long t0), .second, .val (.long t1), .second, .val (.long q2), .second, .val (.long r2), .second, .val (.long t2), .second] [(.long (t0 + y2))])
          refine Dn.st (fun t q => XS.goto X0.here hx rfl (pc0 := 78) (pc' := 83) rfl (hb hby d1_78) (by decide) (by decide) q) ?_
          show Dn p e below s _ _ _ s₁ (mkF m 83 #[.val (.long y1), .second, .val (.long y2), .second, .val (.long r0), .second, .val (.long r1), .second, .val (.long t0), .second, .val (.long t1), .second, .val (.long q2), .second, .val (.long r2), .second, .val (.long t2), .second] [(.long (t0 + y2))])
          exact Dn.retJ X0 hx Bd.notSynchronized Bd.returns (hb hby d1_83) (by rw [e0]; exact ⟨_, rfl, N0, rfl, own_endn hI (own_zero hI hk) hc⟩) (by decide) (by decide)
        · refine Dn.st (fun t q => XS.ifYes X0.here hx rfl (pc0 := 71) (pc' := 81) rfl (hb hby d1_71) rfl ((if0 _ _).trans (flt (mt (lw_lt _ _).mp hc)).2.1) (by decide) (by decide) q) ?_
          show Dn p e below s _ _ _ s₁ (mkF m 81 #[.val (.long y1), .second, .val (.long y2), .second, .val (.long r0), .second, .val (.long r1), .second, .val (.long t0), .second, .val (.long t1), .second, .val (.long q2), .second, .val (.long r2), .second, .val (.long t2), .second] [])
          refine Dn.st (fun t q => XS.lload X0.here hx rfl (hb hby d1_81) rfl  q) ?_
          show Dn p e below s _ _ _ s₁ (mkF m 83 #[.val (.long y1), .second, .val (.long y2), .second, .val (.long r0), .second, .val (.long r1), .second, .val (.long t0), .second, .val (.long t1), .second, .val (.long q2), .second, .val (.long r2), .second, .val (.long t2), .second] [(.long t0)])
          exact Dn.retJ X0 hx Bd.notSynchronized Bd.returns (hb hby d1_83) (by rw [e0]; exact ⟨_, rfl, N0, rfl, own_endp hI (own_zero hI hk) hc⟩) (by decide) (by decide)
      | succ k ih =>
        intro r0 r1 t0 t1 q2 r2 t2 hI hk
        refine Dn.st (fun t q => XS.lload X0.here hx rfl (hb hby d1_14) rfl  q) ?_
        show Dn p e below s _ _ _ s₁ (mkF m 16 #[.val (.long y1), .second, .val (.long y2), .second, .val (.long r0), .second, .val (.long r1), .second, .val (.long t0), .second, .val (.long t1), .second, .val (.long q2), .second, .val (.long r2), .second, .val (.long t2), .second] [(.long r1)])
        refine Dn.st (fun t q => XS.lconst X0.here hx rfl (hb hby d1_16) q) ?_
        show Dn p e below s _ _ _ s₁ (mkF m 17 #[.val (.long y1), .second, .val (.long y2), .second, .val (.long r0), .second, .val (.long r1), .second, .val (.long t0), .second, .val (.long t1), .second, .val (.long q2), .second, .val (.long r2), .second, .val (.long t2), .second] [(.long (0 : Int64)), (.long r1)])
        refine Dn.st (fun t q => XS.lcmp X0.here hx rfl (hb hby d1_17) rfl q) ?_
        show Dn p e below s _ _ _ s₁ (mkF m 18 #[.val (.long y1), .second, .val (.long y2), .second, .val (.long r0), .second, .val (.long r1), .second, .val (.long t0), .second, .val (.long t1), .second, .val (.long q2), .second, .val (.long r2), .second, .val (.long t2), .second] [(.int (lcmpW r1 (0 : Int64)))])
        by_cases hz : r1 = (0 : Int64)
        · refine Dn.st (fun t q => XS.ifYes X0.here hx rfl (pc0 := 18) (pc' := 67) rfl (hb hby d1_18) rfl ((if0 _ _).trans (teq ((lw_eq _ _).mpr hz)).1) (by decide) (by decide) q) ?_
          show Dn p e below s _ _ _ s₁ (mkF m 67 #[.val (.long y1), .second, .val (.long y2), .second, .val (.long r0), .second, .val (.long r1), .second, .val (.long t0), .second, .val (.long t1), .second, .val (.long q2), .second, .val (.long r2), .second, .val (.long t2), .second] [])
          refine Dn.st (fun t q => XS.lload X0.here hx rfl (hb hby d1_67) rfl  q) ?_
          show Dn p e below s _ _ _ s₁ (mkF m 69 #[.val (.long y1), .second, .val (.long y2), .second, .val (.long r0), .second, .val (.long r1), .second, .val (.long t0), .second, .val (.long t1), .second, .val (.long q2), .second, .val (.long r2), .second, .val (.long t2), .second] [(.long t0)])
          refine Dn.st (fun t q => XS.lconst X0.here hx rfl (hb hby d1_69) q) ?_
          show Dn p e below s _ _ _ s₁ (mkF m 70 #[.val (.long y1), .second, .val (.long y2), .second, .val (.long r0), .second, .val (.long r1), .second, .val (.long t0), .second, .val (.long t1), .second, .val (.long q2), .second, .val (.long r2), .second, .val (.long t2), .second] [(.long (0 : Int64)), (.long t0)])
          refine Dn.st (fun t q => XS.lcmp X0.here hx rfl (hb hby d1_70) rfl q) ?_
          show Dn p e below s _ _ _ s₁ (mkF m 71 #[.val (.long y1), .second, .val (.long y2), .second, .val (.long r0), .second, .val (.long r1), .second, .val (.long t0), .second, .val (.long t1), .second, .val (.long q2), .second, .val (.long r2), .second, .val (.long t2), .second] [(.int (lcmpW t0 (0 : Int64)))])
          by_cases hc : t0 < (0 : Int64)
          · refine Dn.st (fun t q => XS.ifNo X0.here hx rfl (hb hby d1_71) rfl ((if0 _ _).trans (tlt ((lw_lt _ _).mpr hc)).2.1) q) ?_
            show Dn p e below s _ _ _ s₁ (mkF m 74 #[.val (.long y1), .second, .val (.long y2), .second, .val (.long r0), .second, .val (.long r1), .second, .val (.long t0), .second, .val (.long t1), .second, .val (.long q2), .second, .val (.long r2), .second, .val (.long t2), .second] [])
            refine Dn.st (fun t q => XS.lload X0.here hx rfl (hb hby d1_74) rfl  q) ?_
            show Dn p e below s _ _ _ s₁ (mkF m 76 #[.val (.long y1), .second, .val (.long y2), .second, .val (.long r0), .second, .val (.long r1), .second, .val (.long t0), .second, .val (.long t1), .second, .val (.long q2), .second, .val (.long r2), .second, .val (.long t2), .second] [(.long t0)])
            refine Dn.st (fun t q => XS.lloadN X0.here hx rfl (hb hby d1_76) rfl  q) ?_
            show Dn p e below s _ _ _ s₁ (mkF m 77 #[.val (.long y1), .second, .val (.long y2), .second, .val (.long r0), .second, .val (.long r1), .second, .val (.long t0), .second, .val (.long t1), .second, .val (.long q2), .second, .val (.long r2), .second, .val (.long t2), .second] [(.long y2), (.long t0)])
            refine Dn.st (fun t q => XS.ladd X0.here hx rfl (hb hby d1_77) rfl q) ?_
            show Dn p e below s _ _ _ s₁ (mkF m 78 #[.val (.long y1), .second, .val (.long y2), .second, .val (.long r0), .second, .val (.long r1), .second, .val (.long t0), .second, .val (.long t1), .second, .val (.long q2), .second, .val (.long r2), .second, .val (.long t2), .second] [(.long (t0 + y2))])
            refine Dn.st (fun t q => XS.goto X0.here hx rfl (pc0 := 78) (pc' := 83) rfl (hb hby d1_78) (by decide) (by decide) q) ?_
            show Dn p e below s _ _ _ s₁ (mkF m 83 #[.val (.long y1), .second, .val (.long y2), .second, .val (.long r0), .second, .val (.long r1), .second, .val (.long t0), .second, .val (.long t1), .second, .val (.long q2), .second, .val (.long r2), .second, .val (.long t2), .second] [(.long (t0 + y2))])
            exact Dn.retJ X0 hx Bd.notSynchronized Bd.returns (hb hby d1_83) (by rw [e0]; exact ⟨_, rfl, N0, rfl, own_endn hI hz hc⟩) (by decide) (by decide)
          · refine Dn.st (fun t q => XS.ifYes X0.here hx rfl (pc0 := 71) (pc' := 81) rfl (hb hby d1_71) rfl ((if0 _ _).trans (flt (mt (lw_lt _ _).mp hc)).2.1) (by decide) (by decide) q) ?_
            show Dn p e below s _ _ _ s₁ (mkF m 81 #[.val (.long y1), .second, .val (.long y2), .second, .val (.long r0), .second, .val (.long r1), .second, .val (.long t0), .second, .val (.long t1), .second, .val (.long q2), .second, .val (.long r2), .second, .val (.long t2), .second] [])
            refine Dn.st (fun t q => XS.lload X0.here hx rfl (hb hby d1_81) rfl  q) ?_
            show Dn p e below s _ _ _ s₁ (mkF m 83 #[.val (.long y1), .second, .val (.long y2), .second, .val (.long r0), .second, .val (.long r1), .second, .val (.long t0), .second, .val (.long t1), .second, .val (.long q2), .second, .val (.long r2), .second, .val (.long t2), .second] [(.long t0)])
            exact Dn.retJ X0 hx Bd.notSynchronized Bd.returns (hb hby d1_83) (by rw [e0]; exact ⟨_, rfl, N0, rfl, own_endp hI hz hc⟩) (by decide) (by decide)
        · refine Dn.st (fun t q => XS.ifNo X0.here hx rfl (hb hby d1_18) rfl ((if0 _ _).trans (feq (mt (lw_eq _ _).mp hz)).1) q) ?_
          show Dn p e below s _ _ _ s₁ (mkF m 21 #[.val (.long y1), .second, .val (.long y2), .second, .val (.long r0), .second, .val (.long r1), .second, .val (.long t0), .second, .val (.long t1), .second, .val (.long q2), .second, .val (.long r2), .second, .val (.long t2), .second] [])
          refine Dn.st (fun t q => XS.lload X0.here hx rfl (hb hby d1_21) rfl  q) ?_
          show Dn p e below s _ _ _ s₁ (mkF m 23 #[.val (.long y1), .second, .val (.long y2), .second, .val (.long r0), .second, .val (.long r1), .second, .val (.long t0), .second, .val (.long t1), .second, .val (.long q2), .second, .val (.long r2), .second, .val (.long t2), .second] [(.long r0)])
          refine Dn.st (fun t q => XS.lload X0.here hx rfl (hb hby d1_23) rfl  q) ?_
          show Dn p e below s _ _ _ s₁ (mkF m 25 #[.val (.long y1), .second, .val (.long y2), .second, .val (.long r0), .second, .val (.long r1), .second, .val (.long t0), .second, .val (.long t1), .second, .val (.long q2), .second, .val (.long r2), .second, .val (.long t2), .second] [(.long r1), (.long r0)])
          refine Dn.st (fun t q => XS.ldiv X0.here hx rfl (hb hby d1_25) rfl hz q) ?_
          show Dn p e below s _ _ _ s₁ (mkF m 26 #[.val (.long y1), .second, .val (.long y2), .second, .val (.long r0), .second, .val (.long r1), .second, .val (.long t0), .second, .val (.long t1), .second, .val (.long q2), .second, .val (.long r2), .second, .val (.long t2), .second] [(.long (r0 / r1))])
          refine Dn.st (fun t q => XS.lstore X0.here hx rfl (hb hby d1_26) rfl (l' := #[.val (.long y1), .second, .val (.long y2), .second, .val (.long r0), .second, .val (.long r1), .second, .val (.long t0), .second, .val (.long t1), .second, .val (.long (r0 / r1)), .second, .val (.long r2), .second, .val (.long t2), .second]) rfl q) ?_
          show Dn p e below s _ _ _ s₁ (mkF m 28 #[.val (.long y1), .second, .val (.long y2), .second, .val (.long r0), .second, .val (.long r1), .second, .val (.long t0), .second, .val (.long t1), .second, .val (.long (r0 / r1)), .second, .val (.long r2), .second, .val (.long t2), .second] [])
          refine Dn.st (fun t q => XS.lload X0.here hx rfl (hb hby d1_28) rfl  q) ?_
          show Dn p e below s _ _ _ s₁ (mkF m 30 #[.val (.long y1), .second, .val (.long y2), .second, .val (.long r0), .second, .val (.long r1), .second, .val (.long t0), .second, .val (.long t1), .second, .val (.long (r0 / r1)), .second, .val (.long r2), .second, .val (.long t2), .second] [(.long r0)])
          refine Dn.st (fun t q => XS.lload X0.here hx rfl (hb hby d1_30) rfl  q) ?_
          show Dn p e below s _ _ _ s₁ (mkF m 32 #[.val (.long y1), .second, .val (.long y2), .second, .val (.long r0), .second, .val (.long r1), .second, .val (.long t0), .second, .val (.long t1), .second, .val (.long (r0 / r1)), .second, .val (.long r2), .second, .val (.long t2), .second] [(.long (r0 / r1)), (.long r0)])
          refine Dn.st (fun t q => XS.lload X0.here hx rfl (hb hby d1_32) rfl  q) ?_
          show Dn p e below s _ _ _ s₁ (mkF m 34 #[.val (.long y1), .second, .val (.long y2), .second, .val (.long r0), .second, .val (.long r1), .second, .val (.long t0), .second, .val (.long t1), .second, .val (.long (r0 / r1)), .second, .val (.long r2), .second, .val (.long t2), .second] [(.long r1), (.long (r0 / r1)), (.long r0)])
          refine Dn.st (fun t q => XS.lmul X0.here hx rfl (hb hby d1_34) rfl q) ?_
          show Dn p e below s _ _ _ s₁ (mkF m 35 #[.val (.long y1), .second, .val (.long y2), .second, .val (.long r0), .second, .val (.long r1), .second, .val (.long t0), .second, .val (.long t1), .second, .val (.long (r0 / r1)), .second, .val (.long r2), .second, .val (.long t2), .second] [(.long ((r0 / r1) * r1)), (.long r0)])
          refine Dn.st (fun t q => XS.lsub X0.here hx rfl (hb hby d1_35) rfl q) ?_
          show Dn p e below s _ _ _ s₁ (mkF m 36 #[.val (.long y1), .second, .val (.long y2), .second, .val (.long r0), .second, .val (.long r1), .second, .val (.long t0), .second, .val (.long t1), .second, .val (.long (r0 / r1)), .second, .val (.long r2), .second, .val (.long t2), .second] [(.long (r0 - ((r0 / r1) * r1)))])
          refine Dn.st (fun t q => XS.lstore X0.here hx rfl (hb hby d1_36) rfl (l' := #[.val (.long y1), .second, .val (.long y2), .second, .val (.long r0), .second, .val (.long r1), .second, .val (.long t0), .second, .val (.long t1), .second, .val (.long (r0 / r1)), .second, .val (.long (r0 - ((r0 / r1) * r1))), .second, .val (.long t2), .second]) rfl q) ?_
          show Dn p e below s _ _ _ s₁ (mkF m 38 #[.val (.long y1), .second, .val (.long y2), .second, .val (.long r0), .second, .val (.long r1), .second, .val (.long t0), .second, .val (.long t1), .second, .val (.long (r0 / r1)), .second, .val (.long (r0 - ((r0 / r1) * r1))), .second, .val (.long t2), .second] [])
          refine Dn.st (fun t q => XS.lload X0.here hx rfl (hb hby d1_38) rfl  q) ?_
          show Dn p e below s _ _ _ s₁ (mkF m 40 #[.val (.long y1), .second, .val (.long y2), .second, .val (.long r0), .second, .val (.long r1), .second, .val (.long t0), .second, .val (.long t1), .second, .val (.long (r0 / r1)), .second, .val (.long (r0 - ((r0 / r1) * r1))), .second, .val (.long t2), .second] [(.long r1)])
          refine Dn.st (fun t q => XS.lstore X0.here hx rfl (hb hby d1_40) rfl (l' := #[.val (.long y1), .second, .val (.long y2), .second, .val (.long r1), .second, .val (.long r1), .second, .val (.long t0), .second, .val (.long t1), .second, .val (.long (r0 / r1)), .second, .val (.long (r0 - ((r0 / r1) * r1))), .second, .val (.long t2), .second]) rfl q) ?_
          show Dn p e below s _ _ _ s₁ (mkF m 42 #[.val (.long y1), .second, .val (.long y2), .second, .val (.long r1), .second, .val (.long r1), .second, .val (.long t0), .second, .val (.long t1), .second, .val (.long (r0 / r1)), .second, .val (.long (r0 - ((r0 / r1) * r1))), .second, .val (.long t2), .second] [])
          refine Dn.st (fun t q => XS.lload X0.here hx rfl (hb hby d1_42) rfl  q) ?_
          show Dn p e below s _ _ _ s₁ (mkF m 44 #[.val (.long y1), .second, .val (.long y2), .second, .val (.long r1), .second, .val (.long r1), .second, .val (.long t0), .second, .val (.long t1), .second, .val (.long (r0 / r1)), .second, .val (.long (r0 - ((r0 / r1) * r1))), .second, .val (.long t2), .second] [(.long (r0 - ((r0 / r1) * r1)))])
          refine Dn.st (fun t q => XS.lstore X0.here hx rfl (hb hby d1_44) rfl (l' := #[.val (.long y1), .second, .val (.long y2), .second, .val (.long r1), .second, .val (.long (r0 - ((r0 / r1) * r1))), .second, .val (.long t0), .second, .val (.long t1), .second, .val (.long (r0 / r1)), .second, .val (.long (r0 - ((r0 / r1) * r1))), .second, .val (.long t2), .second]) rfl q) ?_
          show Dn p e below s _ _ _ s₁ (mkF m 46 #[.val (.long y1), .second, .val (.long y2), .second, .val (.long r1), .second, .val (.long (r0 - ((r0 / r1) * r1))), .second, .val (.long t0), .second, .val (.long t1), .second, .val (.long (r0 / r1)), .second, .val (.long (r0 - ((r0 / r1) * r1))), .second, .val (.long t2), .second] [])
          refine Dn.st (fun t q => XS.lload X0.here hx rfl (hb hby d1_46) rfl  q) ?_
          show Dn p e below s _ _ _ s₁ (mkF m 48 #[.val (.long y1), .second, .val (.long y2), .second, .val (.long r1), .second, .val (.long (r0 - ((r0 / r1) * r1))), .second, .val (.long t0), .second, .val (.long t1), .second, .val (.long (r0 / r1)), .second, .val (.long (r0 - ((r0 / r1) * r1))), .second, .val (.long t2), .second] [(.long t0)])
          refine Dn.st (fun t q => XS.lload X0.here hx rfl (hb hby d1_48) rfl  q) ?_
          show Dn p e below s _ _ _ s₁ (mkF m 50 #[.val (.long y1), .second, .val (.long y2), .second, .val (.long r1), .second, .val (.long (r0 - ((r0 / r1) * r1))), .second, .val (.long t0), .second, .val (.long t1), .second, .val (.long (r0 / r1)), .second, .val (.long (r0 - ((r0 / r1) * r1))), .second, .val (.long t2), .second] [(.long (r0 / r1)), (.long t0)])
          refine Dn.st (fun t q => XS.lload X0.here hx rfl (hb hby d1_50) rfl  q) ?_
          show Dn p e below s _ _ _ s₁ (mkF m 52 #[.val (.long y1), .second, .val (.long y2), .second, .val (.long r1), .second, .val (.long (r0 - ((r0 / r1) * r1))), .second, .val (.long t0), .second, .val (.long t1), .second, .val (.long (r0 / r1)), .second, .val (.long (r0 - ((r0 / r1) * r1))), .second, .val (.long t2), .second] [(.long t1), (.long (r0 / r1)), (.long t0)])
          refine Dn.st (fun t q => XS.lmul X0.here hx rfl (hb hby d1_52) rfl q) ?_
          show Dn p e below s _ _ _ s₁ (mkF m 53 #[.val (.long y1), .second, .val (.long y2), .second, .val (.long r1), .second, .val (.long (r0 - ((r0 / r1) * r1))), .second, .val (.long t0), .second, .val (.long t1), .second, .val (.long (r0 / r1)), .second, .val (.long (r0 - ((r0 / r1) * r1))), .second, .val (.long t2), .second] [(.long ((r0 / r1) * t1)), (.long t0)])
          refine Dn.st (fun t q => XS.lsub X0.here hx rfl (hb hby d1_53) rfl q) ?_
          show Dn p e below s _ _ _ s₁ (mkF m 54 #[.val (.long y1), .second, .val (.long y2), .second, .val (.long r1), .second, .val (.long (r0 - ((r0 / r1) * r1))), .second, .val (.long t0), .second, .val (.long t1), .second, .val (.long (r0 / r1)), .second, .val (.long (r0 - ((r0 / r1) * r1))), .second, .val (.long t2), .second] [(.long (t0 - ((r0 / r1) * t1)))])
          refine Dn.st (fun t q => XS.lstore X0.here hx rfl (hb hby d1_54) rfl (l' := #[.val (.long y1), .second, .val (.long y2), .second, .val (.long r1), .second, .val (.long (r0 - ((r0 / r1) * r1))), .second, .val (.long t0), .second, .val (.long t1), .second, .val (.long (r0 / r1)), .second, .val (.long (r0 - ((r0 / r1) * r1))), .second, .val (.long (t0 - ((r0 / r1) * t1))), .second]) rfl q) ?_
          show Dn p e below s _ _ _ s₁ (mkF m 56 #[.val (.long y1), .second, .val (.long y2), .second, .val (.long r1), .second, .val (.long (r0 - ((r0 / r1) * r1))), .second, .val (.long t0), .second, .val (.long t1), .second, .val (.long (r0 / r1)), .second, .val (.long (r0 - ((r0 / r1) * r1))), .second, .val (.long (t0 - ((r0 / r1) * t1))), .second] [])
          refine Dn.st (fun t q => XS.lload X0.here hx rfl (hb hby d1_56) rfl  q) ?_
          show Dn p e below s _ _ _ s₁ (mkF m 58 #[.val (.long y1), .second, .val (.long y2), .second, .val (.long r1), .second, .val (.long (r0 - ((r0 / r1) * r1))), .second, .val (.long t0), .second, .val (.long t1), .second, .val (.long (r0 / r1)), .second, .val (.long (r0 - ((r0 / r1) * r1))), .second, .val (.long (t0 - ((r0 / r1) * t1))), .second] [(.long t1)])
          refine Dn.st (fun t q => XS.lstore X0.here hx rfl (hb hby d1_58) rfl (l' := #[.val (.long y1), .second, .val (.long y2), .second, .val (.long r1), .second, .val (.long (r0 - ((r0 / r1) * r1))), .second, .val (.long t1), .second, .val (.long t1), .second, .val (.long (r0 / r1)), .second, .val (.long (r0 - ((r0 / r1) * r1))), .second, .val (.long (t0 - ((r0 / r1) * t1))), .second]) rfl q) ?_
          show Dn p e below s _ _ _ s₁ (mkF m 60 #[.val (.long y1), .second, .val (.long y2), .second, .val (.long r1), .second, .val (.long (r0 - ((r0 / r1) * r1))), .second, .val (.long t1), .second, .val (.long t1), .second, .val (.long (r0 / r1)), .second, .val (.long (r0 - ((r0 / r1) * r1))), .second, .val (.long (t0 - ((r0 / r1) * t1))), .second] [])
          refine Dn.st (fun t q => XS.lload X0.here hx rfl (hb hby d1_60) rfl  q) ?_
          show Dn p e below s _ _ _ s₁ (mkF m 62 #[.val (.long y1), .second, .val (.long y2), .second, .val (.long r1), .second, .val (.long (r0 - ((r0 / r1) * r1))), .second, .val (.long t1), .second, .val (.long t1), .second, .val (.long (r0 / r1)), .second, .val (.long (r0 - ((r0 / r1) * r1))), .second, .val (.long (t0 - ((r0 / r1) * t1))), .second] [(.long (t0 - ((r0 / r1) * t1)))])
          refine Dn.st (fun t q => XS.lstore X0.here hx rfl (hb hby d1_62) rfl (l' := #[.val (.long y1), .second, .val (.long y2), .second, .val (.long r1), .second, .val (.long (r0 - ((r0 / r1) * r1))), .second, .val (.long t1), .second, .val (.long (t0 - ((r0 / r1) * t1))), .second, .val (.long (r0 / r1)), .second, .val (.long (r0 - ((r0 / r1) * r1))), .second, .val (.long (t0 - ((r0 / r1) * t1))), .second]) rfl q) ?_
          show Dn p e below s _ _ _ s₁ (mkF m 64 #[.val (.long y1), .second, .val (.long y2), .second, .val (.long r1), .second, .val (.long (r0 - ((r0 / r1) * r1))), .second, .val (.long t1), .second, .val (.long (t0 - ((r0 / r1) * t1))), .second, .val (.long (r0 / r1)), .second, .val (.long (r0 - ((r0 / r1) * r1))), .second, .val (.long (t0 - ((r0 / r1) * t1))), .second] [])
          refine Dn.st (fun t q => XS.goto X0.here hx rfl (pc0 := 64) (pc' := 14) rfl (hb hby d1_64) (by decide) (by decide) q) ?_
          show Dn p e below s _ _ _ s₁ (mkF m 14 #[.val (.long y1), .second, .val (.long y2), .second, .val (.long r1), .second, .val (.long (r0 - ((r0 / r1) * r1))), .second, .val (.long t1), .second, .val (.long (t0 - ((r0 / r1) * t1))), .second, .val (.long (r0 / r1)), .second, .val (.long (r0 - ((r0 / r1) * r1))), .second, .val (.long (t0 - ((r0 / r1) * t1))), .second] [])
          exact ih r1 (r0 - ((r0 / r1) * r1)) t1 (t0 - ((r0 / r1) * t1)) (r0 / r1) (r0 - ((r0 / r1) * r1)) (t0 - ((r0 / r1) * t1)) (own_step hI hz) (own_less hI hz hk)
    exact lp _ ar (y2 - ((y2 / ar) * ar)) (1 : Int64) ((0 : Int64) - ((y2 / ar) * (1 : Int64))) (y2 / ar) (y2 - ((y2 / ar) * ar)) ((0 : Int64) - ((y2 / ar) * (1 : Int64))) hI1 (own_big _)
theorem pd_0 : parseMethodDescriptor "(JJ)J" = some ⟨[.long, .long], some .long⟩ := by decide +kernel
theorem pn_1 : plainName "com/example/tideway/tideway/NumberTheoryInverseModuloPinLaw" = true := by first | (simp [plainName, overriddenIn]; done) | decide +kernel
theorem ef_rm0 (m : MethodId) (x0 : Int64) (x1 : Int64) (x2 : Int32) : entryFrame m #[(.long x0), (.long x1), (.int x2)] maxLocals = mkF m 0 #[.val (.long x0), .second, .val (.long x1), .second, .val (.int x2), .unset, .unset, .unset, .unset, .unset, .unset, .unset, .unset, .unset, .unset, .unset, .unset] [] := by first | (simp [entryFrame, mkF, argsToLocals, Value.category, maxLocals]; done) | rfl
def Q0 (Z : State) (y1 : Int64) (y2 : Int64) (x3 : Int32) (h0 : Heap) (n0 : Nat) (v : Option Value) (h : Heap) (L : List Loc) : Prop := v = some (.int 1) ∧ Fr n0 L
set_option maxRecDepth 65536 in
set_option maxHeartbeats 40000000 in
theorem rm0 (l : Launch) (Z : State) (a0 : Array Value) (hw : ∀ d ∈ tables_1, d.before a0 Z = true) (ws : List Jvm.Cond) (y1 : Int64) (y2 : Int64) (x3 : Int32) (h0 : Heap) (n0 : Nat) (Z0 : n0 ≤ h0.size) :
    MetFree l x (head1 (Jvm.Cond.code x code maxLocals ret :: ws) room_1) (fun a U => a = #[(.long y1), (.long y2), (.int x3)] ∧ Z.Warmed39 U.vm ∧ U.heap = h0) (fun _ _ _ _ _ => True) (fun _ U o U' => ∃ v L, o = .returned v ∧ Q0 Z y1 y2 x3 h0 n0 v U'.heap L ∧ FrameEnd U o U' L 0 0) := by
  refine MetFree.of_bodySF (plainFor_of_name pn_1) hisR ?_
  intro p e s m args below meth c s₁ Bd hml0 hP hK
  obtain ⟨rfl, hZ, hh⟩ := hP
  have hx := Bd.exec
  have hby := Bd.bytes
  have hml : c.maxLocals = 17 := hml0
  have hown : s.vm.findClass "com/example/tideway/tideway/NumberTheoryInverseModuloPinLaw" = some m.cls := findClass_of_methodNamed Bd.named
  have hnm := (name_of_methodNamed Bd.named Bd.method).1
  have X0 : Stand p l e room_1 s m #[(.long y1), (.long y2), (.int x3)] below meth c s₁ [] 0 0 := Stand.of_body Bd
  have e0 : s₁.heap = h0 := by rw [← hh, Bd.state]; rfl
  have N0 := Fr.nil n0
  have K0 := Keep.refl h0 []
  suffices hD : Dn p e below s (Q0 Z y1 y2 x3 h0 n0) 0 0 s₁ (mkF m 0 #[.val (.long y1), .second, .val (.long y2), .second, .val (.int x3), .unset, .unset, .unset, .unset, .unset, .unset, .unset, .unset, .unset, .unset, .unset, .unset] []) from by
    obtain ⟨s₂, o, q1, q2⟩ := hD
    exact ⟨s₂, o, castTop (ef_rm0 m y1 y2 x3) q1, q2⟩
  refine Dn.st (fun t q => XS.iload X0.here hx rfl (hb hby at_0) rfl  q) ?_
  show Dn p e below s _ _ _ s₁ (mkF m 2 #[.val (.long y1), .second, .val (.long y2), .second, .val (.int x3), .unset, .unset, .unset, .unset, .unset, .unset, .unset, .unset, .unset, .unset, .unset, .unset] [(.int x3)])
  refine Dn.st (fun t q => XS.iconst X0.here hx rfl (hb hby at_2) q) ?_
  show Dn p e below s _ _ _ s₁ (mkF m 3 #[.val (.long y1), .second, .val (.long y2), .second, .val (.int x3), .unset, .unset, .unset, .unset, .unset, .unset, .unset, .unset, .unset, .unset, .unset, .unset] [(.int (1 : Int32)), (.int x3)])
  refine Dn.st (fun t q => XS.iand X0.here hx rfl (hb hby at_3) rfl q) ?_
  show Dn p e below s _ _ _ s₁ (mkF m 4 #[.val (.long y1), .second, .val (.long y2), .second, .val (.int x3), .unset, .unset, .unset, .unset, .unset, .unset, .unset, .unset, .unset, .unset, .unset, .unset] [(.int (x3 &&& (1 : Int32)))])
  by_cases hmode : (x3 &&& (1 : Int32)) = (0 : Int32)
  · refine Dn.st (fun t q => XS.ifNo X0.here hx rfl (hb hby at_4) rfl ((if0 _ _).trans (teq hmode).2) q) ?_
    show Dn p e below s _ _ _ s₁ (mkF m 7 #[.val (.long y1), .second, .val (.long y2), .second, .val (.int x3), .unset, .unset, .unset, .unset, .unset, .unset, .unset, .unset, .unset, .unset, .unset, .unset] [])
    refine Dn.st (fun t q => XS.lloadN X0.here hx rfl (hb hby at_7) rfl  q) ?_
    show Dn p e below s _ _ _ s₁ (mkF m 8 #[.val (.long y1), .second, .val (.long y2), .second, .val (.int x3), .unset, .unset, .unset, .unset, .unset, .unset, .unset, .unset, .unset, .unset, .unset, .unset] [(.long y2)])
    refine Dn.st (X0.ldc2Long hx hown (mvT hZ (hw _ (List.mem_of_getElem? (i := 0) rfl))) (g := (mkF m 8 #[.val (.long y1), .second, .val (.long y2), .second, .val (.int x3), .unset, .unset, .unset, .unset, .unset, .unset, .unset, .unset, .unset, .unset, .unset, .unset] [(.long y2)])) rfl (hb hby at_8)) ?_
    show Dn p e below s _ _ _ s₁ (mkF m 11 #[.val (.long y1), .second, .val (.long y2), .second, .val (.int x3), .unset, .unset, .unset, .unset, .unset, .unset, .unset, .unset, .unset, .unset, .unset, .unset] [(.long (2147483647 : Int64)), (.long y2)])
    refine Dn.st (fun t q => XS.land X0.here hx rfl (hb hby at_11) rfl q) ?_
    show Dn p e below s _ _ _ s₁ (mkF m 12 #[.val (.long y1), .second, .val (.long y2), .second, .val (.int x3), .unset, .unset, .unset, .unset, .unset, .unset, .unset, .unset, .unset, .unset, .unset, .unset] [(.long (y2 &&& (2147483647 : Int64)))])
    refine Dn.st (fun t q => XS.lconst X0.here hx rfl (hb hby at_12) q) ?_
    show Dn p e below s _ _ _ s₁ (mkF m 13 #[.val (.long y1), .second, .val (.long y2), .second, .val (.int x3), .unset, .unset, .unset, .unset, .unset, .unset, .unset, .unset, .unset, .unset, .unset, .unset] [(.long (1 : Int64)), (.long (y2 &&& (2147483647 : Int64)))])
    refine Dn.st (fun t q => XS.ladd X0.here hx rfl (hb hby at_13) rfl q) ?_
    show Dn p e below s _ _ _ s₁ (mkF m 14 #[.val (.long y1), .second, .val (.long y2), .second, .val (.int x3), .unset, .unset, .unset, .unset, .unset, .unset, .unset, .unset, .unset, .unset, .unset, .unset] [(.long ((y2 &&& (2147483647 : Int64)) + (1 : Int64)))])
    generalize hmm : ((y2 &&& (2147483647 : Int64)) + (1 : Int64)) = mm
    show Dn p e below s _ _ _ s₁ (mkF m 14 #[.val (.long y1), .second, .val (.long y2), .second, .val (.int x3), .unset, .unset, .unset, .unset, .unset, .unset, .unset, .unset, .unset, .unset, .unset, .unset] [(.long mm)])
    have hm := own_m32 hmm
    refine Dn.st (fun t q => XS.lstore X0.here hx rfl (hb hby at_14) rfl (l' := #[.val (.long y1), .second, .val (.long y2), .second, .val (.int x3), .val (.long mm), .second, .unset, .unset, .unset, .unset, .unset, .unset, .unset, .unset, .unset, .unset]) rfl q) ?_
    show Dn p e below s _ _ _ s₁ (mkF m 16 #[.val (.long y1), .second, .val (.long y2), .second, .val (.int x3), .val (.long mm), .second, .unset, .unset, .unset, .unset, .unset, .unset, .unset, .unset, .unset, .unset] [])
    refine Dn.st (fun t q => XS.lloadN X0.here hx rfl (hb hby at_16) rfl  q) ?_
    show Dn p e below s _ _ _ s₁ (mkF m 17 #[.val (.long y1), .second, .val (.long y2), .second, .val (.int x3), .val (.long mm), .second, .unset, .unset, .unset, .unset, .unset, .unset, .unset, .unset, .unset, .unset] [(.long y1)])
    refine Dn.st (X0.ldc2Long hx hown (mvT hZ (hw _ (List.mem_of_getElem? (i := 1) rfl))) (g := (mkF m 17 #[.val (.long y1), .second, .val (.long y2), .second, .val (.int x3), .val (.long mm), .second, .unset, .unset, .unset, .unset, .unset, .unset, .unset, .unset, .unset, .unset] [(.long y1)])) rfl (hb hby at_17)) ?_
    show Dn p e below s _ _ _ s₁ (mkF m 20 #[.val (.long y1), .second, .val (.long y2), .second, .val (.int x3), .val (.long mm), .second, .unset, .unset, .unset, .unset, .unset, .unset, .unset, .unset, .unset, .unset] [(.long (9223372036854775807 : Int64)), (.long y1)])
    refine Dn.st (fun t q => XS.land X0.here hx rfl (hb hby at_20) rfl q) ?_
    show Dn p e below s _ _ _ s₁ (mkF m 21 #[.val (.long y1), .second, .val (.long y2), .second, .val (.int x3), .val (.long mm), .second, .unset, .unset, .unset, .unset, .unset, .unset, .unset, .unset, .unset, .unset] [(.long (y1 &&& (9223372036854775807 : Int64)))])
    generalize haa : (y1 &&& (9223372036854775807 : Int64)) = aa
    show Dn p e below s _ _ _ s₁ (mkF m 21 #[.val (.long y1), .second, .val (.long y2), .second, .val (.int x3), .val (.long mm), .second, .unset, .unset, .unset, .unset, .unset, .unset, .unset, .unset, .unset, .unset] [(.long aa)])
    have ha := own_max haa
    refine Dn.st (fun t q => XS.lstore X0.here hx rfl (hb hby at_21) rfl (l' := #[.val (.long y1), .second, .val (.long y2), .second, .val (.int x3), .val (.long mm), .second, .val (.long aa), .second, .unset, .unset, .unset, .unset, .unset, .unset, .unset, .unset]) rfl q) ?_
    show Dn p e below s _ _ _ s₁ (mkF m 23 #[.val (.long y1), .second, .val (.long y2), .second, .val (.int x3), .val (.long mm), .second, .val (.long aa), .second, .unset, .unset, .unset, .unset, .unset, .unset, .unset, .unset] [])
    refine Dn.st (fun t q => XS.lload X0.here hx rfl (hb hby at_23) rfl  q) ?_
    show Dn p e below s _ _ _ s₁ (mkF m 25 #[.val (.long y1), .second, .val (.long y2), .second, .val (.int x3), .val (.long mm), .second, .val (.long aa), .second, .unset, .unset, .unset, .unset, .unset, .unset, .unset, .unset] [(.long aa)])
    refine Dn.st (fun t q => XS.lload X0.here hx rfl (hb hby at_25) rfl  q) ?_
    show Dn p e below s _ _ _ s₁ (mkF m 27 #[.val (.long y1), .second, .val (.long y2), .second, .val (.int x3), .val (.long mm), .second, .val (.long aa), .second, .unset, .unset, .unset, .unset, .unset, .unset, .unset, .unset] [(.long mm), (.long aa)])
    obtain ⟨_, _, ⟨T1, Lq1, kq_1, nq_1⟩, -, X1, ⟨Lc1, hQ1, lq1, yq1, zq1⟩, st1⟩ := Jvm.LawKit.callS X0 hx (y := (⟨"com/example/tideway/tideway/NumberTheory", "inverseModulo", "(JJ)J"⟩ : MethodName)) hown (mvT hZ (hw _ (List.mem_of_getElem? (i := 2) rfl))) (mvT hZ (hw _ (List.mem_of_getElem? (i := 3) rfl))) (mvT hZ (hw _ (List.mem_of_getElem? (i := 4) rfl))) (mvT hZ (hw _ (List.mem_of_getElem? (i := 5) rfl))) (by decide) (backOf (W := 0) (rm1 l Z a0 hw [] aa mm  h0 n0 Z0 ha hm) hZ (hw _ (List.mem_of_getElem? (i := 5) rfl)) (hw _ (List.mem_of_getElem? (i := 4) rfl)) (by decide) (by decide)) (g := (mkF m 27 #[.val (.long y1), .second, .val (.long y2), .second, .val (.int x3), .val (.long mm), .second, .val (.long aa), .second, .unset, .unset, .unset, .unset, .unset, .unset, .unset, .unset] [(.long mm), (.long aa)])) rfl (by rw [hml]; rfl) (argsL := [(.long aa), (.long mm)]) (rest := []) (lenOf pd_0 rfl) rfl (by show 2 * 0 + _ ≤ _; exact Nat.le_of_eq rfl) (hb hby at_27) (fun _ _ => ⟨rfl, e0, (by decide : 0 + 0 ≤ _), (by decide : 0 + 0 ≤ _)⟩)
    dsimp only [Pt.U, Pt.locs, Pt.cells, Pt.slots] at X1 lq1 yq1 zq1 st1 hQ1
    subst lq1 yq1 zq1
    obtain ⟨xx, rfl, N1q, hq1, hX⟩ := hQ1
    have N0 := Fr.app N0 N1q
    have e1 : T1.heap = h0 := hq1
    refine Dn.st st1 ?_
    show Dn p e below s _ _ _ T1 (mkF m 30 #[.val (.long y1), .second, .val (.long y2), .second, .val (.int x3), .val (.long mm), .second, .val (.long aa), .second, .unset, .unset, .unset, .unset, .unset, .unset, .unset, .unset] [(.long xx)])
    refine Dn.st (fun t q => XS.lstore X1.here hx rfl (hb hby at_30) rfl (l' := #[.val (.long y1), .second, .val (.long y2), .second, .val (.int x3), .val (.long mm), .second, .val (.long aa), .second, .val (.long xx), .second, .unset, .unset, .unset, .unset, .unset, .unset]) rfl q) ?_
    show Dn p e below s _ _ _ T1 (mkF m 32 #[.val (.long y1), .second, .val (.long y2), .second, .val (.int x3), .val (.long mm), .second, .val (.long aa), .second, .val (.long xx), .second, .unset, .unset, .unset, .unset, .unset, .unset] [])
    refine Dn.st (fun t q => XS.lload X1.here hx rfl (hb hby at_32) rfl  q) ?_
    show Dn p e below s _ _ _ T1 (mkF m 34 #[.val (.long y1), .second, .val (.long y2), .second, .val (.int x3), .val (.long mm), .second, .val (.long aa), .second, .val (.long xx), .second, .unset, .unset, .unset, .unset, .unset, .unset] [(.long xx)])
    refine Dn.st (fun t q => XS.lconst X1.here hx rfl (hb hby at_34) q) ?_
    show Dn p e below s _ _ _ T1 (mkF m 35 #[.val (.long y1), .second, .val (.long y2), .second, .val (.int x3), .val (.long mm), .second, .val (.long aa), .second, .val (.long xx), .second, .unset, .unset, .unset, .unset, .unset, .unset] [(.long (0 : Int64)), (.long xx)])
    refine Dn.st (fun t q => XS.lcmp X1.here hx rfl (hb hby at_35) rfl q) ?_
    show Dn p e below s _ _ _ T1 (mkF m 36 #[.val (.long y1), .second, .val (.long y2), .second, .val (.int x3), .val (.long mm), .second, .val (.long aa), .second, .val (.long xx), .second, .unset, .unset, .unset, .unset, .unset, .unset] [(.int (lcmpW xx (0 : Int64)))])
    refine Dn.st (fun t q => XS.ifNo X1.here hx rfl (hb hby at_36) rfl ((if0 _ _).trans (flt (mt (lw_lt _ _).mp (own_nlt hX))).1) q) ?_
    show Dn p e below s _ _ _ T1 (mkF m 39 #[.val (.long y1), .second, .val (.long y2), .second, .val (.int x3), .val (.long mm), .second, .val (.long aa), .second, .val (.long xx), .second, .unset, .unset, .unset, .unset, .unset, .unset] [])
    refine Dn.st (fun t q => XS.lload X1.here hx rfl (hb hby at_39) rfl  q) ?_
    show Dn p e below s _ _ _ T1 (mkF m 41 #[.val (.long y1), .second, .val (.long y2), .second, .val (.int x3), .val (.long mm), .second, .val (.long aa), .second, .val (.long xx), .second, .unset, .unset, .unset, .unset, .unset, .unset] [(.long xx)])
    refine Dn.st (fun t q => XS.lload X1.here hx rfl (hb hby at_41) rfl  q) ?_
    show Dn p e below s _ _ _ T1 (mkF m 43 #[.val (.long y1), .second, .val (.long y2), .second, .val (.int x3), .val (.long mm), .second, .val (.long aa), .second, .val (.long xx), .second, .unset, .unset, .unset, .unset, .unset, .unset] [(.long mm), (.long xx)])
    refine Dn.st (fun t q => XS.lcmp X1.here hx rfl (hb hby at_43) rfl q) ?_
    show Dn p e below s _ _ _ T1 (mkF m 44 #[.val (.long y1), .second, .val (.long y2), .second, .val (.int x3), .val (.long mm), .second, .val (.long aa), .second, .val (.long xx), .second, .unset, .unset, .unset, .unset, .unset, .unset] [(.int (lcmpW xx mm))])
    refine Dn.st (fun t q => XS.ifYes X1.here hx rfl (pc0 := 44) (pc' := 49) rfl (hb hby at_44) rfl ((if0 _ _).trans (tlt ((lw_lt _ _).mpr (own_ltm hX))).1) (by decide) (by decide) q) ?_
    show Dn p e below s _ _ _ T1 (mkF m 49 #[.val (.long y1), .second, .val (.long y2), .second, .val (.int x3), .val (.long mm), .second, .val (.long aa), .second, .val (.long xx), .second, .unset, .unset, .unset, .unset, .unset, .unset] [])
    refine Dn.st (fun t q => XS.lload X1.here hx rfl (hb hby at_49) rfl  q) ?_
    show Dn p e below s _ _ _ T1 (mkF m 51 #[.val (.long y1), .second, .val (.long y2), .second, .val (.int x3), .val (.long mm), .second, .val (.long aa), .second, .val (.long xx), .second, .unset, .unset, .unset, .unset, .unset, .unset] [(.long aa)])
    refine Dn.st (fun t q => XS.lload X1.here hx rfl (hb hby at_51) rfl  q) ?_
    show Dn p e below s _ _ _ T1 (mkF m 53 #[.val (.long y1), .second, .val (.long y2), .second, .val (.int x3), .val (.long mm), .second, .val (.long aa), .second, .val (.long xx), .second, .unset, .unset, .unset, .unset, .unset, .unset] [(.long mm), (.long aa)])
    refine Dn.st (fun t q => XS.lrem X1.here hx rfl (hb hby at_53) rfl (own_mnz hm) q) ?_
    show Dn p e below s _ _ _ T1 (mkF m 54 #[.val (.long y1), .second, .val (.long y2), .second, .val (.int x3), .val (.long mm), .second, .val (.long aa), .second, .val (.long xx), .second, .unset, .unset, .unset, .unset, .unset, .unset] [(.long (aa - (aa / mm) * mm))])
    generalize har : (aa - (aa / mm) * mm) = ar
    show Dn p e below s _ _ _ T1 (mkF m 54 #[.val (.long y1), .second, .val (.long y2), .second, .val (.int x3), .val (.long mm), .second, .val (.long aa), .second, .val (.long xx), .second, .unset, .unset, .unset, .unset, .unset, .unset] [(.long ar)])
    refine Dn.st (fun t q => XS.lstore X1.here hx rfl (hb hby at_54) rfl (l' := #[.val (.long y1), .second, .val (.long y2), .second, .val (.int x3), .val (.long mm), .second, .val (.long aa), .second, .val (.long xx), .second, .val (.long ar), .second, .unset, .unset, .unset, .unset]) rfl q) ?_
    show Dn p e below s _ _ _ T1 (mkF m 56 #[.val (.long y1), .second, .val (.long y2), .second, .val (.int x3), .val (.long mm), .second, .val (.long aa), .second, .val (.long xx), .second, .val (.long ar), .second, .unset, .unset, .unset, .unset] [])
    refine Dn.st (fun t q => XS.lload X1.here hx rfl (hb hby at_56) rfl  q) ?_
    show Dn p e below s _ _ _ T1 (mkF m 58 #[.val (.long y1), .second, .val (.long y2), .second, .val (.int x3), .val (.long mm), .second, .val (.long aa), .second, .val (.long xx), .second, .val (.long ar), .second, .unset, .unset, .unset, .unset] [(.long ar)])
    refine Dn.st (fun t q => XS.lload X1.here hx rfl (hb hby at_58) rfl  q) ?_
    show Dn p e below s _ _ _ T1 (mkF m 60 #[.val (.long y1), .second, .val (.long y2), .second, .val (.int x3), .val (.long mm), .second, .val (.long aa), .second, .val (.long xx), .second, .val (.long ar), .second, .unset, .unset, .unset, .unset] [(.long xx), (.long ar)])
    refine Dn.st (fun t q => XS.lmul X1.here hx rfl (hb hby at_60) rfl q) ?_
    show Dn p e below s _ _ _ T1 (mkF m 61 #[.val (.long y1), .second, .val (.long y2), .second, .val (.int x3), .val (.long mm), .second, .val (.long aa), .second, .val (.long xx), .second, .val (.long ar), .second, .unset, .unset, .unset, .unset] [(.long (ar * xx))])
    refine Dn.st (fun t q => XS.lload X1.here hx rfl (hb hby at_61) rfl  q) ?_
    show Dn p e below s _ _ _ T1 (mkF m 63 #[.val (.long y1), .second, .val (.long y2), .second, .val (.int x3), .val (.long mm), .second, .val (.long aa), .second, .val (.long xx), .second, .val (.long ar), .second, .unset, .unset, .unset, .unset] [(.long mm), (.long (ar * xx))])
    refine Dn.st (fun t q => XS.lrem X1.here hx rfl (hb hby at_63) rfl (own_mnz hm) q) ?_
    show Dn p e below s _ _ _ T1 (mkF m 64 #[.val (.long y1), .second, .val (.long y2), .second, .val (.int x3), .val (.long mm), .second, .val (.long aa), .second, .val (.long xx), .second, .val (.long ar), .second, .unset, .unset, .unset, .unset] [(.long ((ar * xx) - ((ar * xx) / mm) * mm))])
    generalize hrr : ((ar * xx) - ((ar * xx) / mm) * mm) = rr
    show Dn p e below s _ _ _ T1 (mkF m 64 #[.val (.long y1), .second, .val (.long y2), .second, .val (.int x3), .val (.long mm), .second, .val (.long aa), .second, .val (.long xx), .second, .val (.long ar), .second, .unset, .unset, .unset, .unset] [(.long rr)])
    refine Dn.st (fun t q => XS.lstore X1.here hx rfl (hb hby at_64) rfl (l' := #[.val (.long y1), .second, .val (.long y2), .second, .val (.int x3), .val (.long mm), .second, .val (.long aa), .second, .val (.long xx), .second, .val (.long ar), .second, .val (.long rr), .second, .unset, .unset]) rfl q) ?_
    show Dn p e below s _ _ _ T1 (mkF m 66 #[.val (.long y1), .second, .val (.long y2), .second, .val (.int x3), .val (.long mm), .second, .val (.long aa), .second, .val (.long xx), .second, .val (.long ar), .second, .val (.long rr), .second, .unset, .unset] [])
    refine Dn.st (fun t q => XS.lload X1.here hx rfl (hb hby at_66) rfl  q) ?_
    show Dn p e below s _ _ _ T1 (mkF m 68 #[.val (.long y1), .second, .val (.long y2), .second, .val (.int x3), .val (.long mm), .second, .val (.long aa), .second, .val (.long xx), .second, .val (.long ar), .second, .val (.long rr), .second, .unset, .unset] [(.long rr)])
    refine Dn.st (fun t q => XS.lconst X1.here hx rfl (hb hby at_68) q) ?_
    show Dn p e below s _ _ _ T1 (mkF m 69 #[.val (.long y1), .second, .val (.long y2), .second, .val (.int x3), .val (.long mm), .second, .val (.long aa), .second, .val (.long xx), .second, .val (.long ar), .second, .val (.long rr), .second, .unset, .unset] [(.long (1 : Int64)), (.long rr)])
    refine Dn.st (fun t q => XS.lload X1.here hx rfl (hb hby at_69) rfl  q) ?_
    show Dn p e below s _ _ _ T1 (mkF m 71 #[.val (.long y1), .second, .val (.long y2), .second, .val (.int x3), .val (.long mm), .second, .val (.long aa), .second, .val (.long xx), .second, .val (.long ar), .second, .val (.long rr), .second, .unset, .unset] [(.long mm), (.long (1 : Int64)), (.long rr)])
    refine Dn.st (fun t q => XS.lrem X1.here hx rfl (hb hby at_71) rfl (own_mnz hm) q) ?_
    show Dn p e below s _ _ _ T1 (mkF m 72 #[.val (.long y1), .second, .val (.long y2), .second, .val (.int x3), .val (.long mm), .second, .val (.long aa), .second, .val (.long xx), .second, .val (.long ar), .second, .val (.long rr), .second, .unset, .unset] [(.long ((1 : Int64) - ((1 : Int64) / mm) * mm)), (.long rr)])
    generalize hon : ((1 : Int64) - ((1 : Int64) / mm) * mm) = on
    show Dn p e below s _ _ _ T1 (mkF m 72 #[.val (.long y1), .second, .val (.long y2), .second, .val (.int x3), .val (.long mm), .second, .val (.long aa), .second, .val (.long xx), .second, .val (.long ar), .second, .val (.long rr), .second, .unset, .unset] [(.long on), (.long rr)])
    refine Dn.st (fun t q => XS.lcmp X1.here hx rfl (hb hby at_72) rfl q) ?_
    show Dn p e below s _ _ _ T1 (mkF m 73 #[.val (.long y1), .second, .val (.long y2), .second, .val (.int x3), .val (.long mm), .second, .val (.long aa), .second, .val (.long xx), .second, .val (.long ar), .second, .val (.long rr), .second, .unset, .unset] [(.int (lcmpW rr on))])
    have hE := own_even ha hm (own_mle hmm) hX har hrr hon
    by_cases h1 : rr = on
    · refine Dn.st (fun t q => XS.ifNo X1.here hx rfl (hb hby at_73) rfl ((if0 _ _).trans (teq ((lw_eq _ _).mpr h1)).2) q) ?_
      show Dn p e below s _ _ _ T1 (mkF m 76 #[.val (.long y1), .second, .val (.long y2), .second, .val (.int x3), .val (.long mm), .second, .val (.long aa), .second, .val (.long xx), .second, .val (.long ar), .second, .val (.long rr), .second, .unset, .unset] [])
      refine Dn.st (fun t q => XS.iconst X1.here hx rfl (hb hby at_76) q) ?_
      show Dn p e below s _ _ _ T1 (mkF m 77 #[.val (.long y1), .second, .val (.long y2), .second, .val (.int x3), .val (.long mm), .second, .val (.long aa), .second, .val (.long xx), .second, .val (.long ar), .second, .val (.long rr), .second, .unset, .unset] [(.int (1 : Int32))])
      exact Dn.retZ X1 hx Bd.notSynchronized (t := .boolean) Bd.returns (by simp) (hb hby at_77) (by rw [e1]; exact ⟨rfl, N0⟩) (by decide) (by decide)
    · refine Dn.st (fun t q => XS.ifYes X1.here hx rfl (pc0 := 73) (pc' := 78) rfl (hb hby at_73) rfl ((if0 _ _).trans (feq (mt (lw_eq _ _).mp h1)).2) (by decide) (by decide) q) ?_
      show Dn p e below s _ _ _ T1 (mkF m 78 #[.val (.long y1), .second, .val (.long y2), .second, .val (.int x3), .val (.long mm), .second, .val (.long aa), .second, .val (.long xx), .second, .val (.long ar), .second, .val (.long rr), .second, .unset, .unset] [])
      refine Dn.st (fun t q => XS.lload X1.here hx rfl (hb hby at_78) rfl  q) ?_
      show Dn p e below s _ _ _ T1 (mkF m 80 #[.val (.long y1), .second, .val (.long y2), .second, .val (.int x3), .val (.long mm), .second, .val (.long aa), .second, .val (.long xx), .second, .val (.long ar), .second, .val (.long rr), .second, .unset, .unset] [(.long rr)])
      refine Dn.st (fun t q => XS.lconst X1.here hx rfl (hb hby at_80) q) ?_
      show Dn p e below s _ _ _ T1 (mkF m 81 #[.val (.long y1), .second, .val (.long y2), .second, .val (.int x3), .val (.long mm), .second, .val (.long aa), .second, .val (.long xx), .second, .val (.long ar), .second, .val (.long rr), .second, .unset, .unset] [(.long (0 : Int64)), (.long rr)])
      refine Dn.st (fun t q => XS.lcmp X1.here hx rfl (hb hby at_81) rfl q) ?_
      show Dn p e below s _ _ _ T1 (mkF m 82 #[.val (.long y1), .second, .val (.long y2), .second, .val (.int x3), .val (.long mm), .second, .val (.long aa), .second, .val (.long xx), .second, .val (.long ar), .second, .val (.long rr), .second, .unset, .unset] [(.int (lcmpW rr (0 : Int64)))])
      by_cases hr0 : rr = (0 : Int64)
      · refine Dn.st (fun t q => XS.ifNo X1.here hx rfl (hb hby at_82) rfl ((if0 _ _).trans (teq ((lw_eq _ _).mpr hr0)).2) q) ?_
        show Dn p e below s _ _ _ T1 (mkF m 85 #[.val (.long y1), .second, .val (.long y2), .second, .val (.int x3), .val (.long mm), .second, .val (.long aa), .second, .val (.long xx), .second, .val (.long ar), .second, .val (.long rr), .second, .unset, .unset] [])
        refine Dn.st (fun t q => XS.lload X1.here hx rfl (hb hby at_85) rfl  q) ?_
        show Dn p e below s _ _ _ T1 (mkF m 87 #[.val (.long y1), .second, .val (.long y2), .second, .val (.int x3), .val (.long mm), .second, .val (.long aa), .second, .val (.long xx), .second, .val (.long ar), .second, .val (.long rr), .second, .unset, .unset] [(.long mm)])
        refine Dn.st (fun t q => XS.goto X1.here hx rfl (pc0 := 87) (pc' := 92) rfl (hb hby at_87) (by decide) (by decide) q) ?_
        show Dn p e below s _ _ _ T1 (mkF m 92 #[.val (.long y1), .second, .val (.long y2), .second, .val (.int x3), .val (.long mm), .second, .val (.long aa), .second, .val (.long xx), .second, .val (.long ar), .second, .val (.long rr), .second, .unset, .unset] [(.long mm)])
        refine Dn.st (fun t q => XS.lstore X1.here hx rfl (hb hby at_92) rfl (l' := #[.val (.long y1), .second, .val (.long y2), .second, .val (.int x3), .val (.long mm), .second, .val (.long aa), .second, .val (.long xx), .second, .val (.long ar), .second, .val (.long rr), .second, .val (.long mm), .second]) rfl q) ?_
        show Dn p e below s _ _ _ T1 (mkF m 94 #[.val (.long y1), .second, .val (.long y2), .second, .val (.int x3), .val (.long mm), .second, .val (.long aa), .second, .val (.long xx), .second, .val (.long ar), .second, .val (.long rr), .second, .val (.long mm), .second] [])
        refine Dn.st (fun t q => XS.lload X1.here hx rfl (hb hby at_94) rfl  q) ?_
        show Dn p e below s _ _ _ T1 (mkF m 96 #[.val (.long y1), .second, .val (.long y2), .second, .val (.int x3), .val (.long mm), .second, .val (.long aa), .second, .val (.long xx), .second, .val (.long ar), .second, .val (.long rr), .second, .val (.long mm), .second] [(.long mm)])
        refine Dn.st (fun t q => XS.lconst X1.here hx rfl (hb hby at_96) q) ?_
        show Dn p e below s _ _ _ T1 (mkF m 97 #[.val (.long y1), .second, .val (.long y2), .second, .val (.int x3), .val (.long mm), .second, .val (.long aa), .second, .val (.long xx), .second, .val (.long ar), .second, .val (.long rr), .second, .val (.long mm), .second] [(.long (1 : Int64)), (.long mm)])
        refine Dn.st (fun t q => XS.lcmp X1.here hx rfl (hb hby at_97) rfl q) ?_
        show Dn p e below s _ _ _ T1 (mkF m 98 #[.val (.long y1), .second, .val (.long y2), .second, .val (.int x3), .val (.long mm), .second, .val (.long aa), .second, .val (.long xx), .second, .val (.long ar), .second, .val (.long rr), .second, .val (.long mm), .second] [(.int (lcmpW mm (1 : Int64)))])
        refine Dn.st (fun t q => XS.ifNo X1.here hx rfl (hb hby at_98) rfl ((if0 _ _).trans (tlt ((lw_gt _ _).mpr ((hE h1).1 hr0).1)).2.2.2) q) ?_
        show Dn p e below s _ _ _ T1 (mkF m 101 #[.val (.long y1), .second, .val (.long y2), .second, .val (.int x3), .val (.long mm), .second, .val (.long aa), .second, .val (.long xx), .second, .val (.long ar), .second, .val (.long rr), .second, .val (.long mm), .second] [])
        refine Dn.st (fun t q => XS.lload X1.here hx rfl (hb hby at_101) rfl  q) ?_
        show Dn p e below s _ _ _ T1 (mkF m 103 #[.val (.long y1), .second, .val (.long y2), .second, .val (.int x3), .val (.long mm), .second, .val (.long aa), .second, .val (.long xx), .second, .val (.long ar), .second, .val (.long rr), .second, .val (.long mm), .second] [(.long mm)])
        refine Dn.st (fun t q => XS.lload X1.here hx rfl (hb hby at_103) rfl  q) ?_
        show Dn p e below s _ _ _ T1 (mkF m 105 #[.val (.long y1), .second, .val (.long y2), .second, .val (.int x3), .val (.long mm), .second, .val (.long aa), .second, .val (.long xx), .second, .val (.long ar), .second, .val (.long rr), .second, .val (.long mm), .second] [(.long mm), (.long mm)])
        refine Dn.st (fun t q => XS.lrem X1.here hx rfl (hb hby at_105) rfl (own_dnz ((hE h1).1 hr0).1) q) ?_
        show Dn p e below s _ _ _ T1 (mkF m 106 #[.val (.long y1), .second, .val (.long y2), .second, .val (.int x3), .val (.long mm), .second, .val (.long aa), .second, .val (.long xx), .second, .val (.long ar), .second, .val (.long rr), .second, .val (.long mm), .second] [(.long (mm - (mm / mm) * mm))])
        refine Dn.st (fun t q => XS.lconst X1.here hx rfl (hb hby at_106) q) ?_
        show Dn p e below s _ _ _ T1 (mkF m 107 #[.val (.long y1), .second, .val (.long y2), .second, .val (.int x3), .val (.long mm), .second, .val (.long aa), .second, .val (.long xx), .second, .val (.long ar), .second, .val (.long rr), .second, .val (.long mm), .second] [(.long (0 : Int64)), (.long (mm - (mm / mm) * mm))])
        refine Dn.st (fun t q => XS.lcmp X1.here hx rfl (hb hby at_107) rfl q) ?_
        show Dn p e below s _ _ _ T1 (mkF m 108 #[.val (.long y1), .second, .val (.long y2), .second, .val (.int x3), .val (.long mm), .second, .val (.long aa), .second, .val (.long xx), .second, .val (.long ar), .second, .val (.long rr), .second, .val (.long mm), .second] [(.int (lcmpW (mm - (mm / mm) * mm) (0 : Int64)))])
        refine Dn.st (fun t q => XS.ifNo X1.here hx rfl (hb hby at_108) rfl ((if0 _ _).trans (teq ((lw_eq _ _).mpr ((hE h1).1 hr0).2.1)).2) q) ?_
        show Dn p e below s _ _ _ T1 (mkF m 111 #[.val (.long y1), .second, .val (.long y2), .second, .val (.int x3), .val (.long mm), .second, .val (.long aa), .second, .val (.long xx), .second, .val (.long ar), .second, .val (.long rr), .second, .val (.long mm), .second] [])
        refine Dn.st (fun t q => XS.lload X1.here hx rfl (hb hby at_111) rfl  q) ?_
        show Dn p e below s _ _ _ T1 (mkF m 113 #[.val (.long y1), .second, .val (.long y2), .second, .val (.int x3), .val (.long mm), .second, .val (.long aa), .second, .val (.long xx), .second, .val (.long ar), .second, .val (.long rr), .second, .val (.long mm), .second] [(.long ar)])
        refine Dn.st (fun t q => XS.lload X1.here hx rfl (hb hby at_113) rfl  q) ?_
        show Dn p e below s _ _ _ T1 (mkF m 115 #[.val (.long y1), .second, .val (.long y2), .second, .val (.int x3), .val (.long mm), .second, .val (.long aa), .second, .val (.long xx), .second, .val (.long ar), .second, .val (.long rr), .second, .val (.long mm), .second] [(.long mm), (.long ar)])
        refine Dn.st (fun t q => XS.lrem X1.here hx rfl (hb hby at_115) rfl (own_dnz ((hE h1).1 hr0).1) q) ?_
        show Dn p e below s _ _ _ T1 (mkF m 116 #[.val (.long y1), .second, .val (.long y2), .second, .val (.int x3), .val (.long mm), .second, .val (.long aa), .second, .val (.long xx), .second, .val (.long ar), .second, .val (.long rr), .second, .val (.long mm), .second] [(.long (ar - (ar / mm) * mm))])
        refine Dn.st (fun t q => XS.lconst X1.here hx rfl (hb hby at_116) q) ?_
        show Dn p e below s _ _ _ T1 (mkF m 117 #[.val (.long y1), .second, .val (.long y2), .second, .val (.int x3), .val (.long mm), .second, .val (.long aa), .second, .val (.long xx), .second, .val (.long ar), .second, .val (.long rr), .second, .val (.long mm), .second] [(.long (0 : Int64)), (.long (ar - (ar / mm) * mm))])
        refine Dn.st (fun t q => XS.lcmp X1.here hx rfl (hb hby at_117) rfl q) ?_
        show Dn p e below s _ _ _ T1 (mkF m 118 #[.val (.long y1), .second, .val (.long y2), .second, .val (.int x3), .val (.long mm), .second, .val (.long aa), .second, .val (.long xx), .second, .val (.long ar), .second, .val (.long rr), .second, .val (.long mm), .second] [(.int (lcmpW (ar - (ar / mm) * mm) (0 : Int64)))])
        refine Dn.st (fun t q => XS.ifNo X1.here hx rfl (hb hby at_118) rfl ((if0 _ _).trans (teq ((lw_eq _ _).mpr ((hE h1).1 hr0).2.2)).2) q) ?_
        show Dn p e below s _ _ _ T1 (mkF m 121 #[.val (.long y1), .second, .val (.long y2), .second, .val (.int x3), .val (.long mm), .second, .val (.long aa), .second, .val (.long xx), .second, .val (.long ar), .second, .val (.long rr), .second, .val (.long mm), .second] [])
        refine Dn.st (fun t q => XS.iconst X1.here hx rfl (hb hby at_121) q) ?_
        show Dn p e below s _ _ _ T1 (mkF m 122 #[.val (.long y1), .second, .val (.long y2), .second, .val (.int x3), .val (.long mm), .second, .val (.long aa), .second, .val (.long xx), .second, .val (.long ar), .second, .val (.long rr), .second, .val (.long mm), .second] [(.int (1 : Int32))])
        refine Dn.st (fun t q => XS.goto X1.here hx rfl (pc0 := 122) (pc' := 126) rfl (hb hby at_122) (by decide) (by decide) q) ?_
        show Dn p e below s _ _ _ T1 (mkF m 126 #[.val (.long y1), .second, .val (.long y2), .second, .val (.int x3), .val (.long mm), .second, .val (.long aa), .second, .val (.long xx), .second, .val (.long ar), .second, .val (.long rr), .second, .val (.long mm), .second] [(.int (1 : Int32))])
        exact Dn.retZ X1 hx Bd.notSynchronized (t := .boolean) Bd.returns (by simp) (hb hby at_126) (by rw [e1]; exact ⟨rfl, N0⟩) (by decide) (by decide)
      · refine Dn.st (fun t q => XS.ifYes X1.here hx rfl (pc0 := 82) (pc' := 90) rfl (hb hby at_82) rfl ((if0 _ _).trans (feq (mt (lw_eq _ _).mp hr0)).2) (by decide) (by decide) q) ?_
        show Dn p e below s _ _ _ T1 (mkF m 90 #[.val (.long y1), .second, .val (.long y2), .second, .val (.int x3), .val (.long mm), .second, .val (.long aa), .second, .val (.long xx), .second, .val (.long ar), .second, .val (.long rr), .second, .unset, .unset] [])
        refine Dn.st (fun t q => XS.lload X1.here hx rfl (hb hby at_90) rfl  q) ?_
        show Dn p e below s _ _ _ T1 (mkF m 92 #[.val (.long y1), .second, .val (.long y2), .second, .val (.int x3), .val (.long mm), .second, .val (.long aa), .second, .val (.long xx), .second, .val (.long ar), .second, .val (.long rr), .second, .unset, .unset] [(.long rr)])
        refine Dn.st (fun t q => XS.lstore X1.here hx rfl (hb hby at_92) rfl (l' := #[.val (.long y1), .second, .val (.long y2), .second, .val (.int x3), .val (.long mm), .second, .val (.long aa), .second, .val (.long xx), .second, .val (.long ar), .second, .val (.long rr), .second, .val (.long rr), .second]) rfl q) ?_
        show Dn p e below s _ _ _ T1 (mkF m 94 #[.val (.long y1), .second, .val (.long y2), .second, .val (.int x3), .val (.long mm), .second, .val (.long aa), .second, .val (.long xx), .second, .val (.long ar), .second, .val (.long rr), .second, .val (.long rr), .second] [])
        refine Dn.st (fun t q => XS.lload X1.here hx rfl (hb hby at_94) rfl  q) ?_
        show Dn p e below s _ _ _ T1 (mkF m 96 #[.val (.long y1), .second, .val (.long y2), .second, .val (.int x3), .val (.long mm), .second, .val (.long aa), .second, .val (.long xx), .second, .val (.long ar), .second, .val (.long rr), .second, .val (.long rr), .second] [(.long rr)])
        refine Dn.st (fun t q => XS.lconst X1.here hx rfl (hb hby at_96) q) ?_
        show Dn p e below s _ _ _ T1 (mkF m 97 #[.val (.long y1), .second, .val (.long y2), .second, .val (.int x3), .val (.long mm), .second, .val (.long aa), .second, .val (.long xx), .second, .val (.long ar), .second, .val (.long rr), .second, .val (.long rr), .second] [(.long (1 : Int64)), (.long rr)])
        refine Dn.st (fun t q => XS.lcmp X1.here hx rfl (hb hby at_97) rfl q) ?_
        show Dn p e below s _ _ _ T1 (mkF m 98 #[.val (.long y1), .second, .val (.long y2), .second, .val (.int x3), .val (.long mm), .second, .val (.long aa), .second, .val (.long xx), .second, .val (.long ar), .second, .val (.long rr), .second, .val (.long rr), .second] [(.int (lcmpW rr (1 : Int64)))])
        refine Dn.st (fun t q => XS.ifNo X1.here hx rfl (hb hby at_98) rfl ((if0 _ _).trans (tlt ((lw_gt _ _).mpr ((hE h1).2 hr0).1)).2.2.2) q) ?_
        show Dn p e below s _ _ _ T1 (mkF m 101 #[.val (.long y1), .second, .val (.long y2), .second, .val (.int x3), .val (.long mm), .second, .val (.long aa), .second, .val (.long xx), .second, .val (.long ar), .second, .val (.long rr), .second, .val (.long rr), .second] [])
        refine Dn.st (fun t q => XS.lload X1.here hx rfl (hb hby at_101) rfl  q) ?_
        show Dn p e below s _ _ _ T1 (mkF m 103 #[.val (.long y1), .second, .val (.long y2), .second, .val (.int x3), .val (.long mm), .second, .val (.long aa), .second, .val (.long xx), .second, .val (.long ar), .second, .val (.long rr), .second, .val (.long rr), .second] [(.long mm)])
        refine Dn.st (fun t q => XS.lload X1.here hx rfl (hb hby at_103) rfl  q) ?_
        show Dn p e below s _ _ _ T1 (mkF m 105 #[.val (.long y1), .second, .val (.long y2), .second, .val (.int x3), .val (.long mm), .second, .val (.long aa), .second, .val (.long xx), .second, .val (.long ar), .second, .val (.long rr), .second, .val (.long rr), .second] [(.long rr), (.long mm)])
        refine Dn.st (fun t q => XS.lrem X1.here hx rfl (hb hby at_105) rfl (own_dnz ((hE h1).2 hr0).1) q) ?_
        show Dn p e below s _ _ _ T1 (mkF m 106 #[.val (.long y1), .second, .val (.long y2), .second, .val (.int x3), .val (.long mm), .second, .val (.long aa), .second, .val (.long xx), .second, .val (.long ar), .second, .val (.long rr), .second, .val (.long rr), .second] [(.long (mm - (mm / rr) * rr))])
        refine Dn.st (fun t q => XS.lconst X1.here hx rfl (hb hby at_106) q) ?_
        show Dn p e below s _ _ _ T1 (mkF m 107 #[.val (.long y1), .second, .val (.long y2), .second, .val (.int x3), .val (.long mm), .second, .val (.long aa), .second, .val (.long xx), .second, .val (.long ar), .second, .val (.long rr), .second, .val (.long rr), .second] [(.long (0 : Int64)), (.long (mm - (mm / rr) * rr))])
        refine Dn.st (fun t q => XS.lcmp X1.here hx rfl (hb hby at_107) rfl q) ?_
        show Dn p e below s _ _ _ T1 (mkF m 108 #[.val (.long y1), .second, .val (.long y2), .second, .val (.int x3), .val (.long mm), .second, .val (.long aa), .second, .val (.long xx), .second, .val (.long ar), .second, .val (.long rr), .second, .val (.long rr), .second] [(.int (lcmpW (mm - (mm / rr) * rr) (0 : Int64)))])
        refine Dn.st (fun t q => XS.ifNo X1.here hx rfl (hb hby at_108) rfl ((if0 _ _).trans (teq ((lw_eq _ _).mpr ((hE h1).2 hr0).2.1)).2) q) ?_
        show Dn p e below s _ _ _ T1 (mkF m 111 #[.val (.long y1), .second, .val (.long y2), .second, .val (.int x3), .val (.long mm), .second, .val (.long aa), .second, .val (.long xx), .second, .val (.long ar), .second, .val (.long rr), .second, .val (.long rr), .second] [])
        refine Dn.st (fun t q => XS.lload X1.here hx rfl (hb hby at_111) rfl  q) ?_
        show Dn p e below s _ _ _ T1 (mkF m 113 #[.val (.long y1), .second, .val (.long y2), .second, .val (.int x3), .val (.long mm), .second, .val (.long aa), .second, .val (.long xx), .second, .val (.long ar), .second, .val (.long rr), .second, .val (.long rr), .second] [(.long ar)])
        refine Dn.st (fun t q => XS.lload X1.here hx rfl (hb hby at_113) rfl  q) ?_
        show Dn p e below s _ _ _ T1 (mkF m 115 #[.val (.long y1), .second, .val (.long y2), .second, .val (.int x3), .val (.long mm), .second, .val (.long aa), .second, .val (.long xx), .second, .val (.long ar), .second, .val (.long rr), .second, .val (.long rr), .second] [(.long rr), (.long ar)])
        refine Dn.st (fun t q => XS.lrem X1.here hx rfl (hb hby at_115) rfl (own_dnz ((hE h1).2 hr0).1) q) ?_
        show Dn p e below s _ _ _ T1 (mkF m 116 #[.val (.long y1), .second, .val (.long y2), .second, .val (.int x3), .val (.long mm), .second, .val (.long aa), .second, .val (.long xx), .second, .val (.long ar), .second, .val (.long rr), .second, .val (.long rr), .second] [(.long (ar - (ar / rr) * rr))])
        refine Dn.st (fun t q => XS.lconst X1.here hx rfl (hb hby at_116) q) ?_
        show Dn p e below s _ _ _ T1 (mkF m 117 #[.val (.long y1), .second, .val (.long y2), .second, .val (.int x3), .val (.long mm), .second, .val (.long aa), .second, .val (.long xx), .second, .val (.long ar), .second, .val (.long rr), .second, .val (.long rr), .second] [(.long (0 : Int64)), (.long (ar - (ar / rr) * rr))])
        refine Dn.st (fun t q => XS.lcmp X1.here hx rfl (hb hby at_117) rfl q) ?_
        show Dn p e below s _ _ _ T1 (mkF m 118 #[.val (.long y1), .second, .val (.long y2), .second, .val (.int x3), .val (.long mm), .second, .val (.long aa), .second, .val (.long xx), .second, .val (.long ar), .second, .val (.long rr), .second, .val (.long rr), .second] [(.int (lcmpW (ar - (ar / rr) * rr) (0 : Int64)))])
        refine Dn.st (fun t q => XS.ifNo X1.here hx rfl (hb hby at_118) rfl ((if0 _ _).trans (teq ((lw_eq _ _).mpr ((hE h1).2 hr0).2.2)).2) q) ?_
        show Dn p e below s _ _ _ T1 (mkF m 121 #[.val (.long y1), .second, .val (.long y2), .second, .val (.int x3), .val (.long mm), .second, .val (.long aa), .second, .val (.long xx), .second, .val (.long ar), .second, .val (.long rr), .second, .val (.long rr), .second] [])
        refine Dn.st (fun t q => XS.iconst X1.here hx rfl (hb hby at_121) q) ?_
        show Dn p e below s _ _ _ T1 (mkF m 122 #[.val (.long y1), .second, .val (.long y2), .second, .val (.int x3), .val (.long mm), .second, .val (.long aa), .second, .val (.long xx), .second, .val (.long ar), .second, .val (.long rr), .second, .val (.long rr), .second] [(.int (1 : Int32))])
        refine Dn.st (fun t q => XS.goto X1.here hx rfl (pc0 := 122) (pc' := 126) rfl (hb hby at_122) (by decide) (by decide) q) ?_
        show Dn p e below s _ _ _ T1 (mkF m 126 #[.val (.long y1), .second, .val (.long y2), .second, .val (.int x3), .val (.long mm), .second, .val (.long aa), .second, .val (.long xx), .second, .val (.long ar), .second, .val (.long rr), .second, .val (.long rr), .second] [(.int (1 : Int32))])
        exact Dn.retZ X1 hx Bd.notSynchronized (t := .boolean) Bd.returns (by simp) (hb hby at_126) (by rw [e1]; exact ⟨rfl, N0⟩) (by decide) (by decide)
  · refine Dn.st (fun t q => XS.ifYes X0.here hx rfl (pc0 := 4) (pc' := 127) rfl (hb hby at_4) rfl ((if0 _ _).trans (feq hmode).2) (by decide) (by decide) q) ?_
    show Dn p e below s _ _ _ s₁ (mkF m 127 #[.val (.long y1), .second, .val (.long y2), .second, .val (.int x3), .unset, .unset, .unset, .unset, .unset, .unset, .unset, .unset, .unset, .unset, .unset, .unset] [])
    refine Dn.st (fun t q => XS.iload X0.here hx rfl (hb hby at_127) rfl  q) ?_
    show Dn p e below s _ _ _ s₁ (mkF m 129 #[.val (.long y1), .second, .val (.long y2), .second, .val (.int x3), .unset, .unset, .unset, .unset, .unset, .unset, .unset, .unset, .unset, .unset, .unset, .unset] [(.int x3)])
    refine Dn.st (fun t q => XS.iconst X0.here hx rfl (hb hby at_129) q) ?_
    show Dn p e below s _ _ _ s₁ (mkF m 130 #[.val (.long y1), .second, .val (.long y2), .second, .val (.int x3), .unset, .unset, .unset, .unset, .unset, .unset, .unset, .unset, .unset, .unset, .unset, .unset] [(.int (1 : Int32)), (.int x3)])
    refine Dn.st (fun t q => XS.iushr X0.here hx rfl (hb hby at_130) rfl q) ?_
    show Dn p e below s _ _ _ s₁ (mkF m 131 #[.val (.long y1), .second, .val (.long y2), .second, .val (.int x3), .unset, .unset, .unset, .unset, .unset, .unset, .unset, .unset, .unset, .unset, .unset, .unset] [(.int ((x3.toUInt32 >>> ((1 : Int32) &&& 31).toUInt32).toInt32))])
    refine Dn.st (fun t q => XS.iconst X0.here hx rfl (hb hby at_131) q) ?_
    show Dn p e below s _ _ _ s₁ (mkF m 132 #[.val (.long y1), .second, .val (.long y2), .second, .val (.int x3), .unset, .unset, .unset, .unset, .unset, .unset, .unset, .unset, .unset, .unset, .unset, .unset] [(.int (3 : Int32)), (.int ((x3.toUInt32 >>> ((1 : Int32) &&& 31).toUInt32).toInt32))])
    refine Dn.st (fun t q => XS.iand X0.here hx rfl (hb hby at_132) rfl q) ?_
    show Dn p e below s _ _ _ s₁ (mkF m 133 #[.val (.long y1), .second, .val (.long y2), .second, .val (.int x3), .unset, .unset, .unset, .unset, .unset, .unset, .unset, .unset, .unset, .unset, .unset, .unset] [(.int (((x3.toUInt32 >>> ((1 : Int32) &&& 31).toUInt32).toInt32) &&& (3 : Int32)))])
    generalize hsel : (((x3.toUInt32 >>> ((1 : Int32) &&& 31).toUInt32).toInt32) &&& (3 : Int32)) = sel
    show Dn p e below s _ _ _ s₁ (mkF m 133 #[.val (.long y1), .second, .val (.long y2), .second, .val (.int x3), .unset, .unset, .unset, .unset, .unset, .unset, .unset, .unset, .unset, .unset, .unset, .unset] [(.int sel)])
    refine Dn.st (fun t q => XS.istore X0.here hx rfl (hb hby at_133) rfl (l' := #[.val (.long y1), .second, .val (.long y2), .second, .val (.int x3), .val (.int sel), .unset, .unset, .unset, .unset, .unset, .unset, .unset, .unset, .unset, .unset, .unset]) rfl q) ?_
    show Dn p e below s _ _ _ s₁ (mkF m 135 #[.val (.long y1), .second, .val (.long y2), .second, .val (.int x3), .val (.int sel), .unset, .unset, .unset, .unset, .unset, .unset, .unset, .unset, .unset, .unset, .unset] [])
    refine Dn.st (fun t q => XS.lloadN X0.here hx rfl (hb hby at_135) rfl  q) ?_
    show Dn p e below s _ _ _ s₁ (mkF m 136 #[.val (.long y1), .second, .val (.long y2), .second, .val (.int x3), .val (.int sel), .unset, .unset, .unset, .unset, .unset, .unset, .unset, .unset, .unset, .unset, .unset] [(.long y2)])
    refine Dn.st (X0.ldc2Long hx hown (mvT hZ (hw _ (List.mem_of_getElem? (i := 1) rfl))) (g := (mkF m 136 #[.val (.long y1), .second, .val (.long y2), .second, .val (.int x3), .val (.int sel), .unset, .unset, .unset, .unset, .unset, .unset, .unset, .unset, .unset, .unset, .unset] [(.long y2)])) rfl (hb hby at_136)) ?_
    show Dn p e below s _ _ _ s₁ (mkF m 139 #[.val (.long y1), .second, .val (.long y2), .second, .val (.int x3), .val (.int sel), .unset, .unset, .unset, .unset, .unset, .unset, .unset, .unset, .unset, .unset, .unset] [(.long (9223372036854775807 : Int64)), (.long y2)])
    refine Dn.st (fun t q => XS.land X0.here hx rfl (hb hby at_139) rfl q) ?_
    show Dn p e below s _ _ _ s₁ (mkF m 140 #[.val (.long y1), .second, .val (.long y2), .second, .val (.int x3), .val (.int sel), .unset, .unset, .unset, .unset, .unset, .unset, .unset, .unset, .unset, .unset, .unset] [(.long (y2 &&& (9223372036854775807 : Int64)))])
    generalize hmm : (y2 &&& (9223372036854775807 : Int64)) = mm
    show Dn p e below s _ _ _ s₁ (mkF m 140 #[.val (.long y1), .second, .val (.long y2), .second, .val (.int x3), .val (.int sel), .unset, .unset, .unset, .unset, .unset, .unset, .unset, .unset, .unset, .unset, .unset] [(.long mm)])
    have hm0 := own_max hmm
    refine Dn.st (fun t q => XS.lstore X0.here hx rfl (hb hby at_140) rfl (l' := #[.val (.long y1), .second, .val (.long y2), .second, .val (.int x3), .val (.int sel), .val (.long mm), .second, .unset, .unset, .unset, .unset, .unset, .unset, .unset, .unset, .unset]) rfl q) ?_
    show Dn p e below s _ _ _ s₁ (mkF m 142 #[.val (.long y1), .second, .val (.long y2), .second, .val (.int x3), .val (.int sel), .val (.long mm), .second, .unset, .unset, .unset, .unset, .unset, .unset, .unset, .unset, .unset] [])
    refine Dn.st (fun t q => XS.iload X0.here hx rfl (hb hby at_142) rfl  q) ?_
    show Dn p e below s _ _ _ s₁ (mkF m 144 #[.val (.long y1), .second, .val (.long y2), .second, .val (.int x3), .val (.int sel), .val (.long mm), .second, .unset, .unset, .unset, .unset, .unset, .unset, .unset, .unset, .unset] [(.int sel)])
    by_cases hs0 : sel = (0 : Int32)
    · refine Dn.st (fun t q => XS.ifNo X0.here hx rfl (hb hby at_144) rfl ((if0 _ _).trans (teq hs0).2) q) ?_
      show Dn p e below s _ _ _ s₁ (mkF m 147 #[.val (.long y1), .second, .val (.long y2), .second, .val (.int x3), .val (.int sel), .val (.long mm), .second, .unset, .unset, .unset, .unset, .unset, .unset, .unset, .unset, .unset] [])
      refine Dn.st (fun t q => XS.lload X0.here hx rfl (hb hby at_147) rfl  q) ?_
      show Dn p e below s _ _ _ s₁ (mkF m 149 #[.val (.long y1), .second, .val (.long y2), .second, .val (.int x3), .val (.int sel), .val (.long mm), .second, .unset, .unset, .unset, .unset, .unset, .unset, .unset, .unset, .unset] [(.long mm)])
      refine Dn.st (fun t q => XS.lconst X0.here hx rfl (hb hby at_149) q) ?_
      show Dn p e below s _ _ _ s₁ (mkF m 150 #[.val (.long y1), .second, .val (.long y2), .second, .val (.int x3), .val (.int sel), .val (.long mm), .second, .unset, .unset, .unset, .unset, .unset, .unset, .unset, .unset, .unset] [(.long (0 : Int64)), (.long mm)])
      refine Dn.st (fun t q => XS.lcmp X0.here hx rfl (hb hby at_150) rfl q) ?_
      show Dn p e below s _ _ _ s₁ (mkF m 151 #[.val (.long y1), .second, .val (.long y2), .second, .val (.int x3), .val (.int sel), .val (.long mm), .second, .unset, .unset, .unset, .unset, .unset, .unset, .unset, .unset, .unset] [(.int (lcmpW mm (0 : Int64)))])
      by_cases hz : mm = (0 : Int64)
      · refine Dn.st (fun t q => XS.ifNo X0.here hx rfl (hb hby at_151) rfl ((if0 _ _).trans (teq ((lw_eq _ _).mpr hz)).2) q) ?_
        show Dn p e below s _ _ _ s₁ (mkF m 154 #[.val (.long y1), .second, .val (.long y2), .second, .val (.int x3), .val (.int sel), .val (.long mm), .second, .unset, .unset, .unset, .unset, .unset, .unset, .unset, .unset, .unset] [])
        refine Dn.st (fun t q => XS.lconst X0.here hx rfl (hb hby at_154) q) ?_
        show Dn p e below s _ _ _ s₁ (mkF m 155 #[.val (.long y1), .second, .val (.long y2), .second, .val (.int x3), .val (.int sel), .val (.long mm), .second, .unset, .unset, .unset, .unset, .unset, .unset, .unset, .unset, .unset] [(.long (1 : Int64))])
        refine Dn.st (fun t q => XS.lstore X0.here hx rfl (hb hby at_155) rfl (l' := #[.val (.long y1), .second, .val (.long y2), .second, .val (.int x3), .val (.int sel), .val (.long (1 : Int64)), .second, .unset, .unset, .unset, .unset, .unset, .unset, .unset, .unset, .unset]) rfl q) ?_
        show Dn p e below s _ _ _ s₁ (mkF m 157 #[.val (.long y1), .second, .val (.long y2), .second, .val (.int x3), .val (.int sel), .val (.long (1 : Int64)), .second, .unset, .unset, .unset, .unset, .unset, .unset, .unset, .unset, .unset] [])
        refine Dn.st (fun t q => XS.lload X0.here hx rfl (hb hby at_157) rfl  q) ?_
        show Dn p e below s _ _ _ s₁ (mkF m 159 #[.val (.long y1), .second, .val (.long y2), .second, .val (.int x3), .val (.int sel), .val (.long (1 : Int64)), .second, .unset, .unset, .unset, .unset, .unset, .unset, .unset, .unset, .unset] [(.long (1 : Int64))])
        refine Dn.st (fun t q => XS.lconst X0.here hx rfl (hb hby at_159) q) ?_
        show Dn p e below s _ _ _ s₁ (mkF m 160 #[.val (.long y1), .second, .val (.long y2), .second, .val (.int x3), .val (.int sel), .val (.long (1 : Int64)), .second, .unset, .unset, .unset, .unset, .unset, .unset, .unset, .unset, .unset] [(.long (1 : Int64)), (.long (1 : Int64))])
        refine Dn.st (fun t q => XS.lsub X0.here hx rfl (hb hby at_160) rfl q) ?_
        show Dn p e below s _ _ _ s₁ (mkF m 161 #[.val (.long y1), .second, .val (.long y2), .second, .val (.int x3), .val (.int sel), .val (.long (1 : Int64)), .second, .unset, .unset, .unset, .unset, .unset, .unset, .unset, .unset, .unset] [(.long ((1 : Int64) - (1 : Int64)))])
        refine Dn.st (fun t q => XS.lstore X0.here hx rfl (hb hby at_161) rfl (l' := #[.val (.long y1), .second, .val (.long y2), .second, .val (.int x3), .val (.int sel), .val (.long (1 : Int64)), .second, .val (.long ((1 : Int64) - (1 : Int64))), .second, .unset, .unset, .unset, .unset, .unset, .unset, .unset]) rfl q) ?_
        show Dn p e below s _ _ _ s₁ (mkF m 163 #[.val (.long y1), .second, .val (.long y2), .second, .val (.int x3), .val (.int sel), .val (.long (1 : Int64)), .second, .val (.long ((1 : Int64) - (1 : Int64))), .second, .unset, .unset, .unset, .unset, .unset, .unset, .unset] [])
        refine Dn.st (fun t q => XS.lload X0.here hx rfl (hb hby at_163) rfl  q) ?_
        show Dn p e below s _ _ _ s₁ (mkF m 165 #[.val (.long y1), .second, .val (.long y2), .second, .val (.int x3), .val (.int sel), .val (.long (1 : Int64)), .second, .val (.long ((1 : Int64) - (1 : Int64))), .second, .unset, .unset, .unset, .unset, .unset, .unset, .unset] [(.long (1 : Int64))])
        refine Dn.st (fun t q => XS.lconst X0.here hx rfl (hb hby at_165) q) ?_
        show Dn p e below s _ _ _ s₁ (mkF m 166 #[.val (.long y1), .second, .val (.long y2), .second, .val (.int x3), .val (.int sel), .val (.long (1 : Int64)), .second, .val (.long ((1 : Int64) - (1 : Int64))), .second, .unset, .unset, .unset, .unset, .unset, .unset, .unset] [(.long (1 : Int64)), (.long (1 : Int64))])
        refine Dn.st (fun t q => XS.lsub X0.here hx rfl (hb hby at_166) rfl q) ?_
        show Dn p e below s _ _ _ s₁ (mkF m 167 #[.val (.long y1), .second, .val (.long y2), .second, .val (.int x3), .val (.int sel), .val (.long (1 : Int64)), .second, .val (.long ((1 : Int64) - (1 : Int64))), .second, .unset, .unset, .unset, .unset, .unset, .unset, .unset] [(.long ((1 : Int64) - (1 : Int64)))])
        refine Dn.st (fun t q => XS.lstore X0.here hx rfl (hb hby at_167) rfl (l' := #[.val (.long y1), .second, .val (.long y2), .second, .val (.int x3), .val (.int sel), .val (.long (1 : Int64)), .second, .val (.long ((1 : Int64) - (1 : Int64))), .second, .val (.long ((1 : Int64) - (1 : Int64))), .second, .unset, .unset, .unset, .unset, .unset]) rfl q) ?_
        show Dn p e below s _ _ _ s₁ (mkF m 169 #[.val (.long y1), .second, .val (.long y2), .second, .val (.int x3), .val (.int sel), .val (.long (1 : Int64)), .second, .val (.long ((1 : Int64) - (1 : Int64))), .second, .val (.long ((1 : Int64) - (1 : Int64))), .second, .unset, .unset, .unset, .unset, .unset] [])
        refine Dn.st (fun t q => XS.goto X0.here hx rfl (pc0 := 169) (pc' := 279) rfl (hb hby at_169) (by decide) (by decide) q) ?_
        show Dn p e below s _ _ _ s₁ (mkF m 279 #[.val (.long y1), .second, .val (.long y2), .second, .val (.int x3), .val (.int sel), .val (.long (1 : Int64)), .second, .val (.long ((1 : Int64) - (1 : Int64))), .second, .val (.long ((1 : Int64) - (1 : Int64))), .second, .unset, .unset, .unset, .unset, .unset] [])
        refine Dn.st (fun t q => XS.lload X0.here hx rfl (hb hby at_279) rfl  q) ?_
        show Dn p e below s _ _ _ s₁ (mkF m 281 #[.val (.long y1), .second, .val (.long y2), .second, .val (.int x3), .val (.int sel), .val (.long (1 : Int64)), .second, .val (.long ((1 : Int64) - (1 : Int64))), .second, .val (.long ((1 : Int64) - (1 : Int64))), .second, .unset, .unset, .unset, .unset, .unset] [(.long ((1 : Int64) - (1 : Int64)))])
        refine Dn.st (fun t q => XS.lload X0.here hx rfl (hb hby at_281) rfl  q) ?_
        show Dn p e below s _ _ _ s₁ (mkF m 283 #[.val (.long y1), .second, .val (.long y2), .second, .val (.int x3), .val (.int sel), .val (.long (1 : Int64)), .second, .val (.long ((1 : Int64) - (1 : Int64))), .second, .val (.long ((1 : Int64) - (1 : Int64))), .second, .unset, .unset, .unset, .unset, .unset] [(.long (1 : Int64)), (.long ((1 : Int64) - (1 : Int64)))])
        obtain ⟨_, _, ⟨T2, Lq2, kq_2, nq_2⟩, -, X2, ⟨Lc2, hQ2, lq2, yq2, zq2⟩, st2⟩ := Jvm.LawKit.callS X0 hx (y := (⟨"com/example/tideway/tideway/NumberTheory", "inverseModulo", "(JJ)J"⟩ : MethodName)) hown (mvT hZ (hw _ (List.mem_of_getElem? (i := 2) rfl))) (mvT hZ (hw _ (List.mem_of_getElem? (i := 3) rfl))) (mvT hZ (hw _ (List.mem_of_getElem? (i := 4) rfl))) (mvT hZ (hw _ (List.mem_of_getElem? (i := 5) rfl))) (by decide) (backOf (W := 0) (rm1 l Z a0 hw [] ((1 : Int64) - (1 : Int64)) (1 : Int64)  h0 n0 Z0 (by decide) (by decide)) hZ (hw _ (List.mem_of_getElem? (i := 5) rfl)) (hw _ (List.mem_of_getElem? (i := 4) rfl)) (by decide) (by decide)) (g := (mkF m 283 #[.val (.long y1), .second, .val (.long y2), .second, .val (.int x3), .val (.int sel), .val (.long (1 : Int64)), .second, .val (.long ((1 : Int64) - (1 : Int64))), .second, .val (.long ((1 : Int64) - (1 : Int64))), .second, .unset, .unset, .unset, .unset, .unset] [(.long (1 : Int64)), (.long ((1 : Int64) - (1 : Int64)))])) rfl (by rw [hml]; rfl) (argsL := [(.long ((1 : Int64) - (1 : Int64))), (.long (1 : Int64))]) (rest := []) (lenOf pd_0 rfl) rfl (by show 2 * 0 + _ ≤ _; exact Nat.le_of_eq rfl) (hb hby at_283) (fun _ _ => ⟨rfl, e0, (by decide : 0 + 0 ≤ _), (by decide : 0 + 0 ≤ _)⟩)
        dsimp only [Pt.U, Pt.locs, Pt.cells, Pt.slots] at X2 lq2 yq2 zq2 st2 hQ2
        subst lq2 yq2 zq2
        obtain ⟨xx, rfl, N2q, hq2, hX⟩ := hQ2
        have N0 := Fr.app N0 N2q
        have e2 : T2.heap = h0 := hq2
        refine Dn.st st2 ?_
        show Dn p e below s _ _ _ T2 (mkF m 286 #[.val (.long y1), .second, .val (.long y2), .second, .val (.int x3), .val (.int sel), .val (.long (1 : Int64)), .second, .val (.long ((1 : Int64) - (1 : Int64))), .second, .val (.long ((1 : Int64) - (1 : Int64))), .second, .unset, .unset, .unset, .unset, .unset] [(.long xx)])
        refine Dn.st (fun t q => XS.lload X2.here hx rfl (hb hby at_286) rfl  q) ?_
        show Dn p e below s _ _ _ T2 (mkF m 288 #[.val (.long y1), .second, .val (.long y2), .second, .val (.int x3), .val (.int sel), .val (.long (1 : Int64)), .second, .val (.long ((1 : Int64) - (1 : Int64))), .second, .val (.long ((1 : Int64) - (1 : Int64))), .second, .unset, .unset, .unset, .unset, .unset] [(.long ((1 : Int64) - (1 : Int64))), (.long xx)])
        refine Dn.st (fun t q => XS.lcmp X2.here hx rfl (hb hby at_288) rfl q) ?_
        show Dn p e below s _ _ _ T2 (mkF m 289 #[.val (.long y1), .second, .val (.long y2), .second, .val (.int x3), .val (.int sel), .val (.long (1 : Int64)), .second, .val (.long ((1 : Int64) - (1 : Int64))), .second, .val (.long ((1 : Int64) - (1 : Int64))), .second, .unset, .unset, .unset, .unset, .unset] [(.int (lcmpW xx ((1 : Int64) - (1 : Int64))))])
        refine Dn.st (fun t q => XS.ifNo X2.here hx rfl (hb hby at_289) rfl ((if0 _ _).trans (teq ((lw_eq _ _).mpr (own_s0z hX))).2) q) ?_
        show Dn p e below s _ _ _ T2 (mkF m 292 #[.val (.long y1), .second, .val (.long y2), .second, .val (.int x3), .val (.int sel), .val (.long (1 : Int64)), .second, .val (.long ((1 : Int64) - (1 : Int64))), .second, .val (.long ((1 : Int64) - (1 : Int64))), .second, .unset, .unset, .unset, .unset, .unset] [])
        refine Dn.st (fun t q => XS.iconst X2.here hx rfl (hb hby at_292) q) ?_
        show Dn p e below s _ _ _ T2 (mkF m 293 #[.val (.long y1), .second, .val (.long y2), .second, .val (.int x3), .val (.int sel), .val (.long (1 : Int64)), .second, .val (.long ((1 : Int64) - (1 : Int64))), .second, .val (.long ((1 : Int64) - (1 : Int64))), .second, .unset, .unset, .unset, .unset, .unset] [(.int (1 : Int32))])
        refine Dn.st (fun t q => XS.goto X2.here hx rfl (pc0 := 293) (pc' := 297) rfl (hb hby at_293) (by decide) (by decide) q) ?_
        show Dn p e below s _ _ _ T2 (mkF m 297 #[.val (.long y1), .second, .val (.long y2), .second, .val (.int x3), .val (.int sel), .val (.long (1 : Int64)), .second, .val (.long ((1 : Int64) - (1 : Int64))), .second, .val (.long ((1 : Int64) - (1 : Int64))), .second, .unset, .unset, .unset, .unset, .unset] [(.int (1 : Int32))])
        exact Dn.retZ X2 hx Bd.notSynchronized (t := .boolean) Bd.returns (by simp) (hb hby at_297) (by rw [e2]; exact ⟨rfl, N0⟩) (by decide) (by decide)
      · refine Dn.st (fun t q => XS.ifYes X0.here hx rfl (pc0 := 151) (pc' := 157) rfl (hb hby at_151) rfl ((if0 _ _).trans (feq (mt (lw_eq _ _).mp hz)).2) (by decide) (by decide) q) ?_
        show Dn p e below s _ _ _ s₁ (mkF m 157 #[.val (.long y1), .second, .val (.long y2), .second, .val (.int x3), .val (.int sel), .val (.long mm), .second, .unset, .unset, .unset, .unset, .unset, .unset, .unset, .unset, .unset] [])
        refine Dn.st (fun t q => XS.lload X0.here hx rfl (hb hby at_157) rfl  q) ?_
        show Dn p e below s _ _ _ s₁ (mkF m 159 #[.val (.long y1), .second, .val (.long y2), .second, .val (.int x3), .val (.int sel), .val (.long mm), .second, .unset, .unset, .unset, .unset, .unset, .unset, .unset, .unset, .unset] [(.long mm)])
        refine Dn.st (fun t q => XS.lconst X0.here hx rfl (hb hby at_159) q) ?_
        show Dn p e below s _ _ _ s₁ (mkF m 160 #[.val (.long y1), .second, .val (.long y2), .second, .val (.int x3), .val (.int sel), .val (.long mm), .second, .unset, .unset, .unset, .unset, .unset, .unset, .unset, .unset, .unset] [(.long (1 : Int64)), (.long mm)])
        refine Dn.st (fun t q => XS.lsub X0.here hx rfl (hb hby at_160) rfl q) ?_
        show Dn p e below s _ _ _ s₁ (mkF m 161 #[.val (.long y1), .second, .val (.long y2), .second, .val (.int x3), .val (.int sel), .val (.long mm), .second, .unset, .unset, .unset, .unset, .unset, .unset, .unset, .unset, .unset] [(.long (mm - (1 : Int64)))])
        refine Dn.st (fun t q => XS.lstore X0.here hx rfl (hb hby at_161) rfl (l' := #[.val (.long y1), .second, .val (.long y2), .second, .val (.int x3), .val (.int sel), .val (.long mm), .second, .val (.long (mm - (1 : Int64))), .second, .unset, .unset, .unset, .unset, .unset, .unset, .unset]) rfl q) ?_
        show Dn p e below s _ _ _ s₁ (mkF m 163 #[.val (.long y1), .second, .val (.long y2), .second, .val (.int x3), .val (.int sel), .val (.long mm), .second, .val (.long (mm - (1 : Int64))), .second, .unset, .unset, .unset, .unset, .unset, .unset, .unset] [])
        refine Dn.st (fun t q => XS.lload X0.here hx rfl (hb hby at_163) rfl  q) ?_
        show Dn p e below s _ _ _ s₁ (mkF m 165 #[.val (.long y1), .second, .val (.long y2), .second, .val (.int x3), .val (.int sel), .val (.long mm), .second, .val (.long (mm - (1 : Int64))), .second, .unset, .unset, .unset, .unset, .unset, .unset, .unset] [(.long mm)])
        refine Dn.st (fun t q => XS.lconst X0.here hx rfl (hb hby at_165) q) ?_
        show Dn p e below s _ _ _ s₁ (mkF m 166 #[.val (.long y1), .second, .val (.long y2), .second, .val (.int x3), .val (.int sel), .val (.long mm), .second, .val (.long (mm - (1 : Int64))), .second, .unset, .unset, .unset, .unset, .unset, .unset, .unset] [(.long (1 : Int64)), (.long mm)])
        refine Dn.st (fun t q => XS.lsub X0.here hx rfl (hb hby at_166) rfl q) ?_
        show Dn p e below s _ _ _ s₁ (mkF m 167 #[.val (.long y1), .second, .val (.long y2), .second, .val (.int x3), .val (.int sel), .val (.long mm), .second, .val (.long (mm - (1 : Int64))), .second, .unset, .unset, .unset, .unset, .unset, .unset, .unset] [(.long (mm - (1 : Int64)))])
        refine Dn.st (fun t q => XS.lstore X0.here hx rfl (hb hby at_167) rfl (l' := #[.val (.long y1), .second, .val (.long y2), .second, .val (.int x3), .val (.int sel), .val (.long mm), .second, .val (.long (mm - (1 : Int64))), .second, .val (.long (mm - (1 : Int64))), .second, .unset, .unset, .unset, .unset, .unset]) rfl q) ?_
        show Dn p e below s _ _ _ s₁ (mkF m 169 #[.val (.long y1), .second, .val (.long y2), .second, .val (.int x3), .val (.int sel), .val (.long mm), .second, .val (.long (mm - (1 : Int64))), .second, .val (.long (mm - (1 : Int64))), .second, .unset, .unset, .unset, .unset, .unset] [])
        refine Dn.st (fun t q => XS.goto X0.here hx rfl (pc0 := 169) (pc' := 279) rfl (hb hby at_169) (by decide) (by decide) q) ?_
        show Dn p e below s _ _ _ s₁ (mkF m 279 #[.val (.long y1), .second, .val (.long y2), .second, .val (.int x3), .val (.int sel), .val (.long mm), .second, .val (.long (mm - (1 : Int64))), .second, .val (.long (mm - (1 : Int64))), .second, .unset, .unset, .unset, .unset, .unset] [])
        refine Dn.st (fun t q => XS.lload X0.here hx rfl (hb hby at_279) rfl  q) ?_
        show Dn p e below s _ _ _ s₁ (mkF m 281 #[.val (.long y1), .second, .val (.long y2), .second, .val (.int x3), .val (.int sel), .val (.long mm), .second, .val (.long (mm - (1 : Int64))), .second, .val (.long (mm - (1 : Int64))), .second, .unset, .unset, .unset, .unset, .unset] [(.long (mm - (1 : Int64)))])
        refine Dn.st (fun t q => XS.lload X0.here hx rfl (hb hby at_281) rfl  q) ?_
        show Dn p e below s _ _ _ s₁ (mkF m 283 #[.val (.long y1), .second, .val (.long y2), .second, .val (.int x3), .val (.int sel), .val (.long mm), .second, .val (.long (mm - (1 : Int64))), .second, .val (.long (mm - (1 : Int64))), .second, .unset, .unset, .unset, .unset, .unset] [(.long mm), (.long (mm - (1 : Int64)))])
        obtain ⟨_, _, ⟨T3, Lq3, kq_3, nq_3⟩, -, X3, ⟨Lc3, hQ3, lq3, yq3, zq3⟩, st3⟩ := Jvm.LawKit.callS X0 hx (y := (⟨"com/example/tideway/tideway/NumberTheory", "inverseModulo", "(JJ)J"⟩ : MethodName)) hown (mvT hZ (hw _ (List.mem_of_getElem? (i := 2) rfl))) (mvT hZ (hw _ (List.mem_of_getElem? (i := 3) rfl))) (mvT hZ (hw _ (List.mem_of_getElem? (i := 4) rfl))) (mvT hZ (hw _ (List.mem_of_getElem? (i := 5) rfl))) (by decide) (backOf (W := 0) (rm1 l Z a0 hw [] (mm - (1 : Int64)) mm  h0 n0 Z0 (own_m1 hm0 hz) (own_ge1 hm0 hz)) hZ (hw _ (List.mem_of_getElem? (i := 5) rfl)) (hw _ (List.mem_of_getElem? (i := 4) rfl)) (by decide) (by decide)) (g := (mkF m 283 #[.val (.long y1), .second, .val (.long y2), .second, .val (.int x3), .val (.int sel), .val (.long mm), .second, .val (.long (mm - (1 : Int64))), .second, .val (.long (mm - (1 : Int64))), .second, .unset, .unset, .unset, .unset, .unset] [(.long mm), (.long (mm - (1 : Int64)))])) rfl (by rw [hml]; rfl) (argsL := [(.long (mm - (1 : Int64))), (.long mm)]) (rest := []) (lenOf pd_0 rfl) rfl (by show 2 * 0 + _ ≤ _; exact Nat.le_of_eq rfl) (hb hby at_283) (fun _ _ => ⟨rfl, e0, (by decide : 0 + 0 ≤ _), (by decide : 0 + 0 ≤ _)⟩)
        dsimp only [Pt.U, Pt.locs, Pt.cells, Pt.slots] at X3 lq3 yq3 zq3 st3 hQ3
        subst lq3 yq3 zq3
        obtain ⟨xx, rfl, N3q, hq3, hX⟩ := hQ3
        have N0 := Fr.app N0 N3q
        have e3 : T3.heap = h0 := hq3
        refine Dn.st st3 ?_
        show Dn p e below s _ _ _ T3 (mkF m 286 #[.val (.long y1), .second, .val (.long y2), .second, .val (.int x3), .val (.int sel), .val (.long mm), .second, .val (.long (mm - (1 : Int64))), .second, .val (.long (mm - (1 : Int64))), .second, .unset, .unset, .unset, .unset, .unset] [(.long xx)])
        refine Dn.st (fun t q => XS.lload X3.here hx rfl (hb hby at_286) rfl  q) ?_
        show Dn p e below s _ _ _ T3 (mkF m 288 #[.val (.long y1), .second, .val (.long y2), .second, .val (.int x3), .val (.int sel), .val (.long mm), .second, .val (.long (mm - (1 : Int64))), .second, .val (.long (mm - (1 : Int64))), .second, .unset, .unset, .unset, .unset, .unset] [(.long (mm - (1 : Int64))), (.long xx)])
        refine Dn.st (fun t q => XS.lcmp X3.here hx rfl (hb hby at_288) rfl q) ?_
        show Dn p e below s _ _ _ T3 (mkF m 289 #[.val (.long y1), .second, .val (.long y2), .second, .val (.int x3), .val (.int sel), .val (.long mm), .second, .val (.long (mm - (1 : Int64))), .second, .val (.long (mm - (1 : Int64))), .second, .unset, .unset, .unset, .unset, .unset] [(.int (lcmpW xx (mm - (1 : Int64))))])
        refine Dn.st (fun t q => XS.ifNo X3.here hx rfl (hb hby at_289) rfl ((if0 _ _).trans (teq ((lw_eq _ _).mpr (own_s0 hm0 hz hX))).2) q) ?_
        show Dn p e below s _ _ _ T3 (mkF m 292 #[.val (.long y1), .second, .val (.long y2), .second, .val (.int x3), .val (.int sel), .val (.long mm), .second, .val (.long (mm - (1 : Int64))), .second, .val (.long (mm - (1 : Int64))), .second, .unset, .unset, .unset, .unset, .unset] [])
        refine Dn.st (fun t q => XS.iconst X3.here hx rfl (hb hby at_292) q) ?_
        show Dn p e below s _ _ _ T3 (mkF m 293 #[.val (.long y1), .second, .val (.long y2), .second, .val (.int x3), .val (.int sel), .val (.long mm), .second, .val (.long (mm - (1 : Int64))), .second, .val (.long (mm - (1 : Int64))), .second, .unset, .unset, .unset, .unset, .unset] [(.int (1 : Int32))])
        refine Dn.st (fun t q => XS.goto X3.here hx rfl (pc0 := 293) (pc' := 297) rfl (hb hby at_293) (by decide) (by decide) q) ?_
        show Dn p e below s _ _ _ T3 (mkF m 297 #[.val (.long y1), .second, .val (.long y2), .second, .val (.int x3), .val (.int sel), .val (.long mm), .second, .val (.long (mm - (1 : Int64))), .second, .val (.long (mm - (1 : Int64))), .second, .unset, .unset, .unset, .unset, .unset] [(.int (1 : Int32))])
        exact Dn.retZ X3 hx Bd.notSynchronized (t := .boolean) Bd.returns (by simp) (hb hby at_297) (by rw [e3]; exact ⟨rfl, N0⟩) (by decide) (by decide)
    · refine Dn.st (fun t q => XS.ifYes X0.here hx rfl (pc0 := 144) (pc' := 172) rfl (hb hby at_144) rfl ((if0 _ _).trans (feq hs0).2) (by decide) (by decide) q) ?_
      show Dn p e below s _ _ _ s₁ (mkF m 172 #[.val (.long y1), .second, .val (.long y2), .second, .val (.int x3), .val (.int sel), .val (.long mm), .second, .unset, .unset, .unset, .unset, .unset, .unset, .unset, .unset, .unset] [])
      refine Dn.st (fun t q => XS.iload X0.here hx rfl (hb hby at_172) rfl  q) ?_
      show Dn p e below s _ _ _ s₁ (mkF m 174 #[.val (.long y1), .second, .val (.long y2), .second, .val (.int x3), .val (.int sel), .val (.long mm), .second, .unset, .unset, .unset, .unset, .unset, .unset, .unset, .unset, .unset] [(.int sel)])
      refine Dn.st (fun t q => XS.iconst X0.here hx rfl (hb hby at_174) q) ?_
      show Dn p e below s _ _ _ s₁ (mkF m 175 #[.val (.long y1), .second, .val (.long y2), .second, .val (.int x3), .val (.int sel), .val (.long mm), .second, .unset, .unset, .unset, .unset, .unset, .unset, .unset, .unset, .unset] [(.int (1 : Int32)), (.int sel)])
      by_cases hs1 : sel = (1 : Int32)
      · refine Dn.st (fun t q => XS.icmpNo X0.here hx rfl (hb hby at_175) rfl (teq hs1).2 q) ?_
        show Dn p e below s _ _ _ s₁ (mkF m 178 #[.val (.long y1), .second, .val (.long y2), .second, .val (.int x3), .val (.int sel), .val (.long mm), .second, .unset, .unset, .unset, .unset, .unset, .unset, .unset, .unset, .unset] [])
        refine Dn.st (fun t q => XS.lload X0.here hx rfl (hb hby at_178) rfl  q) ?_
        show Dn p e below s _ _ _ s₁ (mkF m 180 #[.val (.long y1), .second, .val (.long y2), .second, .val (.int x3), .val (.int sel), .val (.long mm), .second, .unset, .unset, .unset, .unset, .unset, .unset, .unset, .unset, .unset] [(.long mm)])
        refine Dn.st (fun t q => XS.lconst X0.here hx rfl (hb hby at_180) q) ?_
        show Dn p e below s _ _ _ s₁ (mkF m 181 #[.val (.long y1), .second, .val (.long y2), .second, .val (.int x3), .val (.int sel), .val (.long mm), .second, .unset, .unset, .unset, .unset, .unset, .unset, .unset, .unset, .unset] [(.long (0 : Int64)), (.long mm)])
        refine Dn.st (fun t q => XS.lcmp X0.here hx rfl (hb hby at_181) rfl q) ?_
        show Dn p e below s _ _ _ s₁ (mkF m 182 #[.val (.long y1), .second, .val (.long y2), .second, .val (.int x3), .val (.int sel), .val (.long mm), .second, .unset, .unset, .unset, .unset, .unset, .unset, .unset, .unset, .unset] [(.int (lcmpW mm (0 : Int64)))])
        by_cases hz : mm = (0 : Int64)
        · refine Dn.st (fun t q => XS.ifNo X0.here hx rfl (hb hby at_182) rfl ((if0 _ _).trans (teq ((lw_eq _ _).mpr hz)).2) q) ?_
          show Dn p e below s _ _ _ s₁ (mkF m 185 #[.val (.long y1), .second, .val (.long y2), .second, .val (.int x3), .val (.int sel), .val (.long mm), .second, .unset, .unset, .unset, .unset, .unset, .unset, .unset, .unset, .unset] [])
          refine Dn.st (fun t q => XS.lconst X0.here hx rfl (hb hby at_185) q) ?_
          show Dn p e below s _ _ _ s₁ (mkF m 186 #[.val (.long y1), .second, .val (.long y2), .second, .val (.int x3), .val (.int sel), .val (.long mm), .second, .unset, .unset, .unset, .unset, .unset, .unset, .unset, .unset, .unset] [(.long (1 : Int64))])
          refine Dn.st (fun t q => XS.lstore X0.here hx rfl (hb hby at_186) rfl (l' := #[.val (.long y1), .second, .val (.long y2), .second, .val (.int x3), .val (.int sel), .val (.long (1 : Int64)), .second, .unset, .unset, .unset, .unset, .unset, .unset, .unset, .unset, .unset]) rfl q) ?_
          show Dn p e below s _ _ _ s₁ (mkF m 188 #[.val (.long y1), .second, .val (.long y2), .second, .val (.int x3), .val (.int sel), .val (.long (1 : Int64)), .second, .unset, .unset, .unset, .unset, .unset, .unset, .unset, .unset, .unset] [])
          refine Dn.st (fun t q => XS.lconst X0.here hx rfl (hb hby at_188) q) ?_
          show Dn p e below s _ _ _ s₁ (mkF m 189 #[.val (.long y1), .second, .val (.long y2), .second, .val (.int x3), .val (.int sel), .val (.long (1 : Int64)), .second, .unset, .unset, .unset, .unset, .unset, .unset, .unset, .unset, .unset] [(.long (1 : Int64))])
          refine Dn.st (fun t q => XS.lstore X0.here hx rfl (hb hby at_189) rfl (l' := #[.val (.long y1), .second, .val (.long y2), .second, .val (.int x3), .val (.int sel), .val (.long (1 : Int64)), .second, .val (.long (1 : Int64)), .second, .unset, .unset, .unset, .unset, .unset, .unset, .unset]) rfl q) ?_
          show Dn p e below s _ _ _ s₁ (mkF m 191 #[.val (.long y1), .second, .val (.long y2), .second, .val (.int x3), .val (.int sel), .val (.long (1 : Int64)), .second, .val (.long (1 : Int64)), .second, .unset, .unset, .unset, .unset, .unset, .unset, .unset] [])
          refine Dn.st (fun t q => XS.lconst X0.here hx rfl (hb hby at_191) q) ?_
          show Dn p e below s _ _ _ s₁ (mkF m 192 #[.val (.long y1), .second, .val (.long y2), .second, .val (.int x3), .val (.int sel), .val (.long (1 : Int64)), .second, .val (.long (1 : Int64)), .second, .unset, .unset, .unset, .unset, .unset, .unset, .unset] [(.long (1 : Int64))])
          refine Dn.st (fun t q => XS.lload X0.here hx rfl (hb hby at_192) rfl  q) ?_
          show Dn p e below s _ _ _ s₁ (mkF m 194 #[.val (.long y1), .second, .val (.long y2), .second, .val (.int x3), .val (.int sel), .val (.long (1 : Int64)), .second, .val (.long (1 : Int64)), .second, .unset, .unset, .unset, .unset, .unset, .unset, .unset] [(.long (1 : Int64)), (.long (1 : Int64))])
          refine Dn.st (fun t q => XS.lrem X0.here hx rfl (hb hby at_194) rfl (by decide) q) ?_
          show Dn p e below s _ _ _ s₁ (mkF m 195 #[.val (.long y1), .second, .val (.long y2), .second, .val (.int x3), .val (.int sel), .val (.long (1 : Int64)), .second, .val (.long (1 : Int64)), .second, .unset, .unset, .unset, .unset, .unset, .unset, .unset] [(.long ((1 : Int64) - ((1 : Int64) / (1 : Int64)) * (1 : Int64)))])
          refine Dn.st (fun t q => XS.lstore X0.here hx rfl (hb hby at_195) rfl (l' := #[.val (.long y1), .second, .val (.long y2), .second, .val (.int x3), .val (.int sel), .val (.long (1 : Int64)), .second, .val (.long (1 : Int64)), .second, .val (.long ((1 : Int64) - ((1 : Int64) / (1 : Int64)) * (1 : Int64))), .second, .unset, .unset, .unset, .unset, .unset]) rfl q) ?_
          show Dn p e below s _ _ _ s₁ (mkF m 197 #[.val (.long y1), .second, .val (.long y2), .second, .val (.int x3), .val (.int sel), .val (.long (1 : Int64)), .second, .val (.long (1 : Int64)), .second, .val (.long ((1 : Int64) - ((1 : Int64) / (1 : Int64)) * (1 : Int64))), .second, .unset, .unset, .unset, .unset, .unset] [])
          refine Dn.st (fun t q => XS.goto X0.here hx rfl (pc0 := 197) (pc' := 279) rfl (hb hby at_197) (by decide) (by decide) q) ?_
          show Dn p e below s _ _ _ s₁ (mkF m 279 #[.val (.long y1), .second, .val (.long y2), .second, .val (.int x3), .val (.int sel), .val (.long (1 : Int64)), .second, .val (.long (1 : Int64)), .second, .val (.long ((1 : Int64) - ((1 : Int64) / (1 : Int64)) * (1 : Int64))), .second, .unset, .unset, .unset, .unset, .unset] [])
          refine Dn.st (fun t q => XS.lload X0.here hx rfl (hb hby at_279) rfl  q) ?_
          show Dn p e below s _ _ _ s₁ (mkF m 281 #[.val (.long y1), .second, .val (.long y2), .second, .val (.int x3), .val (.int sel), .val (.long (1 : Int64)), .second, .val (.long (1 : Int64)), .second, .val (.long ((1 : Int64) - ((1 : Int64) / (1 : Int64)) * (1 : Int64))), .second, .unset, .unset, .unset, .unset, .unset] [(.long (1 : Int64))])
          refine Dn.st (fun t q => XS.lload X0.here hx rfl (hb hby at_281) rfl  q) ?_
          show Dn p e below s _ _ _ s₁ (mkF m 283 #[.val (.long y1), .second, .val (.long y2), .second, .val (.int x3), .val (.int sel), .val (.long (1 : Int64)), .second, .val (.long (1 : Int64)), .second, .val (.long ((1 : Int64) - ((1 : Int64) / (1 : Int64)) * (1 : Int64))), .second, .unset, .unset, .unset, .unset, .unset] [(.long (1 : Int64)), (.long (1 : Int64))])
          obtain ⟨_, _, ⟨T4, Lq4, kq_4, nq_4⟩, -, X4, ⟨Lc4, hQ4, lq4, yq4, zq4⟩, st4⟩ := Jvm.LawKit.callS X0 hx (y := (⟨"com/example/tideway/tideway/NumberTheory", "inverseModulo", "(JJ)J"⟩ : MethodName)) hown (mvT hZ (hw _ (List.mem_of_getElem? (i := 2) rfl))) (mvT hZ (hw _ (List.mem_of_getElem? (i := 3) rfl))) (mvT hZ (hw _ (List.mem_of_getElem? (i := 4) rfl))) (mvT hZ (hw _ (List.mem_of_getElem? (i := 5) rfl))) (by decide) (backOf (W := 0) (rm1 l Z a0 hw [] (1 : Int64) (1 : Int64)  h0 n0 Z0 (by decide) (by decide)) hZ (hw _ (List.mem_of_getElem? (i := 5) rfl)) (hw _ (List.mem_of_getElem? (i := 4) rfl)) (by decide) (by decide)) (g := (mkF m 283 #[.val (.long y1), .second, .val (.long y2), .second, .val (.int x3), .val (.int sel), .val (.long (1 : Int64)), .second, .val (.long (1 : Int64)), .second, .val (.long ((1 : Int64) - ((1 : Int64) / (1 : Int64)) * (1 : Int64))), .second, .unset, .unset, .unset, .unset, .unset] [(.long (1 : Int64)), (.long (1 : Int64))])) rfl (by rw [hml]; rfl) (argsL := [(.long (1 : Int64)), (.long (1 : Int64))]) (rest := []) (lenOf pd_0 rfl) rfl (by show 2 * 0 + _ ≤ _; exact Nat.le_of_eq rfl) (hb hby at_283) (fun _ _ => ⟨rfl, e0, (by decide : 0 + 0 ≤ _), (by decide : 0 + 0 ≤ _)⟩)
          dsimp only [Pt.U, Pt.locs, Pt.cells, Pt.slots] at X4 lq4 yq4 zq4 st4 hQ4
          subst lq4 yq4 zq4
          obtain ⟨xx, rfl, N4q, hq4, hX⟩ := hQ4
          have N0 := Fr.app N0 N4q
          have e4 : T4.heap = h0 := hq4
          refine Dn.st st4 ?_
          show Dn p e below s _ _ _ T4 (mkF m 286 #[.val (.long y1), .second, .val (.long y2), .second, .val (.int x3), .val (.int sel), .val (.long (1 : Int64)), .second, .val (.long (1 : Int64)), .second, .val (.long ((1 : Int64) - ((1 : Int64) / (1 : Int64)) * (1 : Int64))), .second, .unset, .unset, .unset, .unset, .unset] [(.long xx)])
          refine Dn.st (fun t q => XS.lload X4.here hx rfl (hb hby at_286) rfl  q) ?_
          show Dn p e below s _ _ _ T4 (mkF m 288 #[.val (.long y1), .second, .val (.long y2), .second, .val (.int x3), .val (.int sel), .val (.long (1 : Int64)), .second, .val (.long (1 : Int64)), .second, .val (.long ((1 : Int64) - ((1 : Int64) / (1 : Int64)) * (1 : Int64))), .second, .unset, .unset, .unset, .unset, .unset] [(.long ((1 : Int64) - ((1 : Int64) / (1 : Int64)) * (1 : Int64))), (.long xx)])
          refine Dn.st (fun t q => XS.lcmp X4.here hx rfl (hb hby at_288) rfl q) ?_
          show Dn p e below s _ _ _ T4 (mkF m 289 #[.val (.long y1), .second, .val (.long y2), .second, .val (.int x3), .val (.int sel), .val (.long (1 : Int64)), .second, .val (.long (1 : Int64)), .second, .val (.long ((1 : Int64) - ((1 : Int64) / (1 : Int64)) * (1 : Int64))), .second, .unset, .unset, .unset, .unset, .unset] [(.int (lcmpW xx ((1 : Int64) - ((1 : Int64) / (1 : Int64)) * (1 : Int64))))])
          refine Dn.st (fun t q => XS.ifNo X4.here hx rfl (hb hby at_289) rfl ((if0 _ _).trans (teq ((lw_eq _ _).mpr (own_s1z hX))).2) q) ?_
          show Dn p e below s _ _ _ T4 (mkF m 292 #[.val (.long y1), .second, .val (.long y2), .second, .val (.int x3), .val (.int sel), .val (.long (1 : Int64)), .second, .val (.long (1 : Int64)), .second, .val (.long ((1 : Int64) - ((1 : Int64) / (1 : Int64)) * (1 : Int64))), .second, .unset, .unset, .unset, .unset, .unset] [])
          refine Dn.st (fun t q => XS.iconst X4.here hx rfl (hb hby at_292) q) ?_
          show Dn p e below s _ _ _ T4 (mkF m 293 #[.val (.long y1), .second, .val (.long y2), .second, .val (.int x3), .val (.int sel), .val (.long (1 : Int64)), .second, .val (.long (1 : Int64)), .second, .val (.long ((1 : Int64) - ((1 : Int64) / (1 : Int64)) * (1 : Int64))), .second, .unset, .unset, .unset, .unset, .unset] [(.int (1 : Int32))])
          refine Dn.st (fun t q => XS.goto X4.here hx rfl (pc0 := 293) (pc' := 297) rfl (hb hby at_293) (by decide) (by decide) q) ?_
          show Dn p e below s _ _ _ T4 (mkF m 297 #[.val (.long y1), .second, .val (.long y2), .second, .val (.int x3), .val (.int sel), .val (.long (1 : Int64)), .second, .val (.long (1 : Int64)), .second, .val (.long ((1 : Int64) - ((1 : Int64) / (1 : Int64)) * (1 : Int64))), .second, .unset, .unset, .unset, .unset, .unset] [(.int (1 : Int32))])
          exact Dn.retZ X4 hx Bd.notSynchronized (t := .boolean) Bd.returns (by simp) (hb hby at_297) (by rw [e4]; exact ⟨rfl, N0⟩) (by decide) (by decide)
        · refine Dn.st (fun t q => XS.ifYes X0.here hx rfl (pc0 := 182) (pc' := 188) rfl (hb hby at_182) rfl ((if0 _ _).trans (feq (mt (lw_eq _ _).mp hz)).2) (by decide) (by decide) q) ?_
          show Dn p e below s _ _ _ s₁ (mkF m 188 #[.val (.long y1), .second, .val (.long y2), .second, .val (.int x3), .val (.int sel), .val (.long mm), .second, .unset, .unset, .unset, .unset, .unset, .unset, .unset, .unset, .unset] [])
          refine Dn.st (fun t q => XS.lconst X0.here hx rfl (hb hby at_188) q) ?_
          show Dn p e below s _ _ _ s₁ (mkF m 189 #[.val (.long y1), .second, .val (.long y2), .second, .val (.int x3), .val (.int sel), .val (.long mm), .second, .unset, .unset, .unset, .unset, .unset, .unset, .unset, .unset, .unset] [(.long (1 : Int64))])
          refine Dn.st (fun t q => XS.lstore X0.here hx rfl (hb hby at_189) rfl (l' := #[.val (.long y1), .second, .val (.long y2), .second, .val (.int x3), .val (.int sel), .val (.long mm), .second, .val (.long (1 : Int64)), .second, .unset, .unset, .unset, .unset, .unset, .unset, .unset]) rfl q) ?_
          show Dn p e below s _ _ _ s₁ (mkF m 191 #[.val (.long y1), .second, .val (.long y2), .second, .val (.int x3), .val (.int sel), .val (.long mm), .second, .val (.long (1 : Int64)), .second, .unset, .unset, .unset, .unset, .unset, .unset, .unset] [])
          refine Dn.st (fun t q => XS.lconst X0.here hx rfl (hb hby at_191) q) ?_
          show Dn p e below s _ _ _ s₁ (mkF m 192 #[.val (.long y1), .second, .val (.long y2), .second, .val (.int x3), .val (.int sel), .val (.long mm), .second, .val (.long (1 : Int64)), .second, .unset, .unset, .unset, .unset, .unset, .unset, .unset] [(.long (1 : Int64))])
          refine Dn.st (fun t q => XS.lload X0.here hx rfl (hb hby at_192) rfl  q) ?_
          show Dn p e below s _ _ _ s₁ (mkF m 194 #[.val (.long y1), .second, .val (.long y2), .second, .val (.int x3), .val (.int sel), .val (.long mm), .second, .val (.long (1 : Int64)), .second, .unset, .unset, .unset, .unset, .unset, .unset, .unset] [(.long mm), (.long (1 : Int64))])
          refine Dn.st (fun t q => XS.lrem X0.here hx rfl (hb hby at_194) rfl hz q) ?_
          show Dn p e below s _ _ _ s₁ (mkF m 195 #[.val (.long y1), .second, .val (.long y2), .second, .val (.int x3), .val (.int sel), .val (.long mm), .second, .val (.long (1 : Int64)), .second, .unset, .unset, .unset, .unset, .unset, .unset, .unset] [(.long ((1 : Int64) - ((1 : Int64) / mm) * mm))])
          refine Dn.st (fun t q => XS.lstore X0.here hx rfl (hb hby at_195) rfl (l' := #[.val (.long y1), .second, .val (.long y2), .second, .val (.int x3), .val (.int sel), .val (.long mm), .second, .val (.long (1 : Int64)), .second, .val (.long ((1 : Int64) - ((1 : Int64) / mm) * mm)), .second, .unset, .unset, .unset, .unset, .unset]) rfl q) ?_
          show Dn p e below s _ _ _ s₁ (mkF m 197 #[.val (.long y1), .second, .val (.long y2), .second, .val (.int x3), .val (.int sel), .val (.long mm), .second, .val (.long (1 : Int64)), .second, .val (.long ((1 : Int64) - ((1 : Int64) / mm) * mm)), .second, .unset, .unset, .unset, .unset, .unset] [])
          refine Dn.st (fun t q => XS.goto X0.here hx rfl (pc0 := 197) (pc' := 279) rfl (hb hby at_197) (by decide) (by decide) q) ?_
          show Dn p e below s _ _ _ s₁ (mkF m 279 #[.val (.long y1), .second, .val (.long y2), .second, .val (.int x3), .val (.int sel), .val (.long mm), .second, .val (.long (1 : Int64)), .second, .val (.long ((1 : Int64) - ((1 : Int64) / mm) * mm)), .second, .unset, .unset, .unset, .unset, .unset] [])
          refine Dn.st (fun t q => XS.lload X0.here hx rfl (hb hby at_279) rfl  q) ?_
          show Dn p e below s _ _ _ s₁ (mkF m 281 #[.val (.long y1), .second, .val (.long y2), .second, .val (.int x3), .val (.int sel), .val (.long mm), .second, .val (.long (1 : Int64)), .second, .val (.long ((1 : Int64) - ((1 : Int64) / mm) * mm)), .second, .unset, .unset, .unset, .unset, .unset] [(.long (1 : Int64))])
          refine Dn.st (fun t q => XS.lload X0.here hx rfl (hb hby at_281) rfl  q) ?_
          show Dn p e below s _ _ _ s₁ (mkF m 283 #[.val (.long y1), .second, .val (.long y2), .second, .val (.int x3), .val (.int sel), .val (.long mm), .second, .val (.long (1 : Int64)), .second, .val (.long ((1 : Int64) - ((1 : Int64) / mm) * mm)), .second, .unset, .unset, .unset, .unset, .unset] [(.long mm), (.long (1 : Int64))])
          obtain ⟨_, _, ⟨T5, Lq5, kq_5, nq_5⟩, -, X5, ⟨Lc5, hQ5, lq5, yq5, zq5⟩, st5⟩ := Jvm.LawKit.callS X0 hx (y := (⟨"com/example/tideway/tideway/NumberTheory", "inverseModulo", "(JJ)J"⟩ : MethodName)) hown (mvT hZ (hw _ (List.mem_of_getElem? (i := 2) rfl))) (mvT hZ (hw _ (List.mem_of_getElem? (i := 3) rfl))) (mvT hZ (hw _ (List.mem_of_getElem? (i := 4) rfl))) (mvT hZ (hw _ (List.mem_of_getElem? (i := 5) rfl))) (by decide) (backOf (W := 0) (rm1 l Z a0 hw [] (1 : Int64) mm  h0 n0 Z0 (by decide) (own_ge1 hm0 hz)) hZ (hw _ (List.mem_of_getElem? (i := 5) rfl)) (hw _ (List.mem_of_getElem? (i := 4) rfl)) (by decide) (by decide)) (g := (mkF m 283 #[.val (.long y1), .second, .val (.long y2), .second, .val (.int x3), .val (.int sel), .val (.long mm), .second, .val (.long (1 : Int64)), .second, .val (.long ((1 : Int64) - ((1 : Int64) / mm) * mm)), .second, .unset, .unset, .unset, .unset, .unset] [(.long mm), (.long (1 : Int64))])) rfl (by rw [hml]; rfl) (argsL := [(.long (1 : Int64)), (.long mm)]) (rest := []) (lenOf pd_0 rfl) rfl (by show 2 * 0 + _ ≤ _; exact Nat.le_of_eq rfl) (hb hby at_283) (fun _ _ => ⟨rfl, e0, (by decide : 0 + 0 ≤ _), (by decide : 0 + 0 ≤ _)⟩)
          dsimp only [Pt.U, Pt.locs, Pt.cells, Pt.slots] at X5 lq5 yq5 zq5 st5 hQ5
          subst lq5 yq5 zq5
          obtain ⟨xx, rfl, N5q, hq5, hX⟩ := hQ5
          have N0 := Fr.app N0 N5q
          have e5 : T5.heap = h0 := hq5
          refine Dn.st st5 ?_
          show Dn p e below s _ _ _ T5 (mkF m 286 #[.val (.long y1), .second, .val (.long y2), .second, .val (.int x3), .val (.int sel), .val (.long mm), .second, .val (.long (1 : Int64)), .second, .val (.long ((1 : Int64) - ((1 : Int64) / mm) * mm)), .second, .unset, .unset, .unset, .unset, .unset] [(.long xx)])
          refine Dn.st (fun t q => XS.lload X5.here hx rfl (hb hby at_286) rfl  q) ?_
          show Dn p e below s _ _ _ T5 (mkF m 288 #[.val (.long y1), .second, .val (.long y2), .second, .val (.int x3), .val (.int sel), .val (.long mm), .second, .val (.long (1 : Int64)), .second, .val (.long ((1 : Int64) - ((1 : Int64) / mm) * mm)), .second, .unset, .unset, .unset, .unset, .unset] [(.long ((1 : Int64) - ((1 : Int64) / mm) * mm)), (.long xx)])
          refine Dn.st (fun t q => XS.lcmp X5.here hx rfl (hb hby at_288) rfl q) ?_
          show Dn p e below s _ _ _ T5 (mkF m 289 #[.val (.long y1), .second, .val (.long y2), .second, .val (.int x3), .val (.int sel), .val (.long mm), .second, .val (.long (1 : Int64)), .second, .val (.long ((1 : Int64) - ((1 : Int64) / mm) * mm)), .second, .unset, .unset, .unset, .unset, .unset] [(.int (lcmpW xx ((1 : Int64) - ((1 : Int64) / mm) * mm)))])
          refine Dn.st (fun t q => XS.ifNo X5.here hx rfl (hb hby at_289) rfl ((if0 _ _).trans (teq ((lw_eq _ _).mpr (own_s1 hm0 hz hX))).2) q) ?_
          show Dn p e below s _ _ _ T5 (mkF m 292 #[.val (.long y1), .second, .val (.long y2), .second, .val (.int x3), .val (.int sel), .val (.long mm), .second, .val (.long (1 : Int64)), .second, .val (.long ((1 : Int64) - ((1 : Int64) / mm) * mm)), .second, .unset, .unset, .unset, .unset, .unset] [])
          refine Dn.st (fun t q => XS.iconst X5.here hx rfl (hb hby at_292) q) ?_
          show Dn p e below s _ _ _ T5 (mkF m 293 #[.val (.long y1), .second, .val (.long y2), .second, .val (.int x3), .val (.int sel), .val (.long mm), .second, .val (.long (1 : Int64)), .second, .val (.long ((1 : Int64) - ((1 : Int64) / mm) * mm)), .second, .unset, .unset, .unset, .unset, .unset] [(.int (1 : Int32))])
          refine Dn.st (fun t q => XS.goto X5.here hx rfl (pc0 := 293) (pc' := 297) rfl (hb hby at_293) (by decide) (by decide) q) ?_
          show Dn p e below s _ _ _ T5 (mkF m 297 #[.val (.long y1), .second, .val (.long y2), .second, .val (.int x3), .val (.int sel), .val (.long mm), .second, .val (.long (1 : Int64)), .second, .val (.long ((1 : Int64) - ((1 : Int64) / mm) * mm)), .second, .unset, .unset, .unset, .unset, .unset] [(.int (1 : Int32))])
          exact Dn.retZ X5 hx Bd.notSynchronized (t := .boolean) Bd.returns (by simp) (hb hby at_297) (by rw [e5]; exact ⟨rfl, N0⟩) (by decide) (by decide)
      · refine Dn.st (fun t q => XS.icmpYes X0.here hx rfl (pc0 := 175) (pc' := 200) rfl (hb hby at_175) rfl (feq hs1).2 (by decide) (by decide) q) ?_
        show Dn p e below s _ _ _ s₁ (mkF m 200 #[.val (.long y1), .second, .val (.long y2), .second, .val (.int x3), .val (.int sel), .val (.long mm), .second, .unset, .unset, .unset, .unset, .unset, .unset, .unset, .unset, .unset] [])
        refine Dn.st (fun t q => XS.iload X0.here hx rfl (hb hby at_200) rfl  q) ?_
        show Dn p e below s _ _ _ s₁ (mkF m 202 #[.val (.long y1), .second, .val (.long y2), .second, .val (.int x3), .val (.int sel), .val (.long mm), .second, .unset, .unset, .unset, .unset, .unset, .unset, .unset, .unset, .unset] [(.int sel)])
        refine Dn.st (fun t q => XS.iconst X0.here hx rfl (hb hby at_202) q) ?_
        show Dn p e below s _ _ _ s₁ (mkF m 203 #[.val (.long y1), .second, .val (.long y2), .second, .val (.int x3), .val (.int sel), .val (.long mm), .second, .unset, .unset, .unset, .unset, .unset, .unset, .unset, .unset, .unset] [(.int (2 : Int32)), (.int sel)])
        by_cases hs2 : sel = (2 : Int32)
        · refine Dn.st (fun t q => XS.icmpNo X0.here hx rfl (hb hby at_203) rfl (teq hs2).2 q) ?_
          show Dn p e below s _ _ _ s₁ (mkF m 206 #[.val (.long y1), .second, .val (.long y2), .second, .val (.int x3), .val (.int sel), .val (.long mm), .second, .unset, .unset, .unset, .unset, .unset, .unset, .unset, .unset, .unset] [])
          refine Dn.st (fun t q => XS.lload X0.here hx rfl (hb hby at_206) rfl  q) ?_
          show Dn p e below s _ _ _ s₁ (mkF m 208 #[.val (.long y1), .second, .val (.long y2), .second, .val (.int x3), .val (.int sel), .val (.long mm), .second, .unset, .unset, .unset, .unset, .unset, .unset, .unset, .unset, .unset] [(.long mm)])
          refine Dn.st (fun t q => XS.lconst X0.here hx rfl (hb hby at_208) q) ?_
          show Dn p e below s _ _ _ s₁ (mkF m 209 #[.val (.long y1), .second, .val (.long y2), .second, .val (.int x3), .val (.int sel), .val (.long mm), .second, .unset, .unset, .unset, .unset, .unset, .unset, .unset, .unset, .unset] [(.long (1 : Int64)), (.long mm)])
          refine Dn.st (fun t q => XS.lor X0.here hx rfl (hb hby at_209) rfl q) ?_
          show Dn p e below s _ _ _ s₁ (mkF m 210 #[.val (.long y1), .second, .val (.long y2), .second, .val (.int x3), .val (.int sel), .val (.long mm), .second, .unset, .unset, .unset, .unset, .unset, .unset, .unset, .unset, .unset] [(.long (mm ||| (1 : Int64)))])
          generalize hmd : (mm ||| (1 : Int64)) = md
          show Dn p e below s _ _ _ s₁ (mkF m 210 #[.val (.long y1), .second, .val (.long y2), .second, .val (.int x3), .val (.int sel), .val (.long mm), .second, .unset, .unset, .unset, .unset, .unset, .unset, .unset, .unset, .unset] [(.long md)])
          have hodd := own_odd hm0 hmd
          refine Dn.st (fun t q => XS.lstore X0.here hx rfl (hb hby at_210) rfl (l' := #[.val (.long y1), .second, .val (.long y2), .second, .val (.int x3), .val (.int sel), .val (.long md), .second, .unset, .unset, .unset, .unset, .unset, .unset, .unset, .unset, .unset]) rfl q) ?_
          show Dn p e below s _ _ _ s₁ (mkF m 212 #[.val (.long y1), .second, .val (.long y2), .second, .val (.int x3), .val (.int sel), .val (.long md), .second, .unset, .unset, .unset, .unset, .unset, .unset, .unset, .unset, .unset] [])
          refine Dn.st (X0.ldc2Long hx hown (mvT hZ (hw _ (List.mem_of_getElem? (i := 7) rfl))) (g := (mkF m 212 #[.val (.long y1), .second, .val (.long y2), .second, .val (.int x3), .val (.int sel), .val (.long md), .second, .unset, .unset, .unset, .unset, .unset, .unset, .unset, .unset, .unset] [])) rfl (hb hby at_212)) ?_
          show Dn p e below s _ _ _ s₁ (mkF m 215 #[.val (.long y1), .second, .val (.long y2), .second, .val (.int x3), .val (.int sel), .val (.long md), .second, .unset, .unset, .unset, .unset, .unset, .unset, .unset, .unset, .unset] [(.long (2 : Int64))])
          refine Dn.st (fun t q => XS.lstore X0.here hx rfl (hb hby at_215) rfl (l' := #[.val (.long y1), .second, .val (.long y2), .second, .val (.int x3), .val (.int sel), .val (.long md), .second, .val (.long (2 : Int64)), .second, .unset, .unset, .unset, .unset, .unset, .unset, .unset]) rfl q) ?_
          show Dn p e below s _ _ _ s₁ (mkF m 217 #[.val (.long y1), .second, .val (.long y2), .second, .val (.int x3), .val (.int sel), .val (.long md), .second, .val (.long (2 : Int64)), .second, .unset, .unset, .unset, .unset, .unset, .unset, .unset] [])
          refine Dn.st (fun t q => XS.lload X0.here hx rfl (hb hby at_217) rfl  q) ?_
          show Dn p e below s _ _ _ s₁ (mkF m 219 #[.val (.long y1), .second, .val (.long y2), .second, .val (.int x3), .val (.int sel), .val (.long md), .second, .val (.long (2 : Int64)), .second, .unset, .unset, .unset, .unset, .unset, .unset, .unset] [(.long md)])
          refine Dn.st (fun t q => XS.lconst X0.here hx rfl (hb hby at_219) q) ?_
          show Dn p e below s _ _ _ s₁ (mkF m 220 #[.val (.long y1), .second, .val (.long y2), .second, .val (.int x3), .val (.int sel), .val (.long md), .second, .val (.long (2 : Int64)), .second, .unset, .unset, .unset, .unset, .unset, .unset, .unset] [(.long (1 : Int64)), (.long md)])
          refine Dn.st (fun t q => XS.lcmp X0.here hx rfl (hb hby at_220) rfl q) ?_
          show Dn p e below s _ _ _ s₁ (mkF m 221 #[.val (.long y1), .second, .val (.long y2), .second, .val (.int x3), .val (.int sel), .val (.long md), .second, .val (.long (2 : Int64)), .second, .unset, .unset, .unset, .unset, .unset, .unset, .unset] [(.int (lcmpW md (1 : Int64)))])
          by_cases hz : md = (1 : Int64)
          · refine Dn.st (fun t q => XS.ifNo X0.here hx rfl (hb hby at_221) rfl ((if0 _ _).trans (teq ((lw_eq _ _).mpr hz)).2) q) ?_
            show Dn p e below s _ _ _ s₁ (mkF m 224 #[.val (.long y1), .second, .val (.long y2), .second, .val (.int x3), .val (.int sel), .val (.long md), .second, .val (.long (2 : Int64)), .second, .unset, .unset, .unset, .unset, .unset, .unset, .unset] [])
            refine Dn.st (fun t q => XS.lconst X0.here hx rfl (hb hby at_224) q) ?_
            show Dn p e below s _ _ _ s₁ (mkF m 225 #[.val (.long y1), .second, .val (.long y2), .second, .val (.int x3), .val (.int sel), .val (.long md), .second, .val (.long (2 : Int64)), .second, .unset, .unset, .unset, .unset, .unset, .unset, .unset] [(.long (0 : Int64))])
            refine Dn.st (fun t q => XS.goto X0.here hx rfl (pc0 := 225) (pc' := 236) rfl (hb hby at_225) (by decide) (by decide) q) ?_
            show Dn p e below s _ _ _ s₁ (mkF m 236 #[.val (.long y1), .second, .val (.long y2), .second, .val (.int x3), .val (.int sel), .val (.long md), .second, .val (.long (2 : Int64)), .second, .unset, .unset, .unset, .unset, .unset, .unset, .unset] [(.long (0 : Int64))])
            refine Dn.st (fun t q => XS.lstore X0.here hx rfl (hb hby at_236) rfl (l' := #[.val (.long y1), .second, .val (.long y2), .second, .val (.int x3), .val (.int sel), .val (.long md), .second, .val (.long (2 : Int64)), .second, .val (.long (0 : Int64)), .second, .unset, .unset, .unset, .unset, .unset]) rfl q) ?_
            show Dn p e below s _ _ _ s₁ (mkF m 238 #[.val (.long y1), .second, .val (.long y2), .second, .val (.int x3), .val (.int sel), .val (.long md), .second, .val (.long (2 : Int64)), .second, .val (.long (0 : Int64)), .second, .unset, .unset, .unset, .unset, .unset] [])
            refine Dn.st (fun t q => XS.goto X0.here hx rfl (pc0 := 238) (pc' := 279) rfl (hb hby at_238) (by decide) (by decide) q) ?_
            show Dn p e below s _ _ _ s₁ (mkF m 279 #[.val (.long y1), .second, .val (.long y2), .second, .val (.int x3), .val (.int sel), .val (.long md), .second, .val (.long (2 : Int64)), .second, .val (.long (0 : Int64)), .second, .unset, .unset, .unset, .unset, .unset] [])
            refine Dn.st (fun t q => XS.lload X0.here hx rfl (hb hby at_279) rfl  q) ?_
            show Dn p e below s _ _ _ s₁ (mkF m 281 #[.val (.long y1), .second, .val (.long y2), .second, .val (.int x3), .val (.int sel), .val (.long md), .second, .val (.long (2 : Int64)), .second, .val (.long (0 : Int64)), .second, .unset, .unset, .unset, .unset, .unset] [(.long (2 : Int64))])
            refine Dn.st (fun t q => XS.lload X0.here hx rfl (hb hby at_281) rfl  q) ?_
            show Dn p e below s _ _ _ s₁ (mkF m 283 #[.val (.long y1), .second, .val (.long y2), .second, .val (.int x3), .val (.int sel), .val (.long md), .second, .val (.long (2 : Int64)), .second, .val (.long (0 : Int64)), .second, .unset, .unset, .unset, .unset, .unset] [(.long md), (.long (2 : Int64))])
            obtain ⟨_, _, ⟨T6, Lq6, kq_6, nq_6⟩, -, X6, ⟨Lc6, hQ6, lq6, yq6, zq6⟩, st6⟩ := Jvm.LawKit.callS X0 hx (y := (⟨"com/example/tideway/tideway/NumberTheory", "inverseModulo", "(JJ)J"⟩ : MethodName)) hown (mvT hZ (hw _ (List.mem_of_getElem? (i := 2) rfl))) (mvT hZ (hw _ (List.mem_of_getElem? (i := 3) rfl))) (mvT hZ (hw _ (List.mem_of_getElem? (i := 4) rfl))) (mvT hZ (hw _ (List.mem_of_getElem? (i := 5) rfl))) (by decide) (backOf (W := 0) (rm1 l Z a0 hw [] (2 : Int64) md  h0 n0 Z0 (by decide) hodd.1) hZ (hw _ (List.mem_of_getElem? (i := 5) rfl)) (hw _ (List.mem_of_getElem? (i := 4) rfl)) (by decide) (by decide)) (g := (mkF m 283 #[.val (.long y1), .second, .val (.long y2), .second, .val (.int x3), .val (.int sel), .val (.long md), .second, .val (.long (2 : Int64)), .second, .val (.long (0 : Int64)), .second, .unset, .unset, .unset, .unset, .unset] [(.long md), (.long (2 : Int64))])) rfl (by rw [hml]; rfl) (argsL := [(.long (2 : Int64)), (.long md)]) (rest := []) (lenOf pd_0 rfl) rfl (by show 2 * 0 + _ ≤ _; exact Nat.le_of_eq rfl) (hb hby at_283) (fun _ _ => ⟨rfl, e0, (by decide : 0 + 0 ≤ _), (by decide : 0 + 0 ≤ _)⟩)
            dsimp only [Pt.U, Pt.locs, Pt.cells, Pt.slots] at X6 lq6 yq6 zq6 st6 hQ6
            subst lq6 yq6 zq6
            obtain ⟨xx, rfl, N6q, hq6, hX⟩ := hQ6
            have N0 := Fr.app N0 N6q
            have e6 : T6.heap = h0 := hq6
            refine Dn.st st6 ?_
            show Dn p e below s _ _ _ T6 (mkF m 286 #[.val (.long y1), .second, .val (.long y2), .second, .val (.int x3), .val (.int sel), .val (.long md), .second, .val (.long (2 : Int64)), .second, .val (.long (0 : Int64)), .second, .unset, .unset, .unset, .unset, .unset] [(.long xx)])
            refine Dn.st (fun t q => XS.lload X6.here hx rfl (hb hby at_286) rfl  q) ?_
            show Dn p e below s _ _ _ T6 (mkF m 288 #[.val (.long y1), .second, .val (.long y2), .second, .val (.int x3), .val (.int sel), .val (.long md), .second, .val (.long (2 : Int64)), .second, .val (.long (0 : Int64)), .second, .unset, .unset, .unset, .unset, .unset] [(.long (0 : Int64)), (.long xx)])
            refine Dn.st (fun t q => XS.lcmp X6.here hx rfl (hb hby at_288) rfl q) ?_
            show Dn p e below s _ _ _ T6 (mkF m 289 #[.val (.long y1), .second, .val (.long y2), .second, .val (.int x3), .val (.int sel), .val (.long md), .second, .val (.long (2 : Int64)), .second, .val (.long (0 : Int64)), .second, .unset, .unset, .unset, .unset, .unset] [(.int (lcmpW xx (0 : Int64)))])
            refine Dn.st (fun t q => XS.ifNo X6.here hx rfl (hb hby at_289) rfl ((if0 _ _).trans (teq ((lw_eq _ _).mpr (own_s2z hz hX))).2) q) ?_
            show Dn p e below s _ _ _ T6 (mkF m 292 #[.val (.long y1), .second, .val (.long y2), .second, .val (.int x3), .val (.int sel), .val (.long md), .second, .val (.long (2 : Int64)), .second, .val (.long (0 : Int64)), .second, .unset, .unset, .unset, .unset, .unset] [])
            refine Dn.st (fun t q => XS.iconst X6.here hx rfl (hb hby at_292) q) ?_
            show Dn p e below s _ _ _ T6 (mkF m 293 #[.val (.long y1), .second, .val (.long y2), .second, .val (.int x3), .val (.int sel), .val (.long md), .second, .val (.long (2 : Int64)), .second, .val (.long (0 : Int64)), .second, .unset, .unset, .unset, .unset, .unset] [(.int (1 : Int32))])
            refine Dn.st (fun t q => XS.goto X6.here hx rfl (pc0 := 293) (pc' := 297) rfl (hb hby at_293) (by decide) (by decide) q) ?_
            show Dn p e below s _ _ _ T6 (mkF m 297 #[.val (.long y1), .second, .val (.long y2), .second, .val (.int x3), .val (.int sel), .val (.long md), .second, .val (.long (2 : Int64)), .second, .val (.long (0 : Int64)), .second, .unset, .unset, .unset, .unset, .unset] [(.int (1 : Int32))])
            exact Dn.retZ X6 hx Bd.notSynchronized (t := .boolean) Bd.returns (by simp) (hb hby at_297) (by rw [e6]; exact ⟨rfl, N0⟩) (by decide) (by decide)
          · refine Dn.st (fun t q => XS.ifYes X0.here hx rfl (pc0 := 221) (pc' := 228) rfl (hb hby at_221) rfl ((if0 _ _).trans (feq (mt (lw_eq _ _).mp hz)).2) (by decide) (by decide) q) ?_
            show Dn p e below s _ _ _ s₁ (mkF m 228 #[.val (.long y1), .second, .val (.long y2), .second, .val (.int x3), .val (.int sel), .val (.long md), .second, .val (.long (2 : Int64)), .second, .unset, .unset, .unset, .unset, .unset, .unset, .unset] [])
            refine Dn.st (fun t q => XS.lload X0.here hx rfl (hb hby at_228) rfl  q) ?_
            show Dn p e below s _ _ _ s₁ (mkF m 230 #[.val (.long y1), .second, .val (.long y2), .second, .val (.int x3), .val (.int sel), .val (.long md), .second, .val (.long (2 : Int64)), .second, .unset, .unset, .unset, .unset, .unset, .unset, .unset] [(.long md)])
            refine Dn.st (X0.ldc2Long hx hown (mvT hZ (hw _ (List.mem_of_getElem? (i := 7) rfl))) (g := (mkF m 230 #[.val (.long y1), .second, .val (.long y2), .second, .val (.int x3), .val (.int sel), .val (.long md), .second, .val (.long (2 : Int64)), .second, .unset, .unset, .unset, .unset, .unset, .unset, .unset] [(.long md)])) rfl (hb hby at_230)) ?_
            show Dn p e below s _ _ _ s₁ (mkF m 233 #[.val (.long y1), .second, .val (.long y2), .second, .val (.int x3), .val (.int sel), .val (.long md), .second, .val (.long (2 : Int64)), .second, .unset, .unset, .unset, .unset, .unset, .unset, .unset] [(.long (2 : Int64)), (.long md)])
            refine Dn.st (fun t q => XS.ldiv X0.here hx rfl (hb hby at_233) rfl (by decide) q) ?_
            show Dn p e below s _ _ _ s₁ (mkF m 234 #[.val (.long y1), .second, .val (.long y2), .second, .val (.int x3), .val (.int sel), .val (.long md), .second, .val (.long (2 : Int64)), .second, .unset, .unset, .unset, .unset, .unset, .unset, .unset] [(.long (md / (2 : Int64)))])
            refine Dn.st (fun t q => XS.lconst X0.here hx rfl (hb hby at_234) q) ?_
            show Dn p e below s _ _ _ s₁ (mkF m 235 #[.val (.long y1), .second, .val (.long y2), .second, .val (.int x3), .val (.int sel), .val (.long md), .second, .val (.long (2 : Int64)), .second, .unset, .unset, .unset, .unset, .unset, .unset, .unset] [(.long (1 : Int64)), (.long (md / (2 : Int64)))])
            refine Dn.st (fun t q => XS.ladd X0.here hx rfl (hb hby at_235) rfl q) ?_
            show Dn p e below s _ _ _ s₁ (mkF m 236 #[.val (.long y1), .second, .val (.long y2), .second, .val (.int x3), .val (.int sel), .val (.long md), .second, .val (.long (2 : Int64)), .second, .unset, .unset, .unset, .unset, .unset, .unset, .unset] [(.long ((md / (2 : Int64)) + (1 : Int64)))])
            refine Dn.st (fun t q => XS.lstore X0.here hx rfl (hb hby at_236) rfl (l' := #[.val (.long y1), .second, .val (.long y2), .second, .val (.int x3), .val (.int sel), .val (.long md), .second, .val (.long (2 : Int64)), .second, .val (.long ((md / (2 : Int64)) + (1 : Int64))), .second, .unset, .unset, .unset, .unset, .unset]) rfl q) ?_
            show Dn p e below s _ _ _ s₁ (mkF m 238 #[.val (.long y1), .second, .val (.long y2), .second, .val (.int x3), .val (.int sel), .val (.long md), .second, .val (.long (2 : Int64)), .second, .val (.long ((md / (2 : Int64)) + (1 : Int64))), .second, .unset, .unset, .unset, .unset, .unset] [])
            refine Dn.st (fun t q => XS.goto X0.here hx rfl (pc0 := 238) (pc' := 279) rfl (hb hby at_238) (by decide) (by decide) q) ?_
            show Dn p e below s _ _ _ s₁ (mkF m 279 #[.val (.long y1), .second, .val (.long y2), .second, .val (.int x3), .val (.int sel), .val (.long md), .second, .val (.long (2 : Int64)), .second, .val (.long ((md / (2 : Int64)) + (1 : Int64))), .second, .unset, .unset, .unset, .unset, .unset] [])
            refine Dn.st (fun t q => XS.lload X0.here hx rfl (hb hby at_279) rfl  q) ?_
            show Dn p e below s _ _ _ s₁ (mkF m 281 #[.val (.long y1), .second, .val (.long y2), .second, .val (.int x3), .val (.int sel), .val (.long md), .second, .val (.long (2 : Int64)), .second, .val (.long ((md / (2 : Int64)) + (1 : Int64))), .second, .unset, .unset, .unset, .unset, .unset] [(.long (2 : Int64))])
            refine Dn.st (fun t q => XS.lload X0.here hx rfl (hb hby at_281) rfl  q) ?_
            show Dn p e below s _ _ _ s₁ (mkF m 283 #[.val (.long y1), .second, .val (.long y2), .second, .val (.int x3), .val (.int sel), .val (.long md), .second, .val (.long (2 : Int64)), .second, .val (.long ((md / (2 : Int64)) + (1 : Int64))), .second, .unset, .unset, .unset, .unset, .unset] [(.long md), (.long (2 : Int64))])
            obtain ⟨_, _, ⟨T7, Lq7, kq_7, nq_7⟩, -, X7, ⟨Lc7, hQ7, lq7, yq7, zq7⟩, st7⟩ := Jvm.LawKit.callS X0 hx (y := (⟨"com/example/tideway/tideway/NumberTheory", "inverseModulo", "(JJ)J"⟩ : MethodName)) hown (mvT hZ (hw _ (List.mem_of_getElem? (i := 2) rfl))) (mvT hZ (hw _ (List.mem_of_getElem? (i := 3) rfl))) (mvT hZ (hw _ (List.mem_of_getElem? (i := 4) rfl))) (mvT hZ (hw _ (List.mem_of_getElem? (i := 5) rfl))) (by decide) (backOf (W := 0) (rm1 l Z a0 hw [] (2 : Int64) md  h0 n0 Z0 (by decide) hodd.1) hZ (hw _ (List.mem_of_getElem? (i := 5) rfl)) (hw _ (List.mem_of_getElem? (i := 4) rfl)) (by decide) (by decide)) (g := (mkF m 283 #[.val (.long y1), .second, .val (.long y2), .second, .val (.int x3), .val (.int sel), .val (.long md), .second, .val (.long (2 : Int64)), .second, .val (.long ((md / (2 : Int64)) + (1 : Int64))), .second, .unset, .unset, .unset, .unset, .unset] [(.long md), (.long (2 : Int64))])) rfl (by rw [hml]; rfl) (argsL := [(.long (2 : Int64)), (.long md)]) (rest := []) (lenOf pd_0 rfl) rfl (by show 2 * 0 + _ ≤ _; exact Nat.le_of_eq rfl) (hb hby at_283) (fun _ _ => ⟨rfl, e0, (by decide : 0 + 0 ≤ _), (by decide : 0 + 0 ≤ _)⟩)
            dsimp only [Pt.U, Pt.locs, Pt.cells, Pt.slots] at X7 lq7 yq7 zq7 st7 hQ7
            subst lq7 yq7 zq7
            obtain ⟨xx, rfl, N7q, hq7, hX⟩ := hQ7
            have N0 := Fr.app N0 N7q
            have e7 : T7.heap = h0 := hq7
            refine Dn.st st7 ?_
            show Dn p e below s _ _ _ T7 (mkF m 286 #[.val (.long y1), .second, .val (.long y2), .second, .val (.int x3), .val (.int sel), .val (.long md), .second, .val (.long (2 : Int64)), .second, .val (.long ((md / (2 : Int64)) + (1 : Int64))), .second, .unset, .unset, .unset, .unset, .unset] [(.long xx)])
            refine Dn.st (fun t q => XS.lload X7.here hx rfl (hb hby at_286) rfl  q) ?_
            show Dn p e below s _ _ _ T7 (mkF m 288 #[.val (.long y1), .second, .val (.long y2), .second, .val (.int x3), .val (.int sel), .val (.long md), .second, .val (.long (2 : Int64)), .second, .val (.long ((md / (2 : Int64)) + (1 : Int64))), .second, .unset, .unset, .unset, .unset, .unset] [(.long ((md / (2 : Int64)) + (1 : Int64))), (.long xx)])
            refine Dn.st (fun t q => XS.lcmp X7.here hx rfl (hb hby at_288) rfl q) ?_
            show Dn p e below s _ _ _ T7 (mkF m 289 #[.val (.long y1), .second, .val (.long y2), .second, .val (.int x3), .val (.int sel), .val (.long md), .second, .val (.long (2 : Int64)), .second, .val (.long ((md / (2 : Int64)) + (1 : Int64))), .second, .unset, .unset, .unset, .unset, .unset] [(.int (lcmpW xx ((md / (2 : Int64)) + (1 : Int64))))])
            refine Dn.st (fun t q => XS.ifNo X7.here hx rfl (hb hby at_289) rfl ((if0 _ _).trans (teq ((lw_eq _ _).mpr (own_s2 hodd hz hX))).2) q) ?_
            show Dn p e below s _ _ _ T7 (mkF m 292 #[.val (.long y1), .second, .val (.long y2), .second, .val (.int x3), .val (.int sel), .val (.long md), .second, .val (.long (2 : Int64)), .second, .val (.long ((md / (2 : Int64)) + (1 : Int64))), .second, .unset, .unset, .unset, .unset, .unset] [])
            refine Dn.st (fun t q => XS.iconst X7.here hx rfl (hb hby at_292) q) ?_
            show Dn p e below s _ _ _ T7 (mkF m 293 #[.val (.long y1), .second, .val (.long y2), .second, .val (.int x3), .val (.int sel), .val (.long md), .second, .val (.long (2 : Int64)), .second, .val (.long ((md / (2 : Int64)) + (1 : Int64))), .second, .unset, .unset, .unset, .unset, .unset] [(.int (1 : Int32))])
            refine Dn.st (fun t q => XS.goto X7.here hx rfl (pc0 := 293) (pc' := 297) rfl (hb hby at_293) (by decide) (by decide) q) ?_
            show Dn p e below s _ _ _ T7 (mkF m 297 #[.val (.long y1), .second, .val (.long y2), .second, .val (.int x3), .val (.int sel), .val (.long md), .second, .val (.long (2 : Int64)), .second, .val (.long ((md / (2 : Int64)) + (1 : Int64))), .second, .unset, .unset, .unset, .unset, .unset] [(.int (1 : Int32))])
            exact Dn.retZ X7 hx Bd.notSynchronized (t := .boolean) Bd.returns (by simp) (hb hby at_297) (by rw [e7]; exact ⟨rfl, N0⟩) (by decide) (by decide)
        · refine Dn.st (fun t q => XS.icmpYes X0.here hx rfl (pc0 := 203) (pc' := 241) rfl (hb hby at_203) rfl (feq hs2).2 (by decide) (by decide) q) ?_
          show Dn p e below s _ _ _ s₁ (mkF m 241 #[.val (.long y1), .second, .val (.long y2), .second, .val (.int x3), .val (.int sel), .val (.long mm), .second, .unset, .unset, .unset, .unset, .unset, .unset, .unset, .unset, .unset] [])
          refine Dn.st (fun t q => XS.lload X0.here hx rfl (hb hby at_241) rfl  q) ?_
          show Dn p e below s _ _ _ s₁ (mkF m 243 #[.val (.long y1), .second, .val (.long y2), .second, .val (.int x3), .val (.int sel), .val (.long mm), .second, .unset, .unset, .unset, .unset, .unset, .unset, .unset, .unset, .unset] [(.long mm)])
          refine Dn.st (fun t q => XS.lconst X0.here hx rfl (hb hby at_243) q) ?_
          show Dn p e below s _ _ _ s₁ (mkF m 244 #[.val (.long y1), .second, .val (.long y2), .second, .val (.int x3), .val (.int sel), .val (.long mm), .second, .unset, .unset, .unset, .unset, .unset, .unset, .unset, .unset, .unset] [(.long (1 : Int64)), (.long mm)])
          refine Dn.st (fun t q => XS.lor X0.here hx rfl (hb hby at_244) rfl q) ?_
          show Dn p e below s _ _ _ s₁ (mkF m 245 #[.val (.long y1), .second, .val (.long y2), .second, .val (.int x3), .val (.int sel), .val (.long mm), .second, .unset, .unset, .unset, .unset, .unset, .unset, .unset, .unset, .unset] [(.long (mm ||| (1 : Int64)))])
          generalize hmd : (mm ||| (1 : Int64)) = md
          show Dn p e below s _ _ _ s₁ (mkF m 245 #[.val (.long y1), .second, .val (.long y2), .second, .val (.int x3), .val (.int sel), .val (.long mm), .second, .unset, .unset, .unset, .unset, .unset, .unset, .unset, .unset, .unset] [(.long md)])
          have hodd := own_odd hm0 hmd
          refine Dn.st (fun t q => XS.lstore X0.here hx rfl (hb hby at_245) rfl (l' := #[.val (.long y1), .second, .val (.long y2), .second, .val (.int x3), .val (.int sel), .val (.long md), .second, .unset, .unset, .unset, .unset, .unset, .unset, .unset, .unset, .unset]) rfl q) ?_
          show Dn p e below s _ _ _ s₁ (mkF m 247 #[.val (.long y1), .second, .val (.long y2), .second, .val (.int x3), .val (.int sel), .val (.long md), .second, .unset, .unset, .unset, .unset, .unset, .unset, .unset, .unset, .unset] [])
          refine Dn.st (fun t q => XS.lload X0.here hx rfl (hb hby at_247) rfl  q) ?_
          show Dn p e below s _ _ _ s₁ (mkF m 249 #[.val (.long y1), .second, .val (.long y2), .second, .val (.int x3), .val (.int sel), .val (.long md), .second, .unset, .unset, .unset, .unset, .unset, .unset, .unset, .unset, .unset] [(.long md)])
          refine Dn.st (X0.ldc2Long hx hown (mvT hZ (hw _ (List.mem_of_getElem? (i := 6) rfl))) (g := (mkF m 249 #[.val (.long y1), .second, .val (.long y2), .second, .val (.int x3), .val (.int sel), .val (.long md), .second, .unset, .unset, .unset, .unset, .unset, .unset, .unset, .unset, .unset] [(.long md)])) rfl (hb hby at_249)) ?_
          show Dn p e below s _ _ _ s₁ (mkF m 252 #[.val (.long y1), .second, .val (.long y2), .second, .val (.int x3), .val (.int sel), .val (.long md), .second, .unset, .unset, .unset, .unset, .unset, .unset, .unset, .unset, .unset] [(.long (3 : Int64)), (.long md)])
          refine Dn.st (fun t q => XS.lcmp X0.here hx rfl (hb hby at_252) rfl q) ?_
          show Dn p e below s _ _ _ s₁ (mkF m 253 #[.val (.long y1), .second, .val (.long y2), .second, .val (.int x3), .val (.int sel), .val (.long md), .second, .unset, .unset, .unset, .unset, .unset, .unset, .unset, .unset, .unset] [(.int (lcmpW md (3 : Int64)))])
          by_cases hz : md < (3 : Int64)
          · refine Dn.st (fun t q => XS.ifNo X0.here hx rfl (hb hby at_253) rfl ((if0 _ _).trans (tlt ((lw_lt _ _).mpr hz)).2.1) q) ?_
            show Dn p e below s _ _ _ s₁ (mkF m 256 #[.val (.long y1), .second, .val (.long y2), .second, .val (.int x3), .val (.int sel), .val (.long md), .second, .unset, .unset, .unset, .unset, .unset, .unset, .unset, .unset, .unset] [])
            refine Dn.st (X0.ldc2Long hx hown (mvT hZ (hw _ (List.mem_of_getElem? (i := 6) rfl))) (g := (mkF m 256 #[.val (.long y1), .second, .val (.long y2), .second, .val (.int x3), .val (.int sel), .val (.long md), .second, .unset, .unset, .unset, .unset, .unset, .unset, .unset, .unset, .unset] [])) rfl (hb hby at_256)) ?_
            show Dn p e below s _ _ _ s₁ (mkF m 259 #[.val (.long y1), .second, .val (.long y2), .second, .val (.int x3), .val (.int sel), .val (.long md), .second, .unset, .unset, .unset, .unset, .unset, .unset, .unset, .unset, .unset] [(.long (3 : Int64))])
            refine Dn.st (fun t q => XS.lstore X0.here hx rfl (hb hby at_259) rfl (l' := #[.val (.long y1), .second, .val (.long y2), .second, .val (.int x3), .val (.int sel), .val (.long (3 : Int64)), .second, .unset, .unset, .unset, .unset, .unset, .unset, .unset, .unset, .unset]) rfl q) ?_
            show Dn p e below s _ _ _ s₁ (mkF m 261 #[.val (.long y1), .second, .val (.long y2), .second, .val (.int x3), .val (.int sel), .val (.long (3 : Int64)), .second, .unset, .unset, .unset, .unset, .unset, .unset, .unset, .unset, .unset] [])
            refine Dn.st (fun t q => XS.lload X0.here hx rfl (hb hby at_261) rfl  q) ?_
            show Dn p e below s _ _ _ s₁ (mkF m 263 #[.val (.long y1), .second, .val (.long y2), .second, .val (.int x3), .val (.int sel), .val (.long (3 : Int64)), .second, .unset, .unset, .unset, .unset, .unset, .unset, .unset, .unset, .unset] [(.long (3 : Int64))])
            refine Dn.st (X0.ldc2Long hx hown (mvT hZ (hw _ (List.mem_of_getElem? (i := 7) rfl))) (g := (mkF m 263 #[.val (.long y1), .second, .val (.long y2), .second, .val (.int x3), .val (.int sel), .val (.long (3 : Int64)), .second, .unset, .unset, .unset, .unset, .unset, .unset, .unset, .unset, .unset] [(.long (3 : Int64))])) rfl (hb hby at_263)) ?_
            show Dn p e below s _ _ _ s₁ (mkF m 266 #[.val (.long y1), .second, .val (.long y2), .second, .val (.int x3), .val (.int sel), .val (.long (3 : Int64)), .second, .unset, .unset, .unset, .unset, .unset, .unset, .unset, .unset, .unset] [(.long (2 : Int64)), (.long (3 : Int64))])
            refine Dn.st (fun t q => XS.lsub X0.here hx rfl (hb hby at_266) rfl q) ?_
            show Dn p e below s _ _ _ s₁ (mkF m 267 #[.val (.long y1), .second, .val (.long y2), .second, .val (.int x3), .val (.int sel), .val (.long (3 : Int64)), .second, .unset, .unset, .unset, .unset, .unset, .unset, .unset, .unset, .unset] [(.long ((3 : Int64) - (2 : Int64)))])
            refine Dn.st (fun t q => XS.lstore X0.here hx rfl (hb hby at_267) rfl (l' := #[.val (.long y1), .second, .val (.long y2), .second, .val (.int x3), .val (.int sel), .val (.long (3 : Int64)), .second, .val (.long ((3 : Int64) - (2 : Int64))), .second, .unset, .unset, .unset, .unset, .unset, .unset, .unset]) rfl q) ?_
            show Dn p e below s _ _ _ s₁ (mkF m 269 #[.val (.long y1), .second, .val (.long y2), .second, .val (.int x3), .val (.int sel), .val (.long (3 : Int64)), .second, .val (.long ((3 : Int64) - (2 : Int64))), .second, .unset, .unset, .unset, .unset, .unset, .unset, .unset] [])
            refine Dn.st (fun t q => XS.lload X0.here hx rfl (hb hby at_269) rfl  q) ?_
            show Dn p e below s _ _ _ s₁ (mkF m 271 #[.val (.long y1), .second, .val (.long y2), .second, .val (.int x3), .val (.int sel), .val (.long (3 : Int64)), .second, .val (.long ((3 : Int64) - (2 : Int64))), .second, .unset, .unset, .unset, .unset, .unset, .unset, .unset] [(.long (3 : Int64))])
            refine Dn.st (fun t q => XS.lconst X0.here hx rfl (hb hby at_271) q) ?_
            show Dn p e below s _ _ _ s₁ (mkF m 272 #[.val (.long y1), .second, .val (.long y2), .second, .val (.int x3), .val (.int sel), .val (.long (3 : Int64)), .second, .val (.long ((3 : Int64) - (2 : Int64))), .second, .unset, .unset, .unset, .unset, .unset, .unset, .unset] [(.long (1 : Int64)), (.long (3 : Int64))])
            refine Dn.st (fun t q => XS.lsub X0.here hx rfl (hb hby at_272) rfl q) ?_
            show Dn p e below s _ _ _ s₁ (mkF m 273 #[.val (.long y1), .second, .val (.long y2), .second, .val (.int x3), .val (.int sel), .val (.long (3 : Int64)), .second, .val (.long ((3 : Int64) - (2 : Int64))), .second, .unset, .unset, .unset, .unset, .unset, .unset, .unset] [(.long ((3 : Int64) - (1 : Int64)))])
            refine Dn.st (X0.ldc2Long hx hown (mvT hZ (hw _ (List.mem_of_getElem? (i := 7) rfl))) (g := (mkF m 273 #[.val (.long y1), .second, .val (.long y2), .second, .val (.int x3), .val (.int sel), .val (.long (3 : Int64)), .second, .val (.long ((3 : Int64) - (2 : Int64))), .second, .unset, .unset, .unset, .unset, .unset, .unset, .unset] [(.long ((3 : Int64) - (1 : Int64)))])) rfl (hb hby at_273)) ?_
            show Dn p e below s _ _ _ s₁ (mkF m 276 #[.val (.long y1), .second, .val (.long y2), .second, .val (.int x3), .val (.int sel), .val (.long (3 : Int64)), .second, .val (.long ((3 : Int64) - (2 : Int64))), .second, .unset, .unset, .unset, .unset, .unset, .unset, .unset] [(.long (2 : Int64)), (.long ((3 : Int64) - (1 : Int64)))])
            refine Dn.st (fun t q => XS.ldiv X0.here hx rfl (hb hby at_276) rfl (by decide) q) ?_
            show Dn p e below s _ _ _ s₁ (mkF m 277 #[.val (.long y1), .second, .val (.long y2), .second, .val (.int x3), .val (.int sel), .val (.long (3 : Int64)), .second, .val (.long ((3 : Int64) - (2 : Int64))), .second, .unset, .unset, .unset, .unset, .unset, .unset, .unset] [(.long (((3 : Int64) - (1 : Int64)) / (2 : Int64)))])
            refine Dn.st (fun t q => XS.lstore X0.here hx rfl (hb hby at_277) rfl (l' := #[.val (.long y1), .second, .val (.long y2), .second, .val (.int x3), .val (.int sel), .val (.long (3 : Int64)), .second, .val (.long ((3 : Int64) - (2 : Int64))), .second, .val (.long (((3 : Int64) - (1 : Int64)) / (2 : Int64))), .second, .unset, .unset, .unset, .unset, .unset]) rfl q) ?_
            show Dn p e below s _ _ _ s₁ (mkF m 279 #[.val (.long y1), .second, .val (.long y2), .second, .val (.int x3), .val (.int sel), .val (.long (3 : Int64)), .second, .val (.long ((3 : Int64) - (2 : Int64))), .second, .val (.long (((3 : Int64) - (1 : Int64)) / (2 : Int64))), .second, .unset, .unset, .unset, .unset, .unset] [])
            refine Dn.st (fun t q => XS.lload X0.here hx rfl (hb hby at_279) rfl  q) ?_
            show Dn p e below s _ _ _ s₁ (mkF m 281 #[.val (.long y1), .second, .val (.long y2), .second, .val (.int x3), .val (.int sel), .val (.long (3 : Int64)), .second, .val (.long ((3 : Int64) - (2 : Int64))), .second, .val (.long (((3 : Int64) - (1 : Int64)) / (2 : Int64))), .second, .unset, .unset, .unset, .unset, .unset] [(.long ((3 : Int64) - (2 : Int64)))])
            refine Dn.st (fun t q => XS.lload X0.here hx rfl (hb hby at_281) rfl  q) ?_
            show Dn p e below s _ _ _ s₁ (mkF m 283 #[.val (.long y1), .second, .val (.long y2), .second, .val (.int x3), .val (.int sel), .val (.long (3 : Int64)), .second, .val (.long ((3 : Int64) - (2 : Int64))), .second, .val (.long (((3 : Int64) - (1 : Int64)) / (2 : Int64))), .second, .unset, .unset, .unset, .unset, .unset] [(.long (3 : Int64)), (.long ((3 : Int64) - (2 : Int64)))])
            obtain ⟨_, _, ⟨T8, Lq8, kq_8, nq_8⟩, -, X8, ⟨Lc8, hQ8, lq8, yq8, zq8⟩, st8⟩ := Jvm.LawKit.callS X0 hx (y := (⟨"com/example/tideway/tideway/NumberTheory", "inverseModulo", "(JJ)J"⟩ : MethodName)) hown (mvT hZ (hw _ (List.mem_of_getElem? (i := 2) rfl))) (mvT hZ (hw _ (List.mem_of_getElem? (i := 3) rfl))) (mvT hZ (hw _ (List.mem_of_getElem? (i := 4) rfl))) (mvT hZ (hw _ (List.mem_of_getElem? (i := 5) rfl))) (by decide) (backOf (W := 0) (rm1 l Z a0 hw [] ((3 : Int64) - (2 : Int64)) (3 : Int64)  h0 n0 Z0 (by decide) (by decide)) hZ (hw _ (List.mem_of_getElem? (i := 5) rfl)) (hw _ (List.mem_of_getElem? (i := 4) rfl)) (by decide) (by decide)) (g := (mkF m 283 #[.val (.long y1), .second, .val (.long y2), .second, .val (.int x3), .val (.int sel), .val (.long (3 : Int64)), .second, .val (.long ((3 : Int64) - (2 : Int64))), .second, .val (.long (((3 : Int64) - (1 : Int64)) / (2 : Int64))), .second, .unset, .unset, .unset, .unset, .unset] [(.long (3 : Int64)), (.long ((3 : Int64) - (2 : Int64)))])) rfl (by rw [hml]; rfl) (argsL := [(.long ((3 : Int64) - (2 : Int64))), (.long (3 : Int64))]) (rest := []) (lenOf pd_0 rfl) rfl (by show 2 * 0 + _ ≤ _; exact Nat.le_of_eq rfl) (hb hby at_283) (fun _ _ => ⟨rfl, e0, (by decide : 0 + 0 ≤ _), (by decide : 0 + 0 ≤ _)⟩)
            dsimp only [Pt.U, Pt.locs, Pt.cells, Pt.slots] at X8 lq8 yq8 zq8 st8 hQ8
            subst lq8 yq8 zq8
            obtain ⟨xx, rfl, N8q, hq8, hX⟩ := hQ8
            have N0 := Fr.app N0 N8q
            have e8 : T8.heap = h0 := hq8
            refine Dn.st st8 ?_
            show Dn p e below s _ _ _ T8 (mkF m 286 #[.val (.long y1), .second, .val (.long y2), .second, .val (.int x3), .val (.int sel), .val (.long (3 : Int64)), .second, .val (.long ((3 : Int64) - (2 : Int64))), .second, .val (.long (((3 : Int64) - (1 : Int64)) / (2 : Int64))), .second, .unset, .unset, .unset, .unset, .unset] [(.long xx)])
            refine Dn.st (fun t q => XS.lload X8.here hx rfl (hb hby at_286) rfl  q) ?_
            show Dn p e below s _ _ _ T8 (mkF m 288 #[.val (.long y1), .second, .val (.long y2), .second, .val (.int x3), .val (.int sel), .val (.long (3 : Int64)), .second, .val (.long ((3 : Int64) - (2 : Int64))), .second, .val (.long (((3 : Int64) - (1 : Int64)) / (2 : Int64))), .second, .unset, .unset, .unset, .unset, .unset] [(.long (((3 : Int64) - (1 : Int64)) / (2 : Int64))), (.long xx)])
            refine Dn.st (fun t q => XS.lcmp X8.here hx rfl (hb hby at_288) rfl q) ?_
            show Dn p e below s _ _ _ T8 (mkF m 289 #[.val (.long y1), .second, .val (.long y2), .second, .val (.int x3), .val (.int sel), .val (.long (3 : Int64)), .second, .val (.long ((3 : Int64) - (2 : Int64))), .second, .val (.long (((3 : Int64) - (1 : Int64)) / (2 : Int64))), .second, .unset, .unset, .unset, .unset, .unset] [(.int (lcmpW xx (((3 : Int64) - (1 : Int64)) / (2 : Int64))))])
            refine Dn.st (fun t q => XS.ifNo X8.here hx rfl (hb hby at_289) rfl ((if0 _ _).trans (teq ((lw_eq _ _).mpr (own_s3z hX))).2) q) ?_
            show Dn p e below s _ _ _ T8 (mkF m 292 #[.val (.long y1), .second, .val (.long y2), .second, .val (.int x3), .val (.int sel), .val (.long (3 : Int64)), .second, .val (.long ((3 : Int64) - (2 : Int64))), .second, .val (.long (((3 : Int64) - (1 : Int64)) / (2 : Int64))), .second, .unset, .unset, .unset, .unset, .unset] [])
            refine Dn.st (fun t q => XS.iconst X8.here hx rfl (hb hby at_292) q) ?_
            show Dn p e below s _ _ _ T8 (mkF m 293 #[.val (.long y1), .second, .val (.long y2), .second, .val (.int x3), .val (.int sel), .val (.long (3 : Int64)), .second, .val (.long ((3 : Int64) - (2 : Int64))), .second, .val (.long (((3 : Int64) - (1 : Int64)) / (2 : Int64))), .second, .unset, .unset, .unset, .unset, .unset] [(.int (1 : Int32))])
            refine Dn.st (fun t q => XS.goto X8.here hx rfl (pc0 := 293) (pc' := 297) rfl (hb hby at_293) (by decide) (by decide) q) ?_
            show Dn p e below s _ _ _ T8 (mkF m 297 #[.val (.long y1), .second, .val (.long y2), .second, .val (.int x3), .val (.int sel), .val (.long (3 : Int64)), .second, .val (.long ((3 : Int64) - (2 : Int64))), .second, .val (.long (((3 : Int64) - (1 : Int64)) / (2 : Int64))), .second, .unset, .unset, .unset, .unset, .unset] [(.int (1 : Int32))])
            exact Dn.retZ X8 hx Bd.notSynchronized (t := .boolean) Bd.returns (by simp) (hb hby at_297) (by rw [e8]; exact ⟨rfl, N0⟩) (by decide) (by decide)
          · refine Dn.st (fun t q => XS.ifYes X0.here hx rfl (pc0 := 253) (pc' := 261) rfl (hb hby at_253) rfl ((if0 _ _).trans (flt (mt (lw_lt _ _).mp hz)).2.1) (by decide) (by decide) q) ?_
            show Dn p e below s _ _ _ s₁ (mkF m 261 #[.val (.long y1), .second, .val (.long y2), .second, .val (.int x3), .val (.int sel), .val (.long md), .second, .unset, .unset, .unset, .unset, .unset, .unset, .unset, .unset, .unset] [])
            refine Dn.st (fun t q => XS.lload X0.here hx rfl (hb hby at_261) rfl  q) ?_
            show Dn p e below s _ _ _ s₁ (mkF m 263 #[.val (.long y1), .second, .val (.long y2), .second, .val (.int x3), .val (.int sel), .val (.long md), .second, .unset, .unset, .unset, .unset, .unset, .unset, .unset, .unset, .unset] [(.long md)])
            refine Dn.st (X0.ldc2Long hx hown (mvT hZ (hw _ (List.mem_of_getElem? (i := 7) rfl))) (g := (mkF m 263 #[.val (.long y1), .second, .val (.long y2), .second, .val (.int x3), .val (.int sel), .val (.long md), .second, .unset, .unset, .unset, .unset, .unset, .unset, .unset, .unset, .unset] [(.long md)])) rfl (hb hby at_263)) ?_
            show Dn p e below s _ _ _ s₁ (mkF m 266 #[.val (.long y1), .second, .val (.long y2), .second, .val (.int x3), .val (.int sel), .val (.long md), .second, .unset, .unset, .unset, .unset, .unset, .unset, .unset, .unset, .unset] [(.long (2 : Int64)), (.long md)])
            refine Dn.st (fun t q => XS.lsub X0.here hx rfl (hb hby at_266) rfl q) ?_
            show Dn p e below s _ _ _ s₁ (mkF m 267 #[.val (.long y1), .second, .val (.long y2), .second, .val (.int x3), .val (.int sel), .val (.long md), .second, .unset, .unset, .unset, .unset, .unset, .unset, .unset, .unset, .unset] [(.long (md - (2 : Int64)))])
            refine Dn.st (fun t q => XS.lstore X0.here hx rfl (hb hby at_267) rfl (l' := #[.val (.long y1), .second, .val (.long y2), .second, .val (.int x3), .val (.int sel), .val (.long md), .second, .val (.long (md - (2 : Int64))), .second, .unset, .unset, .unset, .unset, .unset, .unset, .unset]) rfl q) ?_
            show Dn p e below s _ _ _ s₁ (mkF m 269 #[.val (.long y1), .second, .val (.long y2), .second, .val (.int x3), .val (.int sel), .val (.long md), .second, .val (.long (md - (2 : Int64))), .second, .unset, .unset, .unset, .unset, .unset, .unset, .unset] [])
            refine Dn.st (fun t q => XS.lload X0.here hx rfl (hb hby at_269) rfl  q) ?_
            show Dn p e below s _ _ _ s₁ (mkF m 271 #[.val (.long y1), .second, .val (.long y2), .second, .val (.int x3), .val (.int sel), .val (.long md), .second, .val (.long (md - (2 : Int64))), .second, .unset, .unset, .unset, .unset, .unset, .unset, .unset] [(.long md)])
            refine Dn.st (fun t q => XS.lconst X0.here hx rfl (hb hby at_271) q) ?_
            show Dn p e below s _ _ _ s₁ (mkF m 272 #[.val (.long y1), .second, .val (.long y2), .second, .val (.int x3), .val (.int sel), .val (.long md), .second, .val (.long (md - (2 : Int64))), .second, .unset, .unset, .unset, .unset, .unset, .unset, .unset] [(.long (1 : Int64)), (.long md)])
            refine Dn.st (fun t q => XS.lsub X0.here hx rfl (hb hby at_272) rfl q) ?_
            show Dn p e below s _ _ _ s₁ (mkF m 273 #[.val (.long y1), .second, .val (.long y2), .second, .val (.int x3), .val (.int sel), .val (.long md), .second, .val (.long (md - (2 : Int64))), .second, .unset, .unset, .unset, .unset, .unset, .unset, .unset] [(.long (md - (1 : Int64)))])
            refine Dn.st (X0.ldc2Long hx hown (mvT hZ (hw _ (List.mem_of_getElem? (i := 7) rfl))) (g := (mkF m 273 #[.val (.long y1), .second, .val (.long y2), .second, .val (.int x3), .val (.int sel), .val (.long md), .second, .val (.long (md - (2 : Int64))), .second, .unset, .unset, .unset, .unset, .unset, .unset, .unset] [(.long (md - (1 : Int64)))])) rfl (hb hby at_273)) ?_
            show Dn p e below s _ _ _ s₁ (mkF m 276 #[.val (.long y1), .second, .val (.long y2), .second, .val (.int x3), .val (.int sel), .val (.long md), .second, .val (.long (md - (2 : Int64))), .second, .unset, .unset, .unset, .unset, .unset, .unset, .unset] [(.long (2 : Int64)), (.long (md - (1 : Int64)))])
            refine Dn.st (fun t q => XS.ldiv X0.here hx rfl (hb hby at_276) rfl (by decide) q) ?_
            show Dn p e below s _ _ _ s₁ (mkF m 277 #[.val (.long y1), .second, .val (.long y2), .second, .val (.int x3), .val (.int sel), .val (.long md), .second, .val (.long (md - (2 : Int64))), .second, .unset, .unset, .unset, .unset, .unset, .unset, .unset] [(.long ((md - (1 : Int64)) / (2 : Int64)))])
            refine Dn.st (fun t q => XS.lstore X0.here hx rfl (hb hby at_277) rfl (l' := #[.val (.long y1), .second, .val (.long y2), .second, .val (.int x3), .val (.int sel), .val (.long md), .second, .val (.long (md - (2 : Int64))), .second, .val (.long ((md - (1 : Int64)) / (2 : Int64))), .second, .unset, .unset, .unset, .unset, .unset]) rfl q) ?_
            show Dn p e below s _ _ _ s₁ (mkF m 279 #[.val (.long y1), .second, .val (.long y2), .second, .val (.int x3), .val (.int sel), .val (.long md), .second, .val (.long (md - (2 : Int64))), .second, .val (.long ((md - (1 : Int64)) / (2 : Int64))), .second, .unset, .unset, .unset, .unset, .unset] [])
            refine Dn.st (fun t q => XS.lload X0.here hx rfl (hb hby at_279) rfl  q) ?_
            show Dn p e below s _ _ _ s₁ (mkF m 281 #[.val (.long y1), .second, .val (.long y2), .second, .val (.int x3), .val (.int sel), .val (.long md), .second, .val (.long (md - (2 : Int64))), .second, .val (.long ((md - (1 : Int64)) / (2 : Int64))), .second, .unset, .unset, .unset, .unset, .unset] [(.long (md - (2 : Int64)))])
            refine Dn.st (fun t q => XS.lload X0.here hx rfl (hb hby at_281) rfl  q) ?_
            show Dn p e below s _ _ _ s₁ (mkF m 283 #[.val (.long y1), .second, .val (.long y2), .second, .val (.int x3), .val (.int sel), .val (.long md), .second, .val (.long (md - (2 : Int64))), .second, .val (.long ((md - (1 : Int64)) / (2 : Int64))), .second, .unset, .unset, .unset, .unset, .unset] [(.long md), (.long (md - (2 : Int64)))])
            obtain ⟨_, _, ⟨T9, Lq9, kq_9, nq_9⟩, -, X9, ⟨Lc9, hQ9, lq9, yq9, zq9⟩, st9⟩ := Jvm.LawKit.callS X0 hx (y := (⟨"com/example/tideway/tideway/NumberTheory", "inverseModulo", "(JJ)J"⟩ : MethodName)) hown (mvT hZ (hw _ (List.mem_of_getElem? (i := 2) rfl))) (mvT hZ (hw _ (List.mem_of_getElem? (i := 3) rfl))) (mvT hZ (hw _ (List.mem_of_getElem? (i := 4) rfl))) (mvT hZ (hw _ (List.mem_of_getElem? (i := 5) rfl))) (by decide) (backOf (W := 0) (rm1 l Z a0 hw [] (md - (2 : Int64)) md  h0 n0 Z0 (own_m2 hodd hz) hodd.1) hZ (hw _ (List.mem_of_getElem? (i := 5) rfl)) (hw _ (List.mem_of_getElem? (i := 4) rfl)) (by decide) (by decide)) (g := (mkF m 283 #[.val (.long y1), .second, .val (.long y2), .second, .val (.int x3), .val (.int sel), .val (.long md), .second, .val (.long (md - (2 : Int64))), .second, .val (.long ((md - (1 : Int64)) / (2 : Int64))), .second, .unset, .unset, .unset, .unset, .unset] [(.long md), (.long (md - (2 : Int64)))])) rfl (by rw [hml]; rfl) (argsL := [(.long (md - (2 : Int64))), (.long md)]) (rest := []) (lenOf pd_0 rfl) rfl (by show 2 * 0 + _ ≤ _; exact Nat.le_of_eq rfl) (hb hby at_283) (fun _ _ => ⟨rfl, e0, (by decide : 0 + 0 ≤ _), (by decide : 0 + 0 ≤ _)⟩)
            dsimp only [Pt.U, Pt.locs, Pt.cells, Pt.slots] at X9 lq9 yq9 zq9 st9 hQ9
            subst lq9 yq9 zq9
            obtain ⟨xx, rfl, N9q, hq9, hX⟩ := hQ9
            have N0 := Fr.app N0 N9q
            have e9 : T9.heap = h0 := hq9
            refine Dn.st st9 ?_
            show Dn p e below s _ _ _ T9 (mkF m 286 #[.val (.long y1), .second, .val (.long y2), .second, .val (.int x3), .val (.int sel), .val (.long md), .second, .val (.long (md - (2 : Int64))), .second, .val (.long ((md - (1 : Int64)) / (2 : Int64))), .second, .unset, .unset, .unset, .unset, .unset] [(.long xx)])
            refine Dn.st (fun t q => XS.lload X9.here hx rfl (hb hby at_286) rfl  q) ?_
            show Dn p e below s _ _ _ T9 (mkF m 288 #[.val (.long y1), .second, .val (.long y2), .second, .val (.int x3), .val (.int sel), .val (.long md), .second, .val (.long (md - (2 : Int64))), .second, .val (.long ((md - (1 : Int64)) / (2 : Int64))), .second, .unset, .unset, .unset, .unset, .unset] [(.long ((md - (1 : Int64)) / (2 : Int64))), (.long xx)])
            refine Dn.st (fun t q => XS.lcmp X9.here hx rfl (hb hby at_288) rfl q) ?_
            show Dn p e below s _ _ _ T9 (mkF m 289 #[.val (.long y1), .second, .val (.long y2), .second, .val (.int x3), .val (.int sel), .val (.long md), .second, .val (.long (md - (2 : Int64))), .second, .val (.long ((md - (1 : Int64)) / (2 : Int64))), .second, .unset, .unset, .unset, .unset, .unset] [(.int (lcmpW xx ((md - (1 : Int64)) / (2 : Int64))))])
            refine Dn.st (fun t q => XS.ifNo X9.here hx rfl (hb hby at_289) rfl ((if0 _ _).trans (teq ((lw_eq _ _).mpr (own_s3 hodd hz hX))).2) q) ?_
            show Dn p e below s _ _ _ T9 (mkF m 292 #[.val (.long y1), .second, .val (.long y2), .second, .val (.int x3), .val (.int sel), .val (.long md), .second, .val (.long (md - (2 : Int64))), .second, .val (.long ((md - (1 : Int64)) / (2 : Int64))), .second, .unset, .unset, .unset, .unset, .unset] [])
            refine Dn.st (fun t q => XS.iconst X9.here hx rfl (hb hby at_292) q) ?_
            show Dn p e below s _ _ _ T9 (mkF m 293 #[.val (.long y1), .second, .val (.long y2), .second, .val (.int x3), .val (.int sel), .val (.long md), .second, .val (.long (md - (2 : Int64))), .second, .val (.long ((md - (1 : Int64)) / (2 : Int64))), .second, .unset, .unset, .unset, .unset, .unset] [(.int (1 : Int32))])
            refine Dn.st (fun t q => XS.goto X9.here hx rfl (pc0 := 293) (pc' := 297) rfl (hb hby at_293) (by decide) (by decide) q) ?_
            show Dn p e below s _ _ _ T9 (mkF m 297 #[.val (.long y1), .second, .val (.long y2), .second, .val (.int x3), .val (.int sel), .val (.long md), .second, .val (.long (md - (2 : Int64))), .second, .val (.long ((md - (1 : Int64)) / (2 : Int64))), .second, .unset, .unset, .unset, .unset, .unset] [(.int (1 : Int32))])
            exact Dn.retZ X9 hx Bd.notSynchronized (t := .boolean) Bd.returns (by simp) (hb hby at_297) (by rw [e9]; exact ⟨rfl, N0⟩) (by decide) (by decide)
set_option maxRecDepth 65536 in
set_option maxHeartbeats 40000000 in
theorem comes_1 {Post : Tables → Env → Array Value → State → Outcome → State → Prop} (hpost : ∀ tb e args s v u, (limb_1_1.after args s (.returned v) u = true ∧ limb_1_2.after args s (.returned v) u = true ∧ True) → FrameEnd s (.returned v) u (Jvm.fieldLocs frame_1_writes args s ++ Jvm.arrayLocs frame_1_arrays args s ++ Jvm.staticLocs frame_1_statics s) 0 0 → Post tb e args s (.returned v) u) :
    ArmFor flags0 classFile x code maxLocals ret World_1 tables_1 room_1 Calls_1 rest_1 Pre_1 Post := by
  intro l hfl _ _ p e ha hc hk s m args below hf hA hF happ hP
  obtain ⟨hcalls, hrest, hpre⟩ := hP
  obtain ⟨-, -, -, hnamed, -, -, -, hat⟩ := (Spec.applies_iff hf).mp happ
  obtain ⟨hg, hn⟩ := and_e (Cond.before_iff.mp (show (Jvm.Cond.and given_1 narrow_1).before args s = true from hpre))
  obtain ⟨g1, g2⟩ := and_e hg
  obtain ⟨g3, g4⟩ := and_e g2
  obtain ⟨g5, g6⟩ := and_e g4
  obtain ⟨w0, w1, w2, rfl⟩ : ∃ w0 w1 w2 : Value, args = #[w0, w1, w2] := by
    have hs : args.size = 3 := by simpa [Cond.value, given_1] using g1
    obtain ⟨L⟩ := args
    match L, hs with
    | [w0, w1, w2], _ => exact ⟨w0, w1, w2, rfl⟩
  have hw := fun d (hd : d ∈ tables_1) => atoms_spec (ws := Jvm.Cond.code x code maxLocals ret :: tables_1) hat d (List.mem_cons_of_mem _ hd)
  obtain ⟨i0, ei0⟩ := isL_v g3
  obtain rfl : w0 = (.long i0) := Option.some.inj ei0
  obtain ⟨i1, ei1⟩ := isL_v g5
  obtain rfl : w1 = (.long i1) := Option.some.inj ei1
  obtain ⟨i2, ei2⟩ := is_v g6
  obtain rfl : w2 = (.int i2) := Option.some.inj ei2
  obtain ⟨n, o, h1, h2, h3, _, L, rfl, ⟨rfl, N⟩, hq⟩ := rm0 l s _ hw tables_1 i0 i1 i2 s.heap s.heap.size (Nat.le_refl _)  p e ha hc hk s m _ below hf ((Spec.applies_iff_loose hf).mp happ).1 ⟨rfl, State.Warmed39.refl s, rfl⟩ trivial
  refine ⟨n, _, h1, h2, h3, hpost _ _ _ _ _ _ ⟨Cond.after_iff.mpr rfl, Cond.after_iff.mpr (eq_i res_at (Term.int_eval (1)) rfl), trivial⟩ ⟨hq.1, hq.2.1, (hq.2.2.sift fun y hy => Or.inr (N y hy)).mono (by decide) (by decide)⟩⟩
theorem main_1_1 : Claimed_1_1 := comes_1 fun _ _ _ _ _ _ h hF => ⟨h.1, hF⟩
theorem main_1_2 : Claimed_1_2 := comes_1 fun _ _ _ _ _ _ h hF => ⟨h.2.1, hF⟩
end Jvm.Pilot.@@N@@
namespace Jvm.Pilot.@@N@@
open Jvm Jvm.ClassFile Sem Op Lib Jvm.Free Jvm.Stand Jvm.Pilot.@@N@@.Jvm.D
/-! MADE BY PROGRAM (witnessworld.py) out of the Statement's table words and the real class files: 9 classes; the members and pool entries that the words name. The judged class is class 1, her method 1. -/
namespace start1
open Jvm.ClassFile
def u (s : String) : CpInfo := .utf8 (stringToUtf16 s)
/-- a pool by its gaps: so many unusable entries, then the entry; so many at the end -/
def gap : Nat → List CpInfo → List CpInfo
  | 0, r => r
  | n + 1, r => .unusable :: gap n r
def poolList (es : List (Nat × CpInfo)) (last : Nat) : List CpInfo := es.foldr (fun e r => gap e.1 (e.2 :: r)) (gap last [])
def pool (es : List (Nat × CpInfo)) (last : Nat) : Array CpInfo := ⟨poolList es last⟩
def fileOf (pool : Array CpInfo) (this : Nat) (attrs : Array Attribute := #[]) (ms : Array MethodInfo := #[]) (fl : Nat := 33) (sup : Nat := 0) (ifs : Array Nat := #[]) (fds : Array FieldInfo := #[]) : ClassFile where
  minorVersion := 0
  majorVersion := 65
  constantPool := pool
  accessFlags := fl
  thisClass := this
  superClass := sup
  interfaces := ifs
  fields := fds
  methods := ms
  attributes := attrs
def plain (name : String) (sup : Option ClassId) : Class where
  name := name
  kind := .ordinary
  loader := none
  accessFlags := 33
  super := sup
  interfaces := #[]
  cf := none
  fields := #[]
  methods := #[]
  instanceTypes := #[]
  staticTypes := #[]
  resolved := #[]
  callSites := []
  init := .initialized
  statics := none
  mirror := none

def pool0 : Array CpInfo := pool [(5, u "<init>"), (0, u "()V"), (1, .class_ 10), (1, u "java/lang/Object")] 113

def k0m0 : Method := { name := "<init>", desc := "()V", sig := { parameters := [], returnType := none }, accessFlags := 1, code := none }
/-- java/lang/Object -/
def k0 : Class := { plain "java/lang/Object" none with
  accessFlags := 33
  interfaces := #[]
  cf := some (fileOf pool0 8 #[] #[{ accessFlags := 1, nameIndex := 5, descriptorIndex := 6, attributes := #[] }] 33 0 #[] #[])
  fields := #[]
  methods := #[k0m0]
  instanceTypes := #[]
  staticTypes := #[]
  resolved := Array.replicate 124 none
  statics := none }

def pool1 : Array CpInfo := pool [(2, .class_ 4), (1, u "java/lang/Object"), (0, u "<init>"), (0, u "()V"), (0, .long 2147483647), (3, .long 9223372036854775807), (1, .methodref 14 15), (0, .class_ 16), (0, .nameAndType 17 18), (0, u "com/example/tideway/tideway/NumberTheory"), (0, u "inverseModulo"), (0, u "(JJ)J"), (0, .long 2), (1, .long 3), (1, .class_ 24), (0, u "com/example/tideway/tideway/NumberTheoryInverseModuloPinLaw"), (2, u "law"), (0, u "(JJI)Z")] 3

def k1m0 : Method := { name := "<init>", desc := "()V", sig := { parameters := [], returnType := none }, accessFlags := 1, code := none }
def k1c1 : Code := { maxStack := 6, maxLocals := 17, code := code, exceptionTable := #[], attributes := #[] }
def k1m1 : Method := { name := "law", desc := "(JJI)Z", sig := { parameters := [.long, .long, .int], returnType := some .boolean }, accessFlags := 9, code := some k1c1 }
/-- com/example/tideway/tideway/NumberTheoryInverseModuloPinLaw -/
def k1 : Class := { plain "com/example/tideway/tideway/NumberTheoryInverseModuloPinLaw" (some 0) with
  accessFlags := 49
  interfaces := #[]
  cf := some (fileOf pool1 23 #[] #[{ accessFlags := 1, nameIndex := 5, descriptorIndex := 6, attributes := #[] }, { accessFlags := 9, nameIndex := 27, descriptorIndex := 28, attributes := #[] }] 49 2 #[] #[])
  fields := #[]
  methods := #[k1m0, k1m1]
  instanceTypes := #[]
  staticTypes := #[]
  resolved := Array.replicate 32 none
  statics := none }

def pool2 : Array CpInfo := pool [(2, .class_ 4), (1, u "java/lang/Object"), (0, u "<init>"), (0, u "()V"), (15, u "(JJ)J"), (3, .class_ 28), (1, u "com/example/tideway/tideway/NumberTheory"), (0, u "SMALL_PRIMES"), (0, u "[J"), (2, u "SMALL_INVERSES"), (2, u "SMALL_QUOTIENT_LIMITS"), (40, .class_ 78), (0, u "com/example/tideway/tideway/NumberTheory$Montgomery"), (14, u "FEW_BASES"), (2, u "BASES"), (39, u "TRIAL_BOUND"), (0, u "I"), (2, u "FEW_BASES_BOUND"), (0, u "J"), (0, u "RHO_BATCH"), (8, u "inverseModulo")] 9

def k2m0 : Method := { name := "<init>", desc := "()V", sig := { parameters := [], returnType := none }, accessFlags := 2, code := none }
def k2c1 : Code := { maxStack := 6, maxLocals := 18, code := prog_47_method_5_code, exceptionTable := #[], attributes := #[] }
def k2m1 : Method := { name := "inverseModulo", desc := "(JJ)J", sig := { parameters := [.long, .long], returnType := some .long }, accessFlags := 8, code := some k2c1 }
/-- com/example/tideway/tideway/NumberTheory -/
def k2 : Class := { plain "com/example/tideway/tideway/NumberTheory" (some 0) with
  accessFlags := 48
  interfaces := #[]
  cf := some (fileOf pool2 26 #[.nestMembers #[77]] #[{ accessFlags := 2, nameIndex := 5, descriptorIndex := 6, attributes := #[] }, { accessFlags := 8, nameIndex := 151, descriptorIndex := 22, attributes := #[] }] 48 2 #[] #[{ accessFlags := 26, nameIndex := 136, descriptorIndex := 137, attributes := #[] }, { accessFlags := 26, nameIndex := 29, descriptorIndex := 30, attributes := #[] }, { accessFlags := 26, nameIndex := 33, descriptorIndex := 30, attributes := #[] }, { accessFlags := 26, nameIndex := 36, descriptorIndex := 30, attributes := #[] }, { accessFlags := 26, nameIndex := 140, descriptorIndex := 141, attributes := #[] }, { accessFlags := 26, nameIndex := 93, descriptorIndex := 30, attributes := #[] }, { accessFlags := 26, nameIndex := 96, descriptorIndex := 30, attributes := #[] }, { accessFlags := 26, nameIndex := 142, descriptorIndex := 137, attributes := #[] }])
  fields := #[{ name := "TRIAL_BOUND", type := .int, accessFlags := 26, slot := 0, constantValue := 0 }, { name := "SMALL_PRIMES", type := (.array .long), accessFlags := 26, slot := 1, constantValue := 0 }, { name := "SMALL_INVERSES", type := (.array .long), accessFlags := 26, slot := 2, constantValue := 0 }, { name := "SMALL_QUOTIENT_LIMITS", type := (.array .long), accessFlags := 26, slot := 3, constantValue := 0 }, { name := "FEW_BASES_BOUND", type := .long, accessFlags := 26, slot := 4, constantValue := 0 }, { name := "FEW_BASES", type := (.array .long), accessFlags := 26, slot := 5, constantValue := 0 }, { name := "BASES", type := (.array .long), accessFlags := 26, slot := 6, constantValue := 0 }, { name := "RHO_BATCH", type := .int, accessFlags := 26, slot := 7, constantValue := 0 }]
  methods := #[k2m0, k2m1]
  instanceTypes := #[]
  staticTypes := #[.int, (.array .long), (.array .long), (.array .long), .long, (.array .long), (.array .long), .int]
  resolved := Array.replicate 161 none
  statics := none }

def pool3 : Array CpInfo := pool [(1, u "java/lang/Cloneable"), (0, .class_ 1), (0, u "java/lang/Object"), (0, .class_ 3)] 3

/-- java/lang/Cloneable -/
def k3 : Class := { plain "java/lang/Cloneable" (some 0) with
  accessFlags := 1537
  interfaces := #[]
  cf := some (fileOf pool3 2 #[] #[] 1537 4 #[] #[])
  fields := #[]
  methods := #[]
  instanceTypes := #[]
  staticTypes := #[]
  resolved := Array.replicate 8 none
  statics := none }

def pool4 : Array CpInfo := pool [(1, u "java/io/Serializable"), (0, .class_ 1), (0, u "java/lang/Object"), (0, .class_ 3)] 3

/-- java/io/Serializable -/
def k4 : Class := { plain "java/io/Serializable" (some 0) with
  accessFlags := 1537
  interfaces := #[]
  cf := some (fileOf pool4 2 #[] #[] 1537 4 #[] #[])
  fields := #[]
  methods := #[]
  instanceTypes := #[]
  staticTypes := #[]
  resolved := Array.replicate 8 none
  statics := none }

/-- the primitive byte -/
def k5 : Class := { plain "byte" none with kind := .primitive 'B', accessFlags := 0x411 }
/-- [B -/
def k6 : Class := { plain "[B" (some 0) with kind := .array 5 .byte, interfaces := #[3, 4], accessFlags := 1041 }

/-- the primitive int -/
def k7 : Class := { plain "int" none with kind := .primitive 'I', accessFlags := 0x411 }
/-- [I -/
def k8 : Class := { plain "[I" (some 0) with kind := .array 7 .int, interfaces := #[3, 4], accessFlags := 1041 }

def heap : Heap := #[]
def classes : Array Class := #[k0, k1, k2, k3, k4, k5, k6, k7, k8]
def interned : List (Array UInt16 × Addr) := []
def slotsUsed : Nat := 0
def theMethod : MethodId := ⟨1, 1⟩
def args0 : Array Value := #[.long 5, .long 5, .int 5]
def aboutOver (below : List Frame) : State where
  vm := { classes := classes, interned := interned.toArray }
  heap := heap
  slotsUsed := slotsUsed
  threads := #[{ frames := .invoking theMethod args0 :: below }]
def below0 : List Frame := [.native { method := ⟨0, 0⟩, args := #[] }]
def about1 : State := aboutOver below0
def p0 : Program := .bare "" "" ""
def e0 : Env := launch0.env 0 0 0
theorem w_frames : about1.frames = Frame.invoking theMethod args0 :: below0 := rfl
set_option maxRecDepth 65536 in
theorem w_args : argsFit about1.vm theMethod args0 = true := by decide +kernel
set_option maxRecDepth 65536 in
theorem w_heap : heapFits about1 = true := by decide +kernel
set_option maxRecDepth 65536 in
theorem w_runnable : about1.curStatus? = some .runnable := by decide +kernel
set_option maxRecDepth 65536 in
theorem w_alone : about1.alone = true := by decide +kernel
set_option maxRecDepth 65536 in
theorem w_named : about1.methodNamed? x = some theMethod := by decide +kernel
set_option maxRecDepth 65536 in
theorem w_hears : about1.hears theMethod below0 = true := by decide +kernel
set_option maxRecDepth 65536 in
theorem w_ripe : about1.ripe theMethod args0 below0 = true := by decide +kernel
theorem w_running : about1.status = .running := rfl
set_option maxRecDepth 65536 in
theorem w_room : about1.hasRoom e0.platform room_1 = true :=
  launch0.hasRoom_least _ room_1 (by decide +kernel) (by decide +kernel) (by decide +kernel) (by decide +kernel) (by decide +kernel) (by decide +kernel)
theorem allAtoms_all (ts : List Jvm.Cond) (a : Array Jvm.Value) (st : Jvm.State) : (allAtoms ts).before a st = ts.all (fun c => c.before a st) := by
  induction ts with
  | nil => rfl
  | cons c t ih =>
    show (Jvm.Cond.and c (allAtoms t)).before a st = _
    rw [Jvm.Cond.before_and, ih, List.all_cons]
def words1 : List Jvm.Cond := Jvm.Cond.code x code maxLocals ret :: tables_1
/-- a 'code' word, met by the world's own term for the bytes: nothing is compared byte by byte -/
theorem code_word {y : MethodName} {bytes : ByteArray} {mx : Nat} {rt : Option FieldType} {a : Array Value} {s : State} {m : MethodId} {meth : Method} {c : Code} (h1 : s.methodNamed? y = some m) (h2 : s.vm.method? m = some meth) (h3 : meth.code = some c) (h4 : c.code = bytes)
    (h5 : (c.maxLocals == mx && c.exceptionTable.isEmpty && decide (c.maxStack ≤ mostOperands) && decide (meth.sig.returnType = rt) && !meth.locks && decide (parseMethodDescriptor y.desc = some meth.sig)) = true) : (Jvm.Cond.code y bytes mx rt).before a s = true := by
  simp only [Bool.and_eq_true, beq_iff_eq, Bool.not_eq_true', decide_eq_true_eq] at h5
  obtain ⟨⟨⟨⟨⟨g1, g2⟩, g3⟩, g4⟩, g5⟩, g6⟩ := h5
  simp [Cond.before, Cond.holds, Cond.value, h1, h2, h3, h4, g1, g2, g3, g4, g5, g6]
def isCode : Jvm.Cond → Bool
  | .code _ _ _ _ => true
  | _ => false
theorem all_split {L : List Jvm.Cond} {P : Jvm.Cond → Bool} (h1 : L.all (fun c => isCode c || P c) = true) (h2 : ∀ c ∈ L.filter isCode, P c = true) : L.all P = true := by
  refine List.all_eq_true.mpr fun c hc => ?_
  have h := List.all_eq_true.mp h1 c hc
  rcases Bool.eq_false_or_eq_true (isCode c) with hi | hi
  · exact h2 c (List.mem_filter.mpr ⟨hc, hi⟩)
  · simpa [hi] using h
set_option maxRecDepth 65536 in
theorem w_c0 : (Jvm.Cond.code x code maxLocals ret).before args0 about1 = true := code_word (m := ⟨1, 1⟩) (meth := k1m1) (c := k1c1) (by decide +kernel) rfl rfl rfl (by decide +kernel)
set_option maxRecDepth 65536 in
theorem w_c1 : (Jvm.Cond.code ({ cls := "com/example/tideway/tideway/NumberTheory", name := "inverseModulo", desc := "(JJ)J" } : Jvm.MethodName) prog_47_method_5_code (18 : Nat) (Option.some Jvm.ClassFile.FieldType.long)).before args0 about1 = true := code_word (m := ⟨2, 1⟩) (meth := k2m1) (c := k2c1) (by decide +kernel) rfl rfl rfl (by decide +kernel)
def codes1 : List Jvm.Cond := [Jvm.Cond.code x code maxLocals ret, Jvm.Cond.code ({ cls := "com/example/tideway/tideway/NumberTheory", name := "inverseModulo", desc := "(JJ)J" } : Jvm.MethodName) prog_47_method_5_code (18 : Nat) (Option.some Jvm.ClassFile.FieldType.long)]
set_option maxRecDepth 65536 in
theorem codes_eq : words1.filter isCode = codes1 := rfl
theorem w_codes : ∀ c ∈ words1.filter isCode, c.before args0 about1 = true := by
  rw [codes_eq]
  intro c hc
  simp only [codes1, List.mem_cons, List.not_mem_nil, or_false] at hc
  rcases hc with rfl | rfl
  · exact w_c0
  · exact w_c1
set_option maxRecDepth 65536 in
theorem w_t1 : words1.all (fun c => isCode c || c.before args0 about1) = true := by decide +kernel
theorem w_tables : (allAtoms (Jvm.Cond.code x code maxLocals ret :: tables_1)).before args0 about1 = true := by
  rw [allAtoms_all]
  show words1.all (fun c => c.before args0 about1) = true
  refine all_split ?_ w_codes
  rw [w_t1]
set_option maxRecDepth 65536 in
theorem w_case : (Jvm.Cond.and given_1 narrow_1).before args0 about1 = true := by decide +kernel
theorem w_applies : (headSpec (Jvm.Cond.code x code maxLocals ret :: tables_1) room_1).applies x e0.platform about1 = true :=
  (Spec.applies_iff w_frames).mpr ⟨w_running, w_runnable, w_alone, w_named, w_hears, w_ripe, w_room, w_tables⟩
theorem atStart : AtStart classFile x code maxLocals ret World_1 tables_1 room_1 Calls_1 rest_1 Pre_1 launch0 p0 e0 about1 theMethod args0 below0 :=
  ⟨lists_1, trivial, launch0.admits_env _ _ _, launch0.least_env, fairChoices_fair.cas, fairChoices_fair.clock, w_frames, w_args, w_heap, w_applies, trivial, trivial, w_case⟩
end start1
theorem witness_1 : WitnessClaimed_1 := ⟨start1.p0, start1.e0, start1.about1, start1.theMethod, start1.args0, start1.below0, start1.atStart⟩
end Jvm.Pilot.@@N@@
