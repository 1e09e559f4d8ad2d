import JvmDerived
import JvmDerived.Pilot.@@N@@Statement
import JvmDerived.Pilot.@@N@@Code
set_option linter.unusedVariables false
set_option linter.unusedSimpArgs false
namespace Jvm.RoadKit
open Sem ClassFile Op Lib Jvm.Stand Jvm.Free Jvm.LawKit
section New
variable {p : Program} {l : Launch} {e : Env} {R : Room} {s : State} {m : MethodId} {args : Array Value} {below : List Frame} {meth : Method} {c : Code} {T : State} {locs : List Loc} {cells slots : Nat}
theorem retI (X : Stand p l e R s m args below meth c T locs cells slots) (hx : p.tables.exec = Jvm.exec) {pc : Nat} {Ls : Array Slot} {z : Int32} {rest : List Value} (hret : meth.sig.returnType = some .int) (hd : decode c.code pc = .ok (.ireturn, 1)) {fs : List Frame}
    (hl : ∀ (f : JFrame) (acts : List Action), f.method = m → f.locked = none → f.entered = [] → (doReturn e (T.setTop f) acts (some (.int z))).1 = T.setFrames fs) : Steps p.tables e below (T.setTop (mkF m pc Ls (.int z :: rest))) (T.setFrames fs) := by
  have hm' : T.vm.method? m = some meth := X.method'
  have hn : narrow .int (.int z) = .int z := rfl
  show Steps p.tables e below (T.setTop { method := m, pc := pc, locals := Ls, stack := _ :: rest, locked := none }) _
  jvm_step X.here [X.here.top, hx, hd, hm', hret, hn]
  first | (intro acts; rw [hl _ acts rfl rfl rfl]) | rw [hl _ _ rfl rfl rfl]
  exact Steps.refl _
end New
end Jvm.RoadKit
@@BLOCK:NumsL.lean.txt@@
namespace Jvm.Pilot.@@N@@
open Jvm Jvm.ClassFile Sem Op Lib Jvm.Free Jvm.Stand Jvm.LawKit Jvm.RoadKit Bundle Jvm.Pilot.@@N@@.Jvm.D
abbrev oS (p : Program) (e : Env) (b : List Frame) (T : State) (f : JFrame) (t : State) : Prop := Steps p.tables e b (T.setTop f) t
theorem ow {a0 : Array Value} {Z : State} (hw : ∀ d ∈ tables_1, d.before a0 Z = true) (i : Nat) {c : Jvm.Cond} (h : tables_1[i]? = some c) : c.before a0 Z = true := hw _ (List.mem_of_getElem? h)
theorem own_eqi {args : Array Value} {first s : State} {o : Option Outcome} {idx : List Nat} {t : Term} {k : Int32} (h : (Jvm.Cond.eq t (.int k)).value args first o s idx = some true) : t.eval args first o idx s = some (.int k) := by
  simp only [Cond.value, Term.eval] at h
  cases ht : t.eval args first o idx s with
  | none => simp [ht] at h
  | some x => cases x <;> simp [ht] at h ⊢; exact h
theorem own_eql {args : Array Value} {first s : State} {o : Option Outcome} {idx : List Nat} {t : Term} {k : Int64} (h : (Jvm.Cond.eq t (.long k)).value args first o s idx = some true) : t.eval args first o idx s = some (.long k) := by
  simp only [Cond.value, Term.eval] at h
  cases ht : t.eval args first o idx s with
  | none => simp [ht] at h
  | some x => cases x <;> simp [ht] at h ⊢; exact h
theorem own_eqr {args : Array Value} {first s : State} {o : Option Outcome} {idx : List Nat} {t u : Term} {a : Addr} (hu : u.eval args first o idx s = some (.ref a)) (h : (Jvm.Cond.eq t u).value args first o s idx = some true) : t.eval args first o idx s = some (.ref a) := by
  simp only [Cond.value, hu] at h
  cases ht : t.eval args first o idx s with
  | none => simp [ht] at h
  | some x => cases x <;> simp [ht] at h ⊢; exact h
theorem own_fld {args : Array Value} {s : State} {t : Term} {x : Addr} {C n d : String} {v : Value} (ht : t.eval args s none [] s = some (.ref x)) (h : (Term.field t C n d).eval args s none [] s = some v) : Fld s s.heap x C n d v := Fld.start ((fld_at ht).symm.trans h)
theorem own_exa_ns {Z : State} {h : Heap} {a : Addr} {C : String} (F : Exa Z h a C) : ∀ c : Cell, h[a]? = some c → c.vm.isStatics = false := fun c hc => by
  obtain ⟨cell, k, h1, -, -, h4, -⟩ := F
  cases h1.symm.trans hc
  exact h4
theorem own_sta_keep {Z : State} {h h' : Heap} {C n d : String} {v : Value} {ws : List Addr} (F : Sta Z h C n d v) (K : Keep h h' ws) (hn : ∀ x ∈ ws, ∀ c : Cell, h[x]? = some c → c.vm.isStatics = false) : Sta Z h' C n d v := by
  obtain ⟨cf, i, k, f, st, cell, h1, h2, h3, h4, h5, h6, h7⟩ := F
  refine ⟨cf, i, k, f, st, cell, h1, h2, h3, h4, K.2.1 st cell h5 (fun q => ?_), h6, h7⟩
  rw [hn st q cell h5] at h6
  cases h6
theorem own_and7 (x : Int32) : x &&& (7 : Int32) = 0 ∨ x &&& (7 : Int32) = 1 ∨ x &&& (7 : Int32) = 2 ∨ x &&& (7 : Int32) = 3 ∨ x &&& (7 : Int32) = 4 ∨ x &&& (7 : Int32) = 5 ∨ x &&& (7 : Int32) = 6 ∨ x &&& (7 : Int32) = 7 := by
  have e : (x &&& (7 : Int32)).toInt = x.toInt % 2 ^ 3 := Jvm.Kit.i32_mask x 7 (k := 3) (by decide) (by decide)
  simp only [← Int32.toInt_inj]
  generalize (x &&& (7 : Int32)).toInt = z at *
  have q : z = 0 ∨ z = 1 ∨ z = 2 ∨ z = 3 ∨ z = 4 ∨ z = 5 ∨ z = 6 ∨ z = 7 := by omega
  rcases q with rfl | rfl | rfl | rfl | rfl | rfl | rfl | rfl <;> decide
theorem own_val_no {x : UInt64} : Jvm.Free.Fl.NoNaN64 x ↔ FP.Core.val64 x ≠ .nan := Jvm.Free.Fl.val64_no
theorem own_dint_nn {i : Int} {a : UInt64} (h : FP.Core.DInt i a) : Jvm.Free.Fl.NoNaN64 a := own_val_no.mpr (FP.Core.DInt_ne_nan h)
theorem own_round {v s : Nat} (hs : s ≤ 29) (h1 : 2 ^ 23 * 2 ^ s ≤ v) (h2 : v < 2 ^ 24 * 2 ^ s) {i : Int} (hi : i.natAbs = v) {d : FP.Core.Datum} (h : FP.Core.Whole i d) :
    FP.Core.Whole (i.sign * ((FP.Core.nearest v (2 ^ s) * 2 ^ s : Nat) : Int)) (FP.Core.round FP.Core.b32 d) := by
  have hp := Nat.two_pow_pos s
  have hv : 0 < v := by omega
  have hi0 : i ≠ 0 := by omega
  cases d with
  | nan => exact h.elim
  | inf => exact h.elim
  | fin sg c q =>
    have hsg := FP.Core.whole_sign h hi0
    rw [FP.Core.round_whole h, hi]
    have hq : FP.Core.quantum FP.Core.b32 v 1 0 = (s : Int) := by
      have p24 : (FP.Core.b32.p : Int) = 24 := by decide
      have qm : FP.Core.b32.qmin = -149 := by decide
      refine FP.Core.quantum_eq hv (by decide) (by rw [qm]; omega) ?_ (Or.inr ?_)
      · rw [p24]; unfold FP.Core.Below
        rw [show (-((s : Int) - 0 + 24)).toNat = 0 by omega, show ((s : Int) - 0 + 24).toNat = 24 + s by omega, Nat.pow_add]
        omega
      · rw [p24]; unfold FP.Core.Below
        rw [show (-((s : Int) - 0 + (24 - 1))).toNat = 0 by omega, show ((s : Int) - 0 + (24 - 1)).toNat = 23 + s by omega, Nat.pow_add]
        omega
    unfold FP.Core.roundRatio FP.Core.roundAt FP.Core.unitsNum FP.Core.unitsDen
    rw [if_neg (by omega), hq, show ((0 : Int) - s).toNat = 0 by omega, show ((s : Int) - 0).toNat = s by omega, Nat.pow_zero, Nat.mul_one, Nat.one_mul]
    have hn : FP.Core.nearest v (2 ^ s) ≤ 2 ^ 24 := FP.Core.nearest_le hp (by omega)
    generalize FP.Core.nearest v (2 ^ s) = n at hn
    have qx : FP.Core.b32.qmax = 104 := by decide
    have hsn : ∀ k : Nat, FP.Core.signed sg k = i.sign * (k : Int) := fun k => by
      rw [hsg]; unfold FP.Core.signed
      rcases Int.lt_trichotomy i 0 with c1 | c1 | c1
      · rw [Int.sign_eq_neg_one_of_neg c1, if_pos (decide_eq_true c1)]; omega
      · exact absurd c1 hi0
      · rw [Int.sign_eq_one_of_pos c1, if_neg (by rw [decide_eq_true_iff]; omega)]; omega
    unfold FP.Core.settle FP.Core.bound
    by_cases hc : n < 2 ^ 24
    · rw [if_pos (show n < 2 ^ FP.Core.b32.p from hc), if_pos (by rw [qx]; omega)]
      show FP.Core.signed sg (n * 2 ^ ((s : Int)).toNat) = _ * ((2 ^ (-(s : Int)).toNat : Nat) : Int)
      rw [hsn, show ((s : Int)).toNat = s by omega, show (-(s : Int)).toNat = 0 by omega, Nat.pow_zero]
      exact (Int.mul_one _).symm
    · have e : n = 2 ^ 24 := by omega
      subst e
      rw [if_neg (show ¬ (2 ^ 24 < 2 ^ FP.Core.b32.p) by decide), if_pos (by rw [qx]; omega)]
      show FP.Core.signed sg (FP.Core.b32.tails * 2 ^ ((s : Int) + 1).toNat) = _ * ((2 ^ (-((s : Int) + 1)).toNat : Nat) : Int)
      rw [hsn, show ((s : Int) + 1).toNat = 1 + s by omega, show (-((s : Int) + 1)).toNat = 0 by omega, Nat.pow_zero, show FP.Core.b32.tails = 2 ^ 23 from rfl, Nat.pow_add, ← Nat.mul_assoc]
      exact (Int.mul_one _).symm
theorem own_stored {v s : Nat} (hs : s ≤ 29) (h1 : 2 ^ 23 * 2 ^ s ≤ v) (h2 : v < 2 ^ 24 * 2 ^ s) {i : Int} (hi : i.natAbs = v) {a : UInt64} (h : FP.Core.DInt i a) :
    FP.Core.DInt (i.sign * ((FP.Core.nearest v (2 ^ s) * 2 ^ s : Nat) : Int)) (FP.f2d (FP.d2f a)) := by
  have n1 := own_dint_nn h
  have n2 : Jvm.Free.Fl.NoNaN32 (FP.d2f a) := (Jvm.Free.Fl.noNaN_d2f a).mpr n1
  unfold FP.Core.DInt
  rw [FP.f2d_core (Jvm.Free.Fl.noNaN32_no.mp n2), FP.d2f_core (Jvm.Free.Fl.noNaN64_no.mp n1), FP.Core.val64_f2d, FP.Core.val32_d2f]
  refine FP.Core.whole_round FP.Core.good_b64 FP.Core.wide_b64 ?_ (own_round hs h1 h2 hi h)
  have hp := Nat.two_pow_pos s
  have hn : FP.Core.nearest v (2 ^ s) ≤ 2 ^ 24 := FP.Core.nearest_le hp (by omega)
  have hp2 : 2 ^ s ≤ 2 ^ 29 := Nat.pow_le_pow_right (by decide) hs
  have hm := Nat.mul_le_mul hn hp2
  rw [Int.natAbs_mul, Int.natAbs_natCast]
  have hsg : i.sign.natAbs ≤ 1 := by
    rcases Int.lt_trichotomy i 0 with c1 | c1 | c1
    · rw [Int.sign_eq_neg_one_of_neg c1]; decide
    · rw [c1]; decide
    · rw [Int.sign_eq_one_of_pos c1]; decide
  calc i.sign.natAbs * (FP.Core.nearest v (2 ^ s) * 2 ^ s) ≤ 1 * (FP.Core.nearest v (2 ^ s) * 2 ^ s) := Nat.mul_le_mul_right _ hsg
    _ ≤ 2 ^ FP.Core.b64.p := by rw [Nat.one_mul]; exact Nat.le_trans hm (by decide)
theorem own_near {m k r : Nat} (hr : r < 2 ^ k) : FP.Core.nearest (m * 2 ^ k + r) (2 ^ k) = if 2 * r < 2 ^ k then m else if 2 ^ k < 2 * r then m + 1 else m + m % 2 := by
  have hp := Nat.two_pow_pos k
  have e1 : (m * 2 ^ k + r) % 2 ^ k = r := by rw [Nat.mul_comm, Nat.mul_add_mod, Nat.mod_eq_of_lt hr]
  have e2 : (m * 2 ^ k + r) / 2 ^ k = m := by rw [Nat.mul_comm, Nat.mul_add_div hp, Nat.div_eq_of_lt hr, Nat.add_zero]
  unfold FP.Core.nearest
  rw [e1, e2]
theorem own_nat {x : Int32} (h : 0 ≤ x.toInt) : x = Int32.ofNat x.toInt.toNat := by
  apply Int32.toInt_inj.mp
  have h2 := x.toInt_lt
  rw [Int32.toInt_ofNat_small (by omega)]
  omega
theorem own_k (p3 : Int32) : ∃ k : Nat, k < 30 ∧ ((p3 &&& (31 : Int32)) % (30 : Int32)) = Int32.ofNat k := by
  have e : (p3 &&& (31 : Int32)).toInt = p3.toInt % 2 ^ 5 := Jvm.Kit.i32_mask p3 31 (k := 5) (by decide) (by decide)
  have r : ((p3 &&& (31 : Int32)) % (30 : Int32)).toInt = (p3 &&& (31 : Int32)).toInt % (30 : Int32).toInt := Jvm.Kit.i32_rem_nonneg (by rw [e]; omega)
  have t : (30 : Int32).toInt = 30 := rfl
  rw [t] at r
  exact ⟨((p3 &&& (31 : Int32)) % (30 : Int32)).toInt.toNat, by omega, own_nat (by omega)⟩
theorem own_tsm : ∀ k : Fin 30, (((Int32.ofNat k.val).toInt64 &&& 63).toBitVec.smod 64).toNat = k.val := by decide +kernel
theorem own_tms : ∀ k : Fin 30, (((1 : Int64) <<< ((Int32.ofNat k.val).toInt64 &&& 63)) - 1).toBitVec.toNat = 2 ^ k.val - 1 := by decide +kernel
theorem own_thf : ∀ k : Fin 29, ((1 : Int64) <<< ((Int32.ofNat (k.val + 1) - (1 : Int32)).toInt64 &&& 63)).toInt = 2 ^ k.val := by decide +kernel
theorem own_tz : ∀ k : Fin 30, Int32.ofNat k.val = 0 ↔ k.val = 0 := by decide +kernel
def own_good (sv : Int32) (mv rv vv : Int64) (k : Nat) (m r : Nat) : Prop := k < 30 ∧ sv = Int32.ofNat k ∧ mv.toInt = (m : Int) ∧ rv.toInt = (r : Int) ∧ 2 ^ 23 ≤ m ∧ m < 2 ^ 24 ∧ r < 2 ^ k ∧ vv.toInt = (m : Int) * 2 ^ k + r
theorem own_isgood (p2 p3 : Int32) (p4 : Int64) {sv : Int32} {mv rv vv : Int64} (hs : ((p3 &&& (31 : Int32)) % (30 : Int32)) = sv) (hm : ((8388608 : Int64) + (p2 &&& (8388607 : Int32)).toInt64) = mv) (hr : (p4 &&& (((1 : Int64) <<< (sv.toInt64 &&& 63)) - (1 : Int64))) = rv) (hv : ((mv <<< (sv.toInt64 &&& 63)) + rv) = vv) : ∃ k m r, own_good sv mv rv vv k m r := by
  obtain ⟨k, hk, e⟩ := own_k p3
  rw [hs] at e
  have em : (p2 &&& (8388607 : Int32)).toInt = p2.toInt % 2 ^ 23 := Jvm.Kit.i32_mask p2 8388607 (k := 23) (by decide) (by decide)
  have e64 := Jvm.Kit.i64_of_i32 (p2 &&& (8388607 : Int32))
  have o8 : (8388608 : Int64).toInt = 8388608 := rfl
  have m1 : ((8388608 : Int64) + (p2 &&& (8388607 : Int32)).toInt64).toInt = (8388608 : Int64).toInt + (p2 &&& (8388607 : Int32)).toInt64.toInt := Jvm.Kit.i64_add (by omega) (by omega)
  rw [hm] at m1
  have r1 : (p4 &&& (((1 : Int64) <<< (sv.toInt64 &&& 63)) - (1 : Int64))).toInt = p4.toInt % 2 ^ k := Jvm.Kit.i64_mask p4 _ (k := k) (by omega) (by rw [e]; exact own_tms ⟨k, hk⟩)
  rw [hr] at r1
  have hp : (0 : Int) < 2 ^ k := by have := Nat.two_pow_pos k; exact_mod_cast this
  have hp2 : (2 : Int) ^ k ≤ 2 ^ 29 := by have := Nat.pow_le_pow_right (n := 2) (by decide) (show k ≤ 29 by omega); exact_mod_cast this
  have r2 := Int.emod_nonneg p4.toInt (Int.ne_of_gt hp)
  have r3 := Int.emod_lt_of_pos p4.toInt hp
  rw [← r1] at r2 r3
  have ml : 0 ≤ mv.toInt := by omega
  have mh : mv.toInt ≤ 2 ^ 24 - 1 := by omega
  have mm : mv.toInt * 2 ^ k ≤ (2 ^ 24 - 1) * 2 ^ 29 := Int.mul_le_mul mh hp2 (Int.le_of_lt hp) (by decide)
  have mm0 : 0 ≤ mv.toInt * 2 ^ k := Int.mul_nonneg ml (Int.le_of_lt hp)
  have s1 : (mv <<< (sv.toInt64 &&& 63)).toInt = mv.toInt * 2 ^ k := Jvm.Kit.i64_shl mv _ (k := k) (by rw [e]; exact own_tsm ⟨k, hk⟩) (by omega) (by omega)
  have v1 : ((mv <<< (sv.toInt64 &&& 63)) + rv).toInt = (mv <<< (sv.toInt64 &&& 63)).toInt + rv.toInt := Jvm.Kit.i64_add (by omega) (by omega)
  rw [hv, s1] at v1
  refine ⟨k, mv.toInt.toNat, rv.toInt.toNat, hk, e, by omega, by omega, by omega, by omega, ?_, ?_⟩
  · have q : ((rv.toInt.toNat : Nat) : Int) < ((2 ^ k : Nat) : Int) := by rw [Int.toNat_of_nonneg r2, Int.natCast_pow]; exact r3
    exact_mod_cast q
  · rw [v1, Int.toNat_of_nonneg ml, Int.toNat_of_nonneg r2]
theorem own_dv {sv : Int32} {mv rv vv : Int64} {k m r : Nat} (g : own_good sv mv rv vv k m r) : vv.toInt = ((m * 2 ^ k + r : Nat) : Int) ∧ 2 ^ 23 * 2 ^ k ≤ m * 2 ^ k + r ∧ m * 2 ^ k + r < 2 ^ 24 * 2 ^ k ∧ FP.Core.DInt ((m * 2 ^ k + r : Nat) : Int) (FP.l2d vv) := by
  obtain ⟨hk, e, em, er, hm1, hm2, hr, ev⟩ := g
  have e1 : vv.toInt = ((m * 2 ^ k + r : Nat) : Int) := by rw [ev, Int.natCast_add, Int.natCast_mul, Int.natCast_pow]; rfl
  have a1 : 2 ^ 23 * 2 ^ k ≤ m * 2 ^ k := Nat.mul_le_mul_right _ hm1
  have a2 : (m + 1) * 2 ^ k ≤ 2 ^ 24 * 2 ^ k := Nat.mul_le_mul_right _ hm2
  rw [Nat.add_mul, Nat.one_mul] at a2
  have hp2 : 2 ^ k ≤ 2 ^ 29 := Nat.pow_le_pow_right (by decide) (by omega)
  have a3 : 2 ^ 24 * 2 ^ k ≤ 2 ^ 24 * 2 ^ 29 := Nat.mul_le_mul_left _ hp2
  refine ⟨e1, by omega, by omega, ?_⟩
  rw [← e1]
  refine FP.Core.l2d_int ?_
  rw [e1, Int.natAbs_natCast]; omega
theorem own_ndint {i : Int} {a : UInt64} (h : FP.Core.DInt i a) : FP.Core.DInt (-i) (FP.dneg a) := by
  unfold FP.Core.DInt
  rw [FP.val64_dneg]
  exact FP.Core.whole_negate h
theorem own_same {i : Int} {a b : UInt64} (h : FP.Core.DInt i a) (g : FP.Core.DInt i b) : cmpValue (FP.dcmp a b) .l = 0 := by
  rw [show FP.dcmp a b = some (compare i i) from FP.Core.dcmp_int h g, FP.Core.compare_self_int]
  decide
theorem own_fin {sv : Int32} {mv rv vv : Int64} {k m r : Nat} (g : own_good sv mv rv vv k m r) {W : Int64} (hW : W.toInt = ((FP.Core.nearest (m * 2 ^ k + r) (2 ^ k) : Nat) : Int)) :
    cmpValue (FP.dcmp (FP.f2d (FP.d2f (FP.l2d vv))) (FP.l2d (W <<< (sv.toInt64 &&& 63)))) .l = 0 ∧ cmpValue (FP.dcmp (FP.f2d (FP.d2f (FP.dneg (FP.l2d vv)))) (FP.dneg (FP.l2d (W <<< (sv.toInt64 &&& 63))))) .l = 0 := by
  obtain ⟨e1, b1, b2, d1⟩ := own_dv g
  obtain ⟨hk, e, em, er, hm1, hm2, hr, ev⟩ := g
  have hp := Nat.two_pow_pos k
  have hp2 : 2 ^ k ≤ 2 ^ 29 := Nat.pow_le_pow_right (by decide) (by omega)
  have hn : FP.Core.nearest (m * 2 ^ k + r) (2 ^ k) ≤ 2 ^ 24 := FP.Core.nearest_le hp (by omega)
  have x1 := own_stored (s := k) (by omega) b1 b2 (i := ((m * 2 ^ k + r : Nat) : Int)) (Int.natAbs_natCast _) d1
  have x2 := own_stored (s := k) (by omega) b1 b2 (i := -((m * 2 ^ k + r : Nat) : Int)) (by rw [Int.natAbs_neg, Int.natAbs_natCast]) (own_ndint d1)
  rw [Int.sign_eq_one_of_pos (by omega), Int.one_mul] at x1
  rw [Int.sign_eq_neg_one_of_neg (by omega)] at x2
  generalize FP.Core.nearest (m * 2 ^ k + r) (2 ^ k) = n at *
  have hm := Nat.mul_le_mul hn hp2
  have hWk : W.toInt * 2 ^ k = ((n * 2 ^ k : Nat) : Int) := by rw [hW, Int.natCast_mul, Int.natCast_pow]; rfl
  have s1 : (W <<< (sv.toInt64 &&& 63)).toInt = W.toInt * 2 ^ k := Jvm.Kit.i64_shl W _ (k := k) (by rw [e]; exact own_tsm ⟨k, hk⟩) (by rw [hWk]; omega) (by rw [hWk]; omega)
  rw [hWk] at s1
  have y1 : FP.Core.DInt ((n * 2 ^ k : Nat) : Int) (FP.l2d (W <<< (sv.toInt64 &&& 63))) := by
    rw [← s1]
    exact FP.Core.l2d_int (by rw [s1, Int.natAbs_natCast]; omega)
  refine ⟨own_same x1 y1, own_same (i := -((n * 2 ^ k : Nat) : Int)) ?_ (own_ndint y1)⟩
  rw [show -((n * 2 ^ k : Nat) : Int) = -1 * ((n * 2 ^ k : Nat) : Int) by omega]
  exact x2
theorem own_w0 {sv : Int32} {mv rv vv : Int64} {k m r : Nat} (g : own_good sv mv rv vv k m r) (hs : sv = 0) : mv.toInt = ((FP.Core.nearest (m * 2 ^ k + r) (2 ^ k) : Nat) : Int) := by
  obtain ⟨hk, e, em, er, hm1, hm2, hr, ev⟩ := g
  have z : k = 0 := (own_tz ⟨k, hk⟩).mp (e.symm.trans hs)
  subst z
  rw [own_near hr, if_pos (by omega)]
  exact em
theorem own_half {sv : Int32} {mv rv vv : Int64} {k m r : Nat} (g : own_good sv mv rv vv k m r) (hs : ¬ sv = 0) : 2 * ((1 : Int64) <<< ((sv - (1 : Int32)).toInt64 &&& 63)).toInt = ((2 ^ k : Nat) : Int) := by
  obtain ⟨hk, e, em, er, hm1, hm2, hr, ev⟩ := g
  have z : k ≠ 0 := fun q => hs (e.trans ((own_tz ⟨k, hk⟩).mpr q))
  obtain ⟨j, rfl⟩ := Nat.exists_eq_succ_of_ne_zero z
  rw [e, own_thf ⟨j, by omega⟩, Nat.succ_eq_add_one, Nat.pow_succ, Int.natCast_mul, Int.natCast_pow]
  exact Int.mul_comm _ _
theorem own_wlt {sv : Int32} {mv rv vv : Int64} {k m r : Nat} (g : own_good sv mv rv vv k m r) (hs : ¬ sv = 0) (h : rv < ((1 : Int64) <<< ((sv - (1 : Int32)).toInt64 &&& 63))) : mv.toInt = ((FP.Core.nearest (m * 2 ^ k + r) (2 ^ k) : Nat) : Int) := by
  have q := own_half g hs
  obtain ⟨hk, e, em, er, hm1, hm2, hr, ev⟩ := g
  rw [Int64.lt_iff_toInt_lt] at h
  rw [own_near hr, if_pos (by omega)]
  exact em
theorem own_add1 {mv : Int64} {m : Nat} (em : mv.toInt = (m : Int)) (hm2 : m < 2 ^ 24) : (mv + (1 : Int64)).toInt = ((m + 1 : Nat) : Int) := by
  have o : (1 : Int64).toInt = 1 := rfl
  rw [Jvm.Kit.i64_add (by omega) (by omega), em, o]
  omega
theorem own_wgt {sv : Int32} {mv rv vv : Int64} {k m r : Nat} (g : own_good sv mv rv vv k m r) (hs : ¬ sv = 0) (h : ((1 : Int64) <<< ((sv - (1 : Int32)).toInt64 &&& 63)) < rv) : (mv + (1 : Int64)).toInt = ((FP.Core.nearest (m * 2 ^ k + r) (2 ^ k) : Nat) : Int) := by
  have q := own_half g hs
  obtain ⟨hk, e, em, er, hm1, hm2, hr, ev⟩ := g
  rw [Int64.lt_iff_toInt_lt] at h
  rw [own_near hr, if_neg (by omega), if_pos (by omega)]
  exact own_add1 em hm2
theorem own_wtie {sv : Int32} {mv rv vv : Int64} {k m r : Nat} (g : own_good sv mv rv vv k m r) (hs : ¬ sv = 0) (h1 : ¬ rv < ((1 : Int64) <<< ((sv - (1 : Int32)).toInt64 &&& 63))) (h2 : ¬ ((1 : Int64) <<< ((sv - (1 : Int32)).toInt64 &&& 63)) < rv) :
    ((mv &&& (1 : Int64)) = (0 : Int64) → mv.toInt = ((FP.Core.nearest (m * 2 ^ k + r) (2 ^ k) : Nat) : Int)) ∧ (¬ (mv &&& (1 : Int64)) = (0 : Int64) → (mv + (1 : Int64)).toInt = ((FP.Core.nearest (m * 2 ^ k + r) (2 ^ k) : Nat) : Int)) := by
  have q := own_half g hs
  obtain ⟨hk, e, em, er, hm1, hm2, hr, ev⟩ := g
  rw [Int64.lt_iff_toInt_lt] at h1 h2
  rw [own_near hr, if_neg (by omega), if_neg (by omega)]
  have em1 : (mv &&& (1 : Int64)).toInt = mv.toInt % 2 ^ 1 := Jvm.Kit.i64_mask mv 1 (k := 1) (by decide) (by decide)
  have z0 : (0 : Int64).toInt = 0 := rfl
  constructor
  · intro h
    rw [h, z0] at em1
    rw [show m % 2 = 0 by omega]
    exact em
  · intro h
    have nz : (mv &&& (1 : Int64)).toInt ≠ 0 := fun c => h (Int64.toInt_inj.mp (c.trans z0.symm))
    rw [show m % 2 = 1 by omega]
    exact own_add1 em hm2
theorem d_method_2_0 : decode method_2_code 0 = .ok (.iload_n 0, 1) := by decide +kernel
theorem d_method_2_1 : decode method_2_code 1 = .ok (.ifCond .ne 7, 3) := by decide +kernel
theorem d_method_2_4 : decode method_2_code 4 = .ok (.getstatic 7, 3) := by decide +kernel
theorem d_method_2_7 : decode method_2_code 7 = .ok (.areturn, 1) := by decide +kernel
theorem pn_0 : plainName "com/example/greenweft/greenweft/map/SampleTypeStoredPinLaw" = true := by first | (simp [plainName, overriddenIn]; done) | decide +kernel
theorem ef_pick0 (mM : MethodId) (x0 : Int32) : entryFrame mM #[(.int x0)] 1 = mkF mM 0 #[.val (.int x0)] [] := by first | (simp [entryFrame, mkF, argsToLocals, Value.category]; done) | rfl
def Q_pick0 (Z : State) (r : Addr) (h0 : Heap) (n0 : Nat) (v_ : Option Value) (h_ : Heap) (L_ : List Loc) : Prop := v_ = some (.ref r) ∧ Fr n0 L_ ∧ h_ = h0
set_option maxRecDepth 65536 in
set_option maxHeartbeats 40000000 in
theorem rm_pick0 (l : Launch) (Z : State) (a0 : Array Value) (hw : ∀ d ∈ tables_1, d.before a0 Z = true) (ws : List Jvm.Cond) (r : Addr) (h0 : Heap) (n0 : Nat) (Z0 : n0 ≤ h0.size) (S_SampleType_UINT8 : Sta Z h0 "com/example/greenweft/greenweft/map/SampleType" "UINT8" "Lcom/example/greenweft/greenweft/map/SampleType;" (.ref r)) :
    MetFree l (⟨"com/example/greenweft/greenweft/map/SampleTypeStoredPinLaw", "pick", "(I)Lcom/example/greenweft/greenweft/map/SampleType;"⟩ : MethodName) (head1 (Jvm.Cond.code (⟨"com/example/greenweft/greenweft/map/SampleTypeStoredPinLaw", "pick", "(I)Lcom/example/greenweft/greenweft/map/SampleType;"⟩ : MethodName) method_2_code 1 (some (.object "com/example/greenweft/greenweft/map/SampleType")) :: ws) ({ frames := 0, cells := 0, slots := 0, locals := 0 } : Room)) (fun aa_ U_ => aa_ = #[(.int (0 : Int32))] ∧ Z.Warmed39 U_.vm ∧ U_.heap = h0) (fun _ _ _ _ _ => True) (fun _ U_ o_ U'_ => ∃ v_ L_, o_ = .returned v_ ∧ Q_pick0 Z r h0 n0 v_ U'_.heap L_ ∧ FrameEnd U_ o_ U'_ L_ ({ frames := 0, cells := 0, slots := 0, locals := 0 } : Room).cells ({ frames := 0, cells := 0, slots := 0, locals := 0 } : Room).slots) := by
  refine MetFree.of_bodySF (plainFor_of_name pn_0) hisR ?_
  intro pP eE sS mM argsA below meth cC s₁ Bd hml0 hP hK
  obtain ⟨rfl, hZ, hh⟩ := hP
  have hx := Bd.exec
  have hby := Bd.bytes
  have hml : cC.maxLocals = 1 := hml0
  have hown : sS.vm.findClass "com/example/greenweft/greenweft/map/SampleTypeStoredPinLaw" = some mM.cls := findClass_of_methodNamed Bd.named
  have hnm := (name_of_methodNamed Bd.named Bd.method).1
  have X0 : Stand pP l eE ({ frames := 0, cells := 0, slots := 0, locals := 0 } : Room) sS mM #[(.int (0 : Int32))] below meth cC s₁ [] 0 0 := Stand.of_body Bd
  have e0 : s₁.heap = h0 := by rw [← hh, Bd.state]; rfl
  have N0 := Fr.nil n0
  have pre0 : ∀ t_, Steps pP.tables eE below (s₁.setTop (mkF mM 0 #[.val (.int (0 : Int32))] [])) t_ → Steps pP.tables eE below (s₁.setTop (entryFrame mM #[(.int (0 : Int32))] 1)) t_ := fun t_ k_ => castTop (ef_pick0 mM (0 : Int32)) k_
  obtain ⟨T_1, X_1, e_1, st_1⟩ := getS2 X0 hx hZ hown (host := "") (Or.inl (ow hw 4 rfl)) Via.refl e0 S_SampleType_UINT8 (g := (mkF mM 4 #[.val (.int (0 : Int32))] [])) rfl (hb hby d_method_2_4)
  obtain ⟨fs, hr, hrun, hended, hW, hsame⟩ := X_1.leave (v := some (.ref r)) (fun h => by rw [Bd.returns] at h; cases h)
  refine ⟨_, _, pre0 _ ?_, hrun, hended, _, _, rfl, ?_, ⟨_, rfl⟩, hW, hsame.mono (by decide) (by decide)⟩
  · show oS pP eE below s₁ (mkF mM 0 #[.val (.int (0 : Int32))] []) _
    refine XS.iloadN X0.here hx rfl (hb hby d_method_2_0) rfl ?_
    refine XS.ifNo X0.here hx rfl (hb hby d_method_2_1) rfl (by decide) ?_
    show oS pP eE below s₁ (mkF mM 4 #[.val (.int (0 : Int32))] []) _
    refine st_1 _ ?_
    show oS pP eE below T_1 (mkF mM 7 #[.val (.int (0 : Int32))] [(.ref r)]) _
    exact retOut X_1 hx Bd.returns rfl (Or.inr (Or.inr (Or.inr (Or.inr ⟨rfl, rfl, rfl⟩)))) (hb hby d_method_2_7) hr
  · show Q_pick0 Z r h0 n0 _ T_1.heap _
    rw [e_1]
    exact ⟨rfl, N0, rfl⟩
theorem d_method_2_8 : decode method_2_code 8 = .ok (.iload_n 0, 1) := by decide +kernel
theorem d_method_2_9 : decode method_2_code 9 = .ok (.iconst 1, 1) := by decide +kernel
theorem d_method_2_10 : decode method_2_code 10 = .ok (.if_icmp .ne 7, 3) := by decide +kernel
theorem d_method_2_13 : decode method_2_code 13 = .ok (.getstatic 13, 3) := by decide +kernel
theorem d_method_2_16 : decode method_2_code 16 = .ok (.areturn, 1) := by decide +kernel
theorem ef_pick1 (mM : MethodId) (x0 : Int32) : entryFrame mM #[(.int x0)] 1 = mkF mM 0 #[.val (.int x0)] [] := by first | (simp [entryFrame, mkF, argsToLocals, Value.category]; done) | rfl
def Q_pick1 (Z : State) (r : Addr) (h0 : Heap) (n0 : Nat) (v_ : Option Value) (h_ : Heap) (L_ : List Loc) : Prop := v_ = some (.ref r) ∧ Fr n0 L_ ∧ h_ = h0
set_option maxRecDepth 65536 in
set_option maxHeartbeats 40000000 in
theorem rm_pick1 (l : Launch) (Z : State) (a0 : Array Value) (hw : ∀ d ∈ tables_1, d.before a0 Z = true) (ws : List Jvm.Cond) (r : Addr) (h0 : Heap) (n0 : Nat) (Z0 : n0 ≤ h0.size) (S_SampleType_INT8 : Sta Z h0 "com/example/greenweft/greenweft/map/SampleType" "INT8" "Lcom/example/greenweft/greenweft/map/SampleType;" (.ref r)) :
    MetFree l (⟨"com/example/greenweft/greenweft/map/SampleTypeStoredPinLaw", "pick", "(I)Lcom/example/greenweft/greenweft/map/SampleType;"⟩ : MethodName) (head1 (Jvm.Cond.code (⟨"com/example/greenweft/greenweft/map/SampleTypeStoredPinLaw", "pick", "(I)Lcom/example/greenweft/greenweft/map/SampleType;"⟩ : MethodName) method_2_code 1 (some (.object "com/example/greenweft/greenweft/map/SampleType")) :: ws) ({ frames := 0, cells := 0, slots := 0, locals := 0 } : Room)) (fun aa_ U_ => aa_ = #[(.int (1 : Int32))] ∧ Z.Warmed39 U_.vm ∧ U_.heap = h0) (fun _ _ _ _ _ => True) (fun _ U_ o_ U'_ => ∃ v_ L_, o_ = .returned v_ ∧ Q_pick1 Z r h0 n0 v_ U'_.heap L_ ∧ FrameEnd U_ o_ U'_ L_ ({ frames := 0, cells := 0, slots := 0, locals := 0 } : Room).cells ({ frames := 0, cells := 0, slots := 0, locals := 0 } : Room).slots) := by
  refine MetFree.of_bodySF (plainFor_of_name pn_0) hisR ?_
  intro pP eE sS mM argsA below meth cC s₁ Bd hml0 hP hK
  obtain ⟨rfl, hZ, hh⟩ := hP
  have hx := Bd.exec
  have hby := Bd.bytes
  have hml : cC.maxLocals = 1 := hml0
  have hown : sS.vm.findClass "com/example/greenweft/greenweft/map/SampleTypeStoredPinLaw" = some mM.cls := findClass_of_methodNamed Bd.named
  have hnm := (name_of_methodNamed Bd.named Bd.method).1
  have X0 : Stand pP l eE ({ frames := 0, cells := 0, slots := 0, locals := 0 } : Room) sS mM #[(.int (1 : Int32))] below meth cC s₁ [] 0 0 := Stand.of_body Bd
  have e0 : s₁.heap = h0 := by rw [← hh, Bd.state]; rfl
  have N0 := Fr.nil n0
  have pre0 : ∀ t_, Steps pP.tables eE below (s₁.setTop (mkF mM 0 #[.val (.int (1 : Int32))] [])) t_ → Steps pP.tables eE below (s₁.setTop (entryFrame mM #[(.int (1 : Int32))] 1)) t_ := fun t_ k_ => castTop (ef_pick1 mM (1 : Int32)) k_
  obtain ⟨T_1, X_1, e_1, st_1⟩ := getS2 X0 hx hZ hown (host := "") (Or.inl (ow hw 27 rfl)) Via.refl e0 S_SampleType_INT8 (g := (mkF mM 13 #[.val (.int (1 : Int32))] [])) rfl (hb hby d_method_2_13)
  obtain ⟨fs, hr, hrun, hended, hW, hsame⟩ := X_1.leave (v := some (.ref r)) (fun h => by rw [Bd.returns] at h; cases h)
  refine ⟨_, _, pre0 _ ?_, hrun, hended, _, _, rfl, ?_, ⟨_, rfl⟩, hW, hsame.mono (by decide) (by decide)⟩
  · show oS pP eE below s₁ (mkF mM 0 #[.val (.int (1 : Int32))] []) _
    refine XS.iloadN X0.here hx rfl (hb hby d_method_2_0) rfl ?_
    refine XS.ifYes X0.here hx rfl (pc0 := 1) (pc' := 8) rfl (hb hby d_method_2_1) rfl (by decide) (by decide) (by decide) ?_
    refine XS.iloadN X0.here hx rfl (hb hby d_method_2_8) rfl ?_
    refine XS.iconst X0.here hx rfl (hb hby d_method_2_9) ?_
    refine XS.icmpNo X0.here hx rfl (hb hby d_method_2_10) rfl (by decide) ?_
    show oS pP eE below s₁ (mkF mM 13 #[.val (.int (1 : Int32))] []) _
    refine st_1 _ ?_
    show oS pP eE below T_1 (mkF mM 16 #[.val (.int (1 : Int32))] [(.ref r)]) _
    exact retOut X_1 hx Bd.returns rfl (Or.inr (Or.inr (Or.inr (Or.inr ⟨rfl, rfl, rfl⟩)))) (hb hby d_method_2_16) hr
  · show Q_pick1 Z r h0 n0 _ T_1.heap _
    rw [e_1]
    exact ⟨rfl, N0, rfl⟩
theorem d_method_2_17 : decode method_2_code 17 = .ok (.iload_n 0, 1) := by decide +kernel
theorem d_method_2_18 : decode method_2_code 18 = .ok (.iconst 2, 1) := by decide +kernel
theorem d_method_2_19 : decode method_2_code 19 = .ok (.if_icmp .ne 7, 3) := by decide +kernel
theorem d_method_2_22 : decode method_2_code 22 = .ok (.getstatic 16, 3) := by decide +kernel
theorem d_method_2_25 : decode method_2_code 25 = .ok (.areturn, 1) := by decide +kernel
theorem ef_pick2 (mM : MethodId) (x0 : Int32) : entryFrame mM #[(.int x0)] 1 = mkF mM 0 #[.val (.int x0)] [] := by first | (simp [entryFrame, mkF, argsToLocals, Value.category]; done) | rfl
def Q_pick2 (Z : State) (r : Addr) (h0 : Heap) (n0 : Nat) (v_ : Option Value) (h_ : Heap) (L_ : List Loc) : Prop := v_ = some (.ref r) ∧ Fr n0 L_ ∧ h_ = h0
set_option maxRecDepth 65536 in
set_option maxHeartbeats 40000000 in
theorem rm_pick2 (l : Launch) (Z : State) (a0 : Array Value) (hw : ∀ d ∈ tables_1, d.before a0 Z = true) (ws : List Jvm.Cond) (r : Addr) (h0 : Heap) (n0 : Nat) (Z0 : n0 ≤ h0.size) (S_SampleType_UINT16 : Sta Z h0 "com/example/greenweft/greenweft/map/SampleType" "UINT16" "Lcom/example/greenweft/greenweft/map/SampleType;" (.ref r)) :
    MetFree l (⟨"com/example/greenweft/greenweft/map/SampleTypeStoredPinLaw", "pick", "(I)Lcom/example/greenweft/greenweft/map/SampleType;"⟩ : MethodName) (head1 (Jvm.Cond.code (⟨"com/example/greenweft/greenweft/map/SampleTypeStoredPinLaw", "pick", "(I)Lcom/example/greenweft/greenweft/map/SampleType;"⟩ : MethodName) method_2_code 1 (some (.object "com/example/greenweft/greenweft/map/SampleType")) :: ws) ({ frames := 0, cells := 0, slots := 0, locals := 0 } : Room)) (fun aa_ U_ => aa_ = #[(.int (2 : Int32))] ∧ Z.Warmed39 U_.vm ∧ U_.heap = h0) (fun _ _ _ _ _ => True) (fun _ U_ o_ U'_ => ∃ v_ L_, o_ = .returned v_ ∧ Q_pick2 Z r h0 n0 v_ U'_.heap L_ ∧ FrameEnd U_ o_ U'_ L_ ({ frames := 0, cells := 0, slots := 0, locals := 0 } : Room).cells ({ frames := 0, cells := 0, slots := 0, locals := 0 } : Room).slots) := by
  refine MetFree.of_bodySF (plainFor_of_name pn_0) hisR ?_
  intro pP eE sS mM argsA below meth cC s₁ Bd hml0 hP hK
  obtain ⟨rfl, hZ, hh⟩ := hP
  have hx := Bd.exec
  have hby := Bd.bytes
  have hml : cC.maxLocals = 1 := hml0
  have hown : sS.vm.findClass "com/example/greenweft/greenweft/map/SampleTypeStoredPinLaw" = some mM.cls := findClass_of_methodNamed Bd.named
  have hnm := (name_of_methodNamed Bd.named Bd.method).1
  have X0 : Stand pP l eE ({ frames := 0, cells := 0, slots := 0, locals := 0 } : Room) sS mM #[(.int (2 : Int32))] below meth cC s₁ [] 0 0 := Stand.of_body Bd
  have e0 : s₁.heap = h0 := by rw [← hh, Bd.state]; rfl
  have N0 := Fr.nil n0
  have pre0 : ∀ t_, Steps pP.tables eE below (s₁.setTop (mkF mM 0 #[.val (.int (2 : Int32))] [])) t_ → Steps pP.tables eE below (s₁.setTop (entryFrame mM #[(.int (2 : Int32))] 1)) t_ := fun t_ k_ => castTop (ef_pick2 mM (2 : Int32)) k_
  obtain ⟨T_1, X_1, e_1, st_1⟩ := getS2 X0 hx hZ hown (host := "") (Or.inl (ow hw 18 rfl)) Via.refl e0 S_SampleType_UINT16 (g := (mkF mM 22 #[.val (.int (2 : Int32))] [])) rfl (hb hby d_method_2_22)
  obtain ⟨fs, hr, hrun, hended, hW, hsame⟩ := X_1.leave (v := some (.ref r)) (fun h => by rw [Bd.returns] at h; cases h)
  refine ⟨_, _, pre0 _ ?_, hrun, hended, _, _, rfl, ?_, ⟨_, rfl⟩, hW, hsame.mono (by decide) (by decide)⟩
  · show oS pP eE below s₁ (mkF mM 0 #[.val (.int (2 : Int32))] []) _
    refine XS.iloadN X0.here hx rfl (hb hby d_method_2_0) rfl ?_
    refine XS.ifYes X0.here hx rfl (pc0 := 1) (pc' := 8) rfl (hb hby d_method_2_1) rfl (by decide) (by decide) (by decide) ?_
    refine XS.iloadN X0.here hx rfl (hb hby d_method_2_8) rfl ?_
    refine XS.iconst X0.here hx rfl (hb hby d_method_2_9) ?_
    refine XS.icmpYes X0.here hx rfl (pc0 := 10) (pc' := 17) rfl (hb hby d_method_2_10) rfl (by decide) (by decide) (by decide) ?_
    refine XS.iloadN X0.here hx rfl (hb hby d_method_2_17) rfl ?_
    refine XS.iconst X0.here hx rfl (hb hby d_method_2_18) ?_
    refine XS.icmpNo X0.here hx rfl (hb hby d_method_2_19) rfl (by decide) ?_
    show oS pP eE below s₁ (mkF mM 22 #[.val (.int (2 : Int32))] []) _
    refine st_1 _ ?_
    show oS pP eE below T_1 (mkF mM 25 #[.val (.int (2 : Int32))] [(.ref r)]) _
    exact retOut X_1 hx Bd.returns rfl (Or.inr (Or.inr (Or.inr (Or.inr ⟨rfl, rfl, rfl⟩)))) (hb hby d_method_2_25) hr
  · show Q_pick2 Z r h0 n0 _ T_1.heap _
    rw [e_1]
    exact ⟨rfl, N0, rfl⟩
theorem d_method_2_26 : decode method_2_code 26 = .ok (.iload_n 0, 1) := by decide +kernel
theorem d_method_2_27 : decode method_2_code 27 = .ok (.iconst 3, 1) := by decide +kernel
theorem d_method_2_28 : decode method_2_code 28 = .ok (.if_icmp .ne 7, 3) := by decide +kernel
theorem d_method_2_31 : decode method_2_code 31 = .ok (.getstatic 19, 3) := by decide +kernel
theorem d_method_2_34 : decode method_2_code 34 = .ok (.areturn, 1) := by decide +kernel
theorem ef_pick3 (mM : MethodId) (x0 : Int32) : entryFrame mM #[(.int x0)] 1 = mkF mM 0 #[.val (.int x0)] [] := by first | (simp [entryFrame, mkF, argsToLocals, Value.category]; done) | rfl
def Q_pick3 (Z : State) (r : Addr) (h0 : Heap) (n0 : Nat) (v_ : Option Value) (h_ : Heap) (L_ : List Loc) : Prop := v_ = some (.ref r) ∧ Fr n0 L_ ∧ h_ = h0
set_option maxRecDepth 65536 in
set_option maxHeartbeats 40000000 in
theorem rm_pick3 (l : Launch) (Z : State) (a0 : Array Value) (hw : ∀ d ∈ tables_1, d.before a0 Z = true) (ws : List Jvm.Cond) (r : Addr) (h0 : Heap) (n0 : Nat) (Z0 : n0 ≤ h0.size) (S_SampleType_INT16 : Sta Z h0 "com/example/greenweft/greenweft/map/SampleType" "INT16" "Lcom/example/greenweft/greenweft/map/SampleType;" (.ref r)) :
    MetFree l (⟨"com/example/greenweft/greenweft/map/SampleTypeStoredPinLaw", "pick", "(I)Lcom/example/greenweft/greenweft/map/SampleType;"⟩ : MethodName) (head1 (Jvm.Cond.code (⟨"com/example/greenweft/greenweft/map/SampleTypeStoredPinLaw", "pick", "(I)Lcom/example/greenweft/greenweft/map/SampleType;"⟩ : MethodName) method_2_code 1 (some (.object "com/example/greenweft/greenweft/map/SampleType")) :: ws) ({ frames := 0, cells := 0, slots := 0, locals := 0 } : Room)) (fun aa_ U_ => aa_ = #[(.int (3 : Int32))] ∧ Z.Warmed39 U_.vm ∧ U_.heap = h0) (fun _ _ _ _ _ => True) (fun _ U_ o_ U'_ => ∃ v_ L_, o_ = .returned v_ ∧ Q_pick3 Z r h0 n0 v_ U'_.heap L_ ∧ FrameEnd U_ o_ U'_ L_ ({ frames := 0, cells := 0, slots := 0, locals := 0 } : Room).cells ({ frames := 0, cells := 0, slots := 0, locals := 0 } : Room).slots) := by
  refine MetFree.of_bodySF (plainFor_of_name pn_0) hisR ?_
  intro pP eE sS mM argsA below meth cC s₁ Bd hml0 hP hK
  obtain ⟨rfl, hZ, hh⟩ := hP
  have hx := Bd.exec
  have hby := Bd.bytes
  have hml : cC.maxLocals = 1 := hml0
  have hown : sS.vm.findClass "com/example/greenweft/greenweft/map/SampleTypeStoredPinLaw" = some mM.cls := findClass_of_methodNamed Bd.named
  have hnm := (name_of_methodNamed Bd.named Bd.method).1
  have X0 : Stand pP l eE ({ frames := 0, cells := 0, slots := 0, locals := 0 } : Room) sS mM #[(.int (3 : Int32))] below meth cC s₁ [] 0 0 := Stand.of_body Bd
  have e0 : s₁.heap = h0 := by rw [← hh, Bd.state]; rfl
  have N0 := Fr.nil n0
  have pre0 : ∀ t_, Steps pP.tables eE below (s₁.setTop (mkF mM 0 #[.val (.int (3 : Int32))] [])) t_ → Steps pP.tables eE below (s₁.setTop (entryFrame mM #[(.int (3 : Int32))] 1)) t_ := fun t_ k_ => castTop (ef_pick3 mM (3 : Int32)) k_
  obtain ⟨T_1, X_1, e_1, st_1⟩ := getS2 X0 hx hZ hown (host := "") (Or.inl (ow hw 20 rfl)) Via.refl e0 S_SampleType_INT16 (g := (mkF mM 31 #[.val (.int (3 : Int32))] [])) rfl (hb hby d_method_2_31)
  obtain ⟨fs, hr, hrun, hended, hW, hsame⟩ := X_1.leave (v := some (.ref r)) (fun h => by rw [Bd.returns] at h; cases h)
  refine ⟨_, _, pre0 _ ?_, hrun, hended, _, _, rfl, ?_, ⟨_, rfl⟩, hW, hsame.mono (by decide) (by decide)⟩
  · show oS pP eE below s₁ (mkF mM 0 #[.val (.int (3 : Int32))] []) _
    refine XS.iloadN X0.here hx rfl (hb hby d_method_2_0) rfl ?_
    refine XS.ifYes X0.here hx rfl (pc0 := 1) (pc' := 8) rfl (hb hby d_method_2_1) rfl (by decide) (by decide) (by decide) ?_
    refine XS.iloadN X0.here hx rfl (hb hby d_method_2_8) rfl ?_
    refine XS.iconst X0.here hx rfl (hb hby d_method_2_9) ?_
    refine XS.icmpYes X0.here hx rfl (pc0 := 10) (pc' := 17) rfl (hb hby d_method_2_10) rfl (by decide) (by decide) (by decide) ?_
    refine XS.iloadN X0.here hx rfl (hb hby d_method_2_17) rfl ?_
    refine XS.iconst X0.here hx rfl (hb hby d_method_2_18) ?_
    refine XS.icmpYes X0.here hx rfl (pc0 := 19) (pc' := 26) rfl (hb hby d_method_2_19) rfl (by decide) (by decide) (by decide) ?_
    show oS pP eE below s₁ (mkF mM 26 #[.val (.int (3 : Int32))] []) _
    refine XS.iloadN X0.here hx rfl (hb hby d_method_2_26) rfl ?_
    refine XS.iconst X0.here hx rfl (hb hby d_method_2_27) ?_
    refine XS.icmpNo X0.here hx rfl (hb hby d_method_2_28) rfl (by decide) ?_
    show oS pP eE below s₁ (mkF mM 31 #[.val (.int (3 : Int32))] []) _
    refine st_1 _ ?_
    show oS pP eE below T_1 (mkF mM 34 #[.val (.int (3 : Int32))] [(.ref r)]) _
    exact retOut X_1 hx Bd.returns rfl (Or.inr (Or.inr (Or.inr (Or.inr ⟨rfl, rfl, rfl⟩)))) (hb hby d_method_2_34) hr
  · show Q_pick3 Z r h0 n0 _ T_1.heap _
    rw [e_1]
    exact ⟨rfl, N0, rfl⟩
theorem d_method_2_35 : decode method_2_code 35 = .ok (.iload_n 0, 1) := by decide +kernel
theorem d_method_2_36 : decode method_2_code 36 = .ok (.iconst 4, 1) := by decide +kernel
theorem d_method_2_37 : decode method_2_code 37 = .ok (.if_icmp .ne 7, 3) := by decide +kernel
theorem d_method_2_40 : decode method_2_code 40 = .ok (.getstatic 22, 3) := by decide +kernel
theorem d_method_2_43 : decode method_2_code 43 = .ok (.areturn, 1) := by decide +kernel
theorem ef_pick4 (mM : MethodId) (x0 : Int32) : entryFrame mM #[(.int x0)] 1 = mkF mM 0 #[.val (.int x0)] [] := by first | (simp [entryFrame, mkF, argsToLocals, Value.category]; done) | rfl
def Q_pick4 (Z : State) (r : Addr) (h0 : Heap) (n0 : Nat) (v_ : Option Value) (h_ : Heap) (L_ : List Loc) : Prop := v_ = some (.ref r) ∧ Fr n0 L_ ∧ h_ = h0
set_option maxRecDepth 65536 in
set_option maxHeartbeats 40000000 in
theorem rm_pick4 (l : Launch) (Z : State) (a0 : Array Value) (hw : ∀ d ∈ tables_1, d.before a0 Z = true) (ws : List Jvm.Cond) (r : Addr) (h0 : Heap) (n0 : Nat) (Z0 : n0 ≤ h0.size) (S_SampleType_UINT32 : Sta Z h0 "com/example/greenweft/greenweft/map/SampleType" "UINT32" "Lcom/example/greenweft/greenweft/map/SampleType;" (.ref r)) :
    MetFree l (⟨"com/example/greenweft/greenweft/map/SampleTypeStoredPinLaw", "pick", "(I)Lcom/example/greenweft/greenweft/map/SampleType;"⟩ : MethodName) (head1 (Jvm.Cond.code (⟨"com/example/greenweft/greenweft/map/SampleTypeStoredPinLaw", "pick", "(I)Lcom/example/greenweft/greenweft/map/SampleType;"⟩ : MethodName) method_2_code 1 (some (.object "com/example/greenweft/greenweft/map/SampleType")) :: ws) ({ frames := 0, cells := 0, slots := 0, locals := 0 } : Room)) (fun aa_ U_ => aa_ = #[(.int (4 : Int32))] ∧ Z.Warmed39 U_.vm ∧ U_.heap = h0) (fun _ _ _ _ _ => True) (fun _ U_ o_ U'_ => ∃ v_ L_, o_ = .returned v_ ∧ Q_pick4 Z r h0 n0 v_ U'_.heap L_ ∧ FrameEnd U_ o_ U'_ L_ ({ frames := 0, cells := 0, slots := 0, locals := 0 } : Room).cells ({ frames := 0, cells := 0, slots := 0, locals := 0 } : Room).slots) := by
  refine MetFree.of_bodySF (plainFor_of_name pn_0) hisR ?_
  intro pP eE sS mM argsA below meth cC s₁ Bd hml0 hP hK
  obtain ⟨rfl, hZ, hh⟩ := hP
  have hx := Bd.exec
  have hby := Bd.bytes
  have hml : cC.maxLocals = 1 := hml0
  have hown : sS.vm.findClass "com/example/greenweft/greenweft/map/SampleTypeStoredPinLaw" = some mM.cls := findClass_of_methodNamed Bd.named
  have hnm := (name_of_methodNamed Bd.named Bd.method).1
  have X0 : Stand pP l eE ({ frames := 0, cells := 0, slots := 0, locals := 0 } : Room) sS mM #[(.int (4 : Int32))] below meth cC s₁ [] 0 0 := Stand.of_body Bd
  have e0 : s₁.heap = h0 := by rw [← hh, Bd.state]; rfl
  have N0 := Fr.nil n0
  have pre0 : ∀ t_, Steps pP.tables eE below (s₁.setTop (mkF mM 0 #[.val (.int (4 : Int32))] [])) t_ → Steps pP.tables eE below (s₁.setTop (entryFrame mM #[(.int (4 : Int32))] 1)) t_ := fun t_ k_ => castTop (ef_pick4 mM (4 : Int32)) k_
  obtain ⟨T_1, X_1, e_1, st_1⟩ := getS2 X0 hx hZ hown (host := "") (Or.inl (ow hw 16 rfl)) Via.refl e0 S_SampleType_UINT32 (g := (mkF mM 40 #[.val (.int (4 : Int32))] [])) rfl (hb hby d_method_2_40)
  obtain ⟨fs, hr, hrun, hended, hW, hsame⟩ := X_1.leave (v := some (.ref r)) (fun h => by rw [Bd.returns] at h; cases h)
  refine ⟨_, _, pre0 _ ?_, hrun, hended, _, _, rfl, ?_, ⟨_, rfl⟩, hW, hsame.mono (by decide) (by decide)⟩
  · show oS pP eE below s₁ (mkF mM 0 #[.val (.int (4 : Int32))] []) _
    refine XS.iloadN X0.here hx rfl (hb hby d_method_2_0) rfl ?_
    refine XS.ifYes X0.here hx rfl (pc0 := 1) (pc' := 8) rfl (hb hby d_method_2_1) rfl (by decide) (by decide) (by decide) ?_
    refine XS.iloadN X0.here hx rfl (hb hby d_method_2_8) rfl ?_
    refine XS.iconst X0.here hx rfl (hb hby d_method_2_9) ?_
    refine XS.icmpYes X0.here hx rfl (pc0 := 10) (pc' := 17) rfl (hb hby d_method_2_10) rfl (by decide) (by decide) (by decide) ?_
    refine XS.iloadN X0.here hx rfl (hb hby d_method_2_17) rfl ?_
    refine XS.iconst X0.here hx rfl (hb hby d_method_2_18) ?_
    refine XS.icmpYes X0.here hx rfl (pc0 := 19) (pc' := 26) rfl (hb hby d_method_2_19) rfl (by decide) (by decide) (by decide) ?_
    show oS pP eE below s₁ (mkF mM 26 #[.val (.int (4 : Int32))] []) _
    refine XS.iloadN X0.here hx rfl (hb hby d_method_2_26) rfl ?_
    refine XS.iconst X0.here hx rfl (hb hby d_method_2_27) ?_
    refine XS.icmpYes X0.here hx rfl (pc0 := 28) (pc' := 35) rfl (hb hby d_method_2_28) rfl (by decide) (by decide) (by decide) ?_
    refine XS.iloadN X0.here hx rfl (hb hby d_method_2_35) rfl ?_
    refine XS.iconst X0.here hx rfl (hb hby d_method_2_36) ?_
    refine XS.icmpNo X0.here hx rfl (hb hby d_method_2_37) rfl (by decide) ?_
    show oS pP eE below s₁ (mkF mM 40 #[.val (.int (4 : Int32))] []) _
    refine st_1 _ ?_
    show oS pP eE below T_1 (mkF mM 43 #[.val (.int (4 : Int32))] [(.ref r)]) _
    exact retOut X_1 hx Bd.returns rfl (Or.inr (Or.inr (Or.inr (Or.inr ⟨rfl, rfl, rfl⟩)))) (hb hby d_method_2_43) hr
  · show Q_pick4 Z r h0 n0 _ T_1.heap _
    rw [e_1]
    exact ⟨rfl, N0, rfl⟩
theorem d_method_2_44 : decode method_2_code 44 = .ok (.iload_n 0, 1) := by decide +kernel
theorem d_method_2_45 : decode method_2_code 45 = .ok (.iconst 5, 1) := by decide +kernel
theorem d_method_2_46 : decode method_2_code 46 = .ok (.if_icmp .ne 7, 3) := by decide +kernel
theorem d_method_2_49 : decode method_2_code 49 = .ok (.getstatic 25, 3) := by decide +kernel
theorem d_method_2_52 : decode method_2_code 52 = .ok (.areturn, 1) := by decide +kernel
theorem ef_pick5 (mM : MethodId) (x0 : Int32) : entryFrame mM #[(.int x0)] 1 = mkF mM 0 #[.val (.int x0)] [] := by first | (simp [entryFrame, mkF, argsToLocals, Value.category]; done) | rfl
def Q_pick5 (Z : State) (r : Addr) (h0 : Heap) (n0 : Nat) (v_ : Option Value) (h_ : Heap) (L_ : List Loc) : Prop := v_ = some (.ref r) ∧ Fr n0 L_ ∧ h_ = h0
set_option maxRecDepth 65536 in
set_option maxHeartbeats 40000000 in
theorem rm_pick5 (l : Launch) (Z : State) (a0 : Array Value) (hw : ∀ d ∈ tables_1, d.before a0 Z = true) (ws : List Jvm.Cond) (r : Addr) (h0 : Heap) (n0 : Nat) (Z0 : n0 ≤ h0.size) (S_SampleType_INT32 : Sta Z h0 "com/example/greenweft/greenweft/map/SampleType" "INT32" "Lcom/example/greenweft/greenweft/map/SampleType;" (.ref r)) :
    MetFree l (⟨"com/example/greenweft/greenweft/map/SampleTypeStoredPinLaw", "pick", "(I)Lcom/example/greenweft/greenweft/map/SampleType;"⟩ : MethodName) (head1 (Jvm.Cond.code (⟨"com/example/greenweft/greenweft/map/SampleTypeStoredPinLaw", "pick", "(I)Lcom/example/greenweft/greenweft/map/SampleType;"⟩ : MethodName) method_2_code 1 (some (.object "com/example/greenweft/greenweft/map/SampleType")) :: ws) ({ frames := 0, cells := 0, slots := 0, locals := 0 } : Room)) (fun aa_ U_ => aa_ = #[(.int (5 : Int32))] ∧ Z.Warmed39 U_.vm ∧ U_.heap = h0) (fun _ _ _ _ _ => True) (fun _ U_ o_ U'_ => ∃ v_ L_, o_ = .returned v_ ∧ Q_pick5 Z r h0 n0 v_ U'_.heap L_ ∧ FrameEnd U_ o_ U'_ L_ ({ frames := 0, cells := 0, slots := 0, locals := 0 } : Room).cells ({ frames := 0, cells := 0, slots := 0, locals := 0 } : Room).slots) := by
  refine MetFree.of_bodySF (plainFor_of_name pn_0) hisR ?_
  intro pP eE sS mM argsA below meth cC s₁ Bd hml0 hP hK
  obtain ⟨rfl, hZ, hh⟩ := hP
  have hx := Bd.exec
  have hby := Bd.bytes
  have hml : cC.maxLocals = 1 := hml0
  have hown : sS.vm.findClass "com/example/greenweft/greenweft/map/SampleTypeStoredPinLaw" = some mM.cls := findClass_of_methodNamed Bd.named
  have hnm := (name_of_methodNamed Bd.named Bd.method).1
  have X0 : Stand pP l eE ({ frames := 0, cells := 0, slots := 0, locals := 0 } : Room) sS mM #[(.int (5 : Int32))] below meth cC s₁ [] 0 0 := Stand.of_body Bd
  have e0 : s₁.heap = h0 := by rw [← hh, Bd.state]; rfl
  have N0 := Fr.nil n0
  have pre0 : ∀ t_, Steps pP.tables eE below (s₁.setTop (mkF mM 0 #[.val (.int (5 : Int32))] [])) t_ → Steps pP.tables eE below (s₁.setTop (entryFrame mM #[(.int (5 : Int32))] 1)) t_ := fun t_ k_ => castTop (ef_pick5 mM (5 : Int32)) k_
  obtain ⟨T_1, X_1, e_1, st_1⟩ := getS2 X0 hx hZ hown (host := "") (Or.inl (ow hw 25 rfl)) Via.refl e0 S_SampleType_INT32 (g := (mkF mM 49 #[.val (.int (5 : Int32))] [])) rfl (hb hby d_method_2_49)
  obtain ⟨fs, hr, hrun, hended, hW, hsame⟩ := X_1.leave (v := some (.ref r)) (fun h => by rw [Bd.returns] at h; cases h)
  refine ⟨_, _, pre0 _ ?_, hrun, hended, _, _, rfl, ?_, ⟨_, rfl⟩, hW, hsame.mono (by decide) (by decide)⟩
  · show oS pP eE below s₁ (mkF mM 0 #[.val (.int (5 : Int32))] []) _
    refine XS.iloadN X0.here hx rfl (hb hby d_method_2_0) rfl ?_
    refine XS.ifYes X0.here hx rfl (pc0 := 1) (pc' := 8) rfl (hb hby d_method_2_1) rfl (by decide) (by decide) (by decide) ?_
    refine XS.iloadN X0.here hx rfl (hb hby d_method_2_8) rfl ?_
    refine XS.iconst X0.here hx rfl (hb hby d_method_2_9) ?_
    refine XS.icmpYes X0.here hx rfl (pc0 := 10) (pc' := 17) rfl (hb hby d_method_2_10) rfl (by decide) (by decide) (by decide) ?_
    refine XS.iloadN X0.here hx rfl (hb hby d_method_2_17) rfl ?_
    refine XS.iconst X0.here hx rfl (hb hby d_method_2_18) ?_
    refine XS.icmpYes X0.here hx rfl (pc0 := 19) (pc' := 26) rfl (hb hby d_method_2_19) rfl (by decide) (by decide) (by decide) ?_
    show oS pP eE below s₁ (mkF mM 26 #[.val (.int (5 : Int32))] []) _
    refine XS.iloadN X0.here hx rfl (hb hby d_method_2_26) rfl ?_
    refine XS.iconst X0.here hx rfl (hb hby d_method_2_27) ?_
    refine XS.icmpYes X0.here hx rfl (pc0 := 28) (pc' := 35) rfl (hb hby d_method_2_28) rfl (by decide) (by decide) (by decide) ?_
    refine XS.iloadN X0.here hx rfl (hb hby d_method_2_35) rfl ?_
    refine XS.iconst X0.here hx rfl (hb hby d_method_2_36) ?_
    refine XS.icmpYes X0.here hx rfl (pc0 := 37) (pc' := 44) rfl (hb hby d_method_2_37) rfl (by decide) (by decide) (by decide) ?_
    refine XS.iloadN X0.here hx rfl (hb hby d_method_2_44) rfl ?_
    refine XS.iconst X0.here hx rfl (hb hby d_method_2_45) ?_
    show oS pP eE below s₁ (mkF mM 46 #[.val (.int (5 : Int32))] [(.int (5 : Int32)), (.int (5 : Int32))]) _
    refine XS.icmpNo X0.here hx rfl (hb hby d_method_2_46) rfl (by decide) ?_
    show oS pP eE below s₁ (mkF mM 49 #[.val (.int (5 : Int32))] []) _
    refine st_1 _ ?_
    show oS pP eE below T_1 (mkF mM 52 #[.val (.int (5 : Int32))] [(.ref r)]) _
    exact retOut X_1 hx Bd.returns rfl (Or.inr (Or.inr (Or.inr (Or.inr ⟨rfl, rfl, rfl⟩)))) (hb hby d_method_2_52) hr
  · show Q_pick5 Z r h0 n0 _ T_1.heap _
    rw [e_1]
    exact ⟨rfl, N0, rfl⟩
theorem d_method_2_53 : decode method_2_code 53 = .ok (.iload_n 0, 1) := by decide +kernel
theorem d_method_2_54 : decode method_2_code 54 = .ok (.bipush 6, 2) := by decide +kernel
theorem d_method_2_56 : decode method_2_code 56 = .ok (.if_icmp .ne 7, 3) := by decide +kernel
theorem d_method_2_59 : decode method_2_code 59 = .ok (.getstatic 28, 3) := by decide +kernel
theorem d_method_2_62 : decode method_2_code 62 = .ok (.areturn, 1) := by decide +kernel
theorem ef_pick6 (mM : MethodId) (x0 : Int32) : entryFrame mM #[(.int x0)] 1 = mkF mM 0 #[.val (.int x0)] [] := by first | (simp [entryFrame, mkF, argsToLocals, Value.category]; done) | rfl
def Q_pick6 (Z : State) (r : Addr) (h0 : Heap) (n0 : Nat) (v_ : Option Value) (h_ : Heap) (L_ : List Loc) : Prop := v_ = some (.ref r) ∧ Fr n0 L_ ∧ h_ = h0
set_option maxRecDepth 65536 in
set_option maxHeartbeats 40000000 in
theorem rm_pick6 (l : Launch) (Z : State) (a0 : Array Value) (hw : ∀ d ∈ tables_1, d.before a0 Z = true) (ws : List Jvm.Cond) (r : Addr) (h0 : Heap) (n0 : Nat) (Z0 : n0 ≤ h0.size) (S_SampleType_FLOAT32 : Sta Z h0 "com/example/greenweft/greenweft/map/SampleType" "FLOAT32" "Lcom/example/greenweft/greenweft/map/SampleType;" (.ref r)) :
    MetFree l (⟨"com/example/greenweft/greenweft/map/SampleTypeStoredPinLaw", "pick", "(I)Lcom/example/greenweft/greenweft/map/SampleType;"⟩ : MethodName) (head1 (Jvm.Cond.code (⟨"com/example/greenweft/greenweft/map/SampleTypeStoredPinLaw", "pick", "(I)Lcom/example/greenweft/greenweft/map/SampleType;"⟩ : MethodName) method_2_code 1 (some (.object "com/example/greenweft/greenweft/map/SampleType")) :: ws) ({ frames := 0, cells := 0, slots := 0, locals := 0 } : Room)) (fun aa_ U_ => aa_ = #[(.int (6 : Int32))] ∧ Z.Warmed39 U_.vm ∧ U_.heap = h0) (fun _ _ _ _ _ => True) (fun _ U_ o_ U'_ => ∃ v_ L_, o_ = .returned v_ ∧ Q_pick6 Z r h0 n0 v_ U'_.heap L_ ∧ FrameEnd U_ o_ U'_ L_ ({ frames := 0, cells := 0, slots := 0, locals := 0 } : Room).cells ({ frames := 0, cells := 0, slots := 0, locals := 0 } : Room).slots) := by
  refine MetFree.of_bodySF (plainFor_of_name pn_0) hisR ?_
  intro pP eE sS mM argsA below meth cC s₁ Bd hml0 hP hK
  obtain ⟨rfl, hZ, hh⟩ := hP
  have hx := Bd.exec
  have hby := Bd.bytes
  have hml : cC.maxLocals = 1 := hml0
  have hown : sS.vm.findClass "com/example/greenweft/greenweft/map/SampleTypeStoredPinLaw" = some mM.cls := findClass_of_methodNamed Bd.named
  have hnm := (name_of_methodNamed Bd.named Bd.method).1
  have X0 : Stand pP l eE ({ frames := 0, cells := 0, slots := 0, locals := 0 } : Room) sS mM #[(.int (6 : Int32))] below meth cC s₁ [] 0 0 := Stand.of_body Bd
  have e0 : s₁.heap = h0 := by rw [← hh, Bd.state]; rfl
  have N0 := Fr.nil n0
  have pre0 : ∀ t_, Steps pP.tables eE below (s₁.setTop (mkF mM 0 #[.val (.int (6 : Int32))] [])) t_ → Steps pP.tables eE below (s₁.setTop (entryFrame mM #[(.int (6 : Int32))] 1)) t_ := fun t_ k_ => castTop (ef_pick6 mM (6 : Int32)) k_
  obtain ⟨T_1, X_1, e_1, st_1⟩ := getS2 X0 hx hZ hown (host := "") (Or.inl (ow hw 24 rfl)) Via.refl e0 S_SampleType_FLOAT32 (g := (mkF mM 59 #[.val (.int (6 : Int32))] [])) rfl (hb hby d_method_2_59)
  obtain ⟨fs, hr, hrun, hended, hW, hsame⟩ := X_1.leave (v := some (.ref r)) (fun h => by rw [Bd.returns] at h; cases h)
  refine ⟨_, _, pre0 _ ?_, hrun, hended, _, _, rfl, ?_, ⟨_, rfl⟩, hW, hsame.mono (by decide) (by decide)⟩
  · show oS pP eE below s₁ (mkF mM 0 #[.val (.int (6 : Int32))] []) _
    refine XS.iloadN X0.here hx rfl (hb hby d_method_2_0) rfl ?_
    refine XS.ifYes X0.here hx rfl (pc0 := 1) (pc' := 8) rfl (hb hby d_method_2_1) rfl (by decide) (by decide) (by decide) ?_
    refine XS.iloadN X0.here hx rfl (hb hby d_method_2_8) rfl ?_
    refine XS.iconst X0.here hx rfl (hb hby d_method_2_9) ?_
    refine XS.icmpYes X0.here hx rfl (pc0 := 10) (pc' := 17) rfl (hb hby d_method_2_10) rfl (by decide) (by decide) (by decide) ?_
    refine XS.iloadN X0.here hx rfl (hb hby d_method_2_17) rfl ?_
    refine XS.iconst X0.here hx rfl (hb hby d_method_2_18) ?_
    refine XS.icmpYes X0.here hx rfl (pc0 := 19) (pc' := 26) rfl (hb hby d_method_2_19) rfl (by decide) (by decide) (by decide) ?_
    show oS pP eE below s₁ (mkF mM 26 #[.val (.int (6 : Int32))] []) _
    refine XS.iloadN X0.here hx rfl (hb hby d_method_2_26) rfl ?_
    refine XS.iconst X0.here hx rfl (hb hby d_method_2_27) ?_
    refine XS.icmpYes X0.here hx rfl (pc0 := 28) (pc' := 35) rfl (hb hby d_method_2_28) rfl (by decide) (by decide) (by decide) ?_
    refine XS.iloadN X0.here hx rfl (hb hby d_method_2_35) rfl ?_
    refine XS.iconst X0.here hx rfl (hb hby d_method_2_36) ?_
    refine XS.icmpYes X0.here hx rfl (pc0 := 37) (pc' := 44) rfl (hb hby d_method_2_37) rfl (by decide) (by decide) (by decide) ?_
    refine XS.iloadN X0.here hx rfl (hb hby d_method_2_44) rfl ?_
    refine XS.iconst X0.here hx rfl (hb hby d_method_2_45) ?_
    show oS pP eE below s₁ (mkF mM 46 #[.val (.int (6 : Int32))] [(.int (5 : Int32)), (.int (6 : Int32))]) _
    refine XS.icmpYes X0.here hx rfl (pc0 := 46) (pc' := 53) rfl (hb hby d_method_2_46) rfl (by decide) (by decide) (by decide) ?_
    refine XS.iloadN X0.here hx rfl (hb hby d_method_2_53) rfl ?_
    refine XS.bipush X0.here hx rfl (hb hby d_method_2_54) ?_
    refine XS.icmpNo X0.here hx rfl (hb hby d_method_2_56) rfl (by decide) ?_
    show oS pP eE below s₁ (mkF mM 59 #[.val (.int (6 : Int32))] []) _
    refine st_1 _ ?_
    show oS pP eE below T_1 (mkF mM 62 #[.val (.int (6 : Int32))] [(.ref r)]) _
    exact retOut X_1 hx Bd.returns rfl (Or.inr (Or.inr (Or.inr (Or.inr ⟨rfl, rfl, rfl⟩)))) (hb hby d_method_2_62) hr
  · show Q_pick6 Z r h0 n0 _ T_1.heap _
    rw [e_1]
    exact ⟨rfl, N0, rfl⟩
theorem d_method_2_63 : decode method_2_code 63 = .ok (.getstatic 31, 3) := by decide +kernel
theorem d_method_2_66 : decode method_2_code 66 = .ok (.areturn, 1) := by decide +kernel
theorem ef_pick7 (mM : MethodId) (x0 : Int32) : entryFrame mM #[(.int x0)] 1 = mkF mM 0 #[.val (.int x0)] [] := by first | (simp [entryFrame, mkF, argsToLocals, Value.category]; done) | rfl
def Q_pick7 (Z : State) (r : Addr) (h0 : Heap) (n0 : Nat) (v_ : Option Value) (h_ : Heap) (L_ : List Loc) : Prop := v_ = some (.ref r) ∧ Fr n0 L_ ∧ h_ = h0
set_option maxRecDepth 65536 in
set_option maxHeartbeats 40000000 in
theorem rm_pick7 (l : Launch) (Z : State) (a0 : Array Value) (hw : ∀ d ∈ tables_1, d.before a0 Z = true) (ws : List Jvm.Cond) (r : Addr) (h0 : Heap) (n0 : Nat) (Z0 : n0 ≤ h0.size) (S_SampleType_FLOAT64 : Sta Z h0 "com/example/greenweft/greenweft/map/SampleType" "FLOAT64" "Lcom/example/greenweft/greenweft/map/SampleType;" (.ref r)) :
    MetFree l (⟨"com/example/greenweft/greenweft/map/SampleTypeStoredPinLaw", "pick", "(I)Lcom/example/greenweft/greenweft/map/SampleType;"⟩ : MethodName) (head1 (Jvm.Cond.code (⟨"com/example/greenweft/greenweft/map/SampleTypeStoredPinLaw", "pick", "(I)Lcom/example/greenweft/greenweft/map/SampleType;"⟩ : MethodName) method_2_code 1 (some (.object "com/example/greenweft/greenweft/map/SampleType")) :: ws) ({ frames := 0, cells := 0, slots := 0, locals := 0 } : Room)) (fun aa_ U_ => aa_ = #[(.int (7 : Int32))] ∧ Z.Warmed39 U_.vm ∧ U_.heap = h0) (fun _ _ _ _ _ => True) (fun _ U_ o_ U'_ => ∃ v_ L_, o_ = .returned v_ ∧ Q_pick7 Z r h0 n0 v_ U'_.heap L_ ∧ FrameEnd U_ o_ U'_ L_ ({ frames := 0, cells := 0, slots := 0, locals := 0 } : Room).cells ({ frames := 0, cells := 0, slots := 0, locals := 0 } : Room).slots) := by
  refine MetFree.of_bodySF (plainFor_of_name pn_0) hisR ?_
  intro pP eE sS mM argsA below meth cC s₁ Bd hml0 hP hK
  obtain ⟨rfl, hZ, hh⟩ := hP
  have hx := Bd.exec
  have hby := Bd.bytes
  have hml : cC.maxLocals = 1 := hml0
  have hown : sS.vm.findClass "com/example/greenweft/greenweft/map/SampleTypeStoredPinLaw" = some mM.cls := findClass_of_methodNamed Bd.named
  have hnm := (name_of_methodNamed Bd.named Bd.method).1
  have X0 : Stand pP l eE ({ frames := 0, cells := 0, slots := 0, locals := 0 } : Room) sS mM #[(.int (7 : Int32))] below meth cC s₁ [] 0 0 := Stand.of_body Bd
  have e0 : s₁.heap = h0 := by rw [← hh, Bd.state]; rfl
  have N0 := Fr.nil n0
  have pre0 : ∀ t_, Steps pP.tables eE below (s₁.setTop (mkF mM 0 #[.val (.int (7 : Int32))] [])) t_ → Steps pP.tables eE below (s₁.setTop (entryFrame mM #[(.int (7 : Int32))] 1)) t_ := fun t_ k_ => castTop (ef_pick7 mM (7 : Int32)) k_
  obtain ⟨T_1, X_1, e_1, st_1⟩ := getS2 X0 hx hZ hown (host := "") (Or.inl (ow hw 22 rfl)) Via.refl e0 S_SampleType_FLOAT64 (g := (mkF mM 63 #[.val (.int (7 : Int32))] [])) rfl (hb hby d_method_2_63)
  obtain ⟨fs, hr, hrun, hended, hW, hsame⟩ := X_1.leave (v := some (.ref r)) (fun h => by rw [Bd.returns] at h; cases h)
  refine ⟨_, _, pre0 _ ?_, hrun, hended, _, _, rfl, ?_, ⟨_, rfl⟩, hW, hsame.mono (by decide) (by decide)⟩
  · show oS pP eE below s₁ (mkF mM 0 #[.val (.int (7 : Int32))] []) _
    refine XS.iloadN X0.here hx rfl (hb hby d_method_2_0) rfl ?_
    refine XS.ifYes X0.here hx rfl (pc0 := 1) (pc' := 8) rfl (hb hby d_method_2_1) rfl (by decide) (by decide) (by decide) ?_
    refine XS.iloadN X0.here hx rfl (hb hby d_method_2_8) rfl ?_
    refine XS.iconst X0.here hx rfl (hb hby d_method_2_9) ?_
    refine XS.icmpYes X0.here hx rfl (pc0 := 10) (pc' := 17) rfl (hb hby d_method_2_10) rfl (by decide) (by decide) (by decide) ?_
    refine XS.iloadN X0.here hx rfl (hb hby d_method_2_17) rfl ?_
    refine XS.iconst X0.here hx rfl (hb hby d_method_2_18) ?_
    refine XS.icmpYes X0.here hx rfl (pc0 := 19) (pc' := 26) rfl (hb hby d_method_2_19) rfl (by decide) (by decide) (by decide) ?_
    show oS pP eE below s₁ (mkF mM 26 #[.val (.int (7 : Int32))] []) _
    refine XS.iloadN X0.here hx rfl (hb hby d_method_2_26) rfl ?_
    refine XS.iconst X0.here hx rfl (hb hby d_method_2_27) ?_
    refine XS.icmpYes X0.here hx rfl (pc0 := 28) (pc' := 35) rfl (hb hby d_method_2_28) rfl (by decide) (by decide) (by decide) ?_
    refine XS.iloadN X0.here hx rfl (hb hby d_method_2_35) rfl ?_
    refine XS.iconst X0.here hx rfl (hb hby d_method_2_36) ?_
    refine XS.icmpYes X0.here hx rfl (pc0 := 37) (pc' := 44) rfl (hb hby d_method_2_37) rfl (by decide) (by decide) (by decide) ?_
    refine XS.iloadN X0.here hx rfl (hb hby d_method_2_44) rfl ?_
    refine XS.iconst X0.here hx rfl (hb hby d_method_2_45) ?_
    show oS pP eE below s₁ (mkF mM 46 #[.val (.int (7 : Int32))] [(.int (5 : Int32)), (.int (7 : Int32))]) _
    refine XS.icmpYes X0.here hx rfl (pc0 := 46) (pc' := 53) rfl (hb hby d_method_2_46) rfl (by decide) (by decide) (by decide) ?_
    refine XS.iloadN X0.here hx rfl (hb hby d_method_2_53) rfl ?_
    refine XS.bipush X0.here hx rfl (hb hby d_method_2_54) ?_
    refine XS.icmpYes X0.here hx rfl (pc0 := 56) (pc' := 63) rfl (hb hby d_method_2_56) rfl (by decide) (by decide) (by decide) ?_
    show oS pP eE below s₁ (mkF mM 63 #[.val (.int (7 : Int32))] []) _
    refine st_1 _ ?_
    show oS pP eE below T_1 (mkF mM 66 #[.val (.int (7 : Int32))] [(.ref r)]) _
    exact retOut X_1 hx Bd.returns rfl (Or.inr (Or.inr (Or.inr (Or.inr ⟨rfl, rfl, rfl⟩)))) (hb hby d_method_2_66) hr
  · show Q_pick7 Z r h0 n0 _ T_1.heap _
    rw [e_1]
    exact ⟨rfl, N0, rfl⟩
theorem d_prog_10m4_0 : decode prog_10_method_4_code 0 = .ok (.aload_n 0, 1) := by decide +kernel
theorem d_prog_10m4_1 : decode prog_10_method_4_code 1 = .ok (.getstatic 22, 3) := by decide +kernel
theorem d_prog_10m4_4 : decode prog_10_method_4_code 4 = .ok (.if_acmp .ne 9, 3) := by decide +kernel
theorem d_prog_10m4_13 : decode prog_10_method_4_code 13 = .ok (.dload_n 1, 1) := by decide +kernel
theorem d_prog_10m4_14 : decode prog_10_method_4_code 14 = .ok (.dreturn, 1) := by decide +kernel
theorem pn_1 : plainName "com/example/greenweft/greenweft/map/SampleType" = true := by first | (simp [plainName, overriddenIn]; done) | decide +kernel
theorem ef_sto (mM : MethodId) (x0 : Addr) (x1 : UInt64) : entryFrame mM #[(.ref x0), (.double x1)] 3 = mkF mM 0 #[.val (.ref x0), .val (.double x1), .second] [] := by first | (simp [entryFrame, mkF, argsToLocals, Value.category]; done) | rfl
def Q_sto (Z : State) (a : Addr) (fl : Addr) (xd : UInt64) (h0 : Heap) (n0 : Nat) (v_ : Option Value) (h_ : Heap) (L_ : List Loc) : Prop := v_ = some (.double xd) ∧ Fr n0 L_ ∧ h_ = h0
set_option maxRecDepth 65536 in
set_option maxHeartbeats 40000000 in
theorem rm_sto (l : Launch) (Z : State) (a0 : Array Value) (hw : ∀ d ∈ tables_1, d.before a0 Z = true) (ws : List Jvm.Cond) (a : Addr) (fl : Addr) (xd : UInt64) (h0 : Heap) (n0 : Nat) (Z0 : n0 ≤ h0.size) (S_SampleType_FLOAT32 : Sta Z h0 "com/example/greenweft/greenweft/map/SampleType" "FLOAT32" "Lcom/example/greenweft/greenweft/map/SampleType;" (.ref fl)) (n1 : a ≠ fl) :
    MetFree l (⟨"com/example/greenweft/greenweft/map/SampleType", "stored", "(D)D"⟩ : MethodName) (head1 (Jvm.Cond.code (⟨"com/example/greenweft/greenweft/map/SampleType", "stored", "(D)D"⟩ : MethodName) prog_10_method_4_code 3 (some .double) :: ws) ({ frames := 0, cells := 0, slots := 0, locals := 0 } : Room)) (fun aa_ U_ => aa_ = #[(.ref a), (.double xd)] ∧ Z.Warmed39 U_.vm ∧ U_.heap = h0) (fun _ _ _ _ _ => True) (fun _ U_ o_ U'_ => ∃ v_ L_, o_ = .returned v_ ∧ Q_sto Z a fl xd h0 n0 v_ U'_.heap L_ ∧ FrameEnd U_ o_ U'_ L_ ({ frames := 0, cells := 0, slots := 0, locals := 0 } : Room).cells ({ frames := 0, cells := 0, slots := 0, locals := 0 } : Room).slots) := by
  refine MetFree.of_bodySF (plainFor_of_name pn_1) hisR ?_
  intro pP eE sS mM argsA below meth cC s₁ Bd hml0 hP hK
  obtain ⟨rfl, hZ, hh⟩ := hP
  have hx := Bd.exec
  have hby := Bd.bytes
  have hml : cC.maxLocals = 3 := hml0
  have hown : sS.vm.findClass "com/example/greenweft/greenweft/map/SampleType" = some mM.cls := findClass_of_methodNamed Bd.named
  have hnm := (name_of_methodNamed Bd.named Bd.method).1
  have X0 : Stand pP l eE ({ frames := 0, cells := 0, slots := 0, locals := 0 } : Room) sS mM #[(.ref a), (.double xd)] below meth cC s₁ [] 0 0 := Stand.of_body Bd
  have e0 : s₁.heap = h0 := by rw [← hh, Bd.state]; rfl
  have N0 := Fr.nil n0
  have pre0 : ∀ t_, Steps pP.tables eE below (s₁.setTop (mkF mM 0 #[.val (.ref a), .val (.double xd), .second] [])) t_ → Steps pP.tables eE below (s₁.setTop (entryFrame mM #[(.ref a), (.double xd)] 3)) t_ := fun t_ k_ => castTop (ef_sto mM a xd) k_
  obtain ⟨T_1, X_1, e_1, st_1⟩ := getS2 X0 hx hZ hown (host := "") (Or.inl (ow hw 14 rfl)) Via.refl e0 S_SampleType_FLOAT32 (g := (mkF mM 1 #[.val (.ref a), .val (.double xd), .second] [(.ref a)])) rfl (hb hby d_prog_10m4_1)
  obtain ⟨fs, hr, hrun, hended, hW, hsame⟩ := X_1.leave (v := some (.double xd)) (fun h => by rw [Bd.returns] at h; cases h)
  refine ⟨_, _, pre0 _ ?_, hrun, hended, _, _, rfl, ?_, ⟨_, rfl⟩, hW, hsame.mono (by decide) (by decide)⟩
  · show oS pP eE below s₁ (mkF mM 0 #[.val (.ref a), .val (.double xd), .second] []) _
    refine XS.aloadN X0.here hx rfl (hb hby d_prog_10m4_0) rfl rfl ?_
    show oS pP eE below s₁ (mkF mM 1 #[.val (.ref a), .val (.double xd), .second] [(.ref a)]) _
    refine st_1 _ ?_
    show oS pP eE below T_1 (mkF mM 4 #[.val (.ref a), .val (.double xd), .second] [(.ref fl), (.ref a)]) _
    refine Jvm.RoadKit.acmp (g := (mkF mM 4 #[.val (.ref a), .val (.double xd), .second] [(.ref fl), (.ref a)])) X_1 hx rfl rfl rfl (pc0 := 4) (pc' := 13) (same := false) rfl (hb hby d_prog_10m4_4) rfl (decide_eq_false fun q => n1 (Value.ref.inj q)) (by decide) (by decide) ?_
    show oS pP eE below T_1 (mkF mM 13 #[.val (.ref a), .val (.double xd), .second] []) _
    refine XS.dloadN X_1.here hx rfl (hb hby d_prog_10m4_13) rfl ?_
    show oS pP eE below T_1 (mkF mM 14 #[.val (.ref a), .val (.double xd), .second] [(.double xd)]) _
    exact retOut X_1 hx Bd.returns rfl (Or.inr (Or.inr (Or.inl ⟨rfl, rfl, _, rfl⟩))) (hb hby d_prog_10m4_14) hr
  · show Q_sto Z a fl xd h0 n0 _ T_1.heap _
    rw [e_1]
    exact ⟨rfl, N0, rfl⟩
theorem d_prog_10m4_7 : decode prog_10_method_4_code 7 = .ok (.dload_n 1, 1) := by decide +kernel
theorem d_prog_10m4_8 : decode prog_10_method_4_code 8 = .ok (.d2f, 1) := by decide +kernel
theorem d_prog_10m4_9 : decode prog_10_method_4_code 9 = .ok (.f2d, 1) := by decide +kernel
theorem d_prog_10m4_10 : decode prog_10_method_4_code 10 = .ok (.goto 4, 3) := by decide +kernel
theorem ef_stf (mM : MethodId) (x0 : Addr) (x1 : UInt64) : entryFrame mM #[(.ref x0), (.double x1)] 3 = mkF mM 0 #[.val (.ref x0), .val (.double x1), .second] [] := by first | (simp [entryFrame, mkF, argsToLocals, Value.category]; done) | rfl
def Q_stf (Z : State) (fl : Addr) (xd : UInt64) (h0 : Heap) (n0 : Nat) (v_ : Option Value) (h_ : Heap) (L_ : List Loc) : Prop := v_ = some (.double (FP.f2d (FP.d2f xd))) ∧ Fr n0 L_ ∧ h_ = h0
set_option maxRecDepth 65536 in
set_option maxHeartbeats 40000000 in
theorem rm_stf (l : Launch) (Z : State) (a0 : Array Value) (hw : ∀ d ∈ tables_1, d.before a0 Z = true) (ws : List Jvm.Cond) (fl : Addr) (xd : UInt64) (h0 : Heap) (n0 : Nat) (Z0 : n0 ≤ h0.size) (S_SampleType_FLOAT32 : Sta Z h0 "com/example/greenweft/greenweft/map/SampleType" "FLOAT32" "Lcom/example/greenweft/greenweft/map/SampleType;" (.ref fl)) (hn1 : Jvm.Free.Fl.NoNaN64 xd) :
    MetFree l (⟨"com/example/greenweft/greenweft/map/SampleType", "stored", "(D)D"⟩ : MethodName) (head1 (Jvm.Cond.code (⟨"com/example/greenweft/greenweft/map/SampleType", "stored", "(D)D"⟩ : MethodName) prog_10_method_4_code 3 (some .double) :: ws) ({ frames := 0, cells := 0, slots := 0, locals := 0 } : Room)) (fun aa_ U_ => aa_ = #[(.ref fl), (.double xd)] ∧ Z.Warmed39 U_.vm ∧ U_.heap = h0) (fun _ _ _ _ _ => True) (fun _ U_ o_ U'_ => ∃ v_ L_, o_ = .returned v_ ∧ Q_stf Z fl xd h0 n0 v_ U'_.heap L_ ∧ FrameEnd U_ o_ U'_ L_ ({ frames := 0, cells := 0, slots := 0, locals := 0 } : Room).cells ({ frames := 0, cells := 0, slots := 0, locals := 0 } : Room).slots) := by
  refine MetFree.of_bodySF (plainFor_of_name pn_1) hisR ?_
  intro pP eE sS mM argsA below meth cC s₁ Bd hml0 hP hK
  obtain ⟨rfl, hZ, hh⟩ := hP
  have hx := Bd.exec
  have hby := Bd.bytes
  have hml : cC.maxLocals = 3 := hml0
  have hown : sS.vm.findClass "com/example/greenweft/greenweft/map/SampleType" = some mM.cls := findClass_of_methodNamed Bd.named
  have hnm := (name_of_methodNamed Bd.named Bd.method).1
  have X0 : Stand pP l eE ({ frames := 0, cells := 0, slots := 0, locals := 0 } : Room) sS mM #[(.ref fl), (.double xd)] below meth cC s₁ [] 0 0 := Stand.of_body Bd
  have e0 : s₁.heap = h0 := by rw [← hh, Bd.state]; rfl
  have N0 := Fr.nil n0
  have pre0 : ∀ t_, Steps pP.tables eE below (s₁.setTop (mkF mM 0 #[.val (.ref fl), .val (.double xd), .second] [])) t_ → Steps pP.tables eE below (s₁.setTop (entryFrame mM #[(.ref fl), (.double xd)] 3)) t_ := fun t_ k_ => castTop (ef_stf mM fl xd) k_
  obtain ⟨T_1, X_1, e_1, st_1⟩ := getS2 X0 hx hZ hown (host := "") (Or.inl (ow hw 14 rfl)) Via.refl e0 S_SampleType_FLOAT32 (g := (mkF mM 1 #[.val (.ref fl), .val (.double xd), .second] [(.ref fl)])) rfl (hb hby d_prog_10m4_1)
  obtain ⟨fs, hr, hrun, hended, hW, hsame⟩ := X_1.leave (v := some (.double (FP.f2d (FP.d2f xd)))) (fun h => by rw [Bd.returns] at h; cases h)
  refine ⟨_, _, pre0 _ ?_, hrun, hended, _, _, rfl, ?_, ⟨_, rfl⟩, hW, hsame.mono (by decide) (by decide)⟩
  · show oS pP eE below s₁ (mkF mM 0 #[.val (.ref fl), .val (.double xd), .second] []) _
    refine XS.aloadN X0.here hx rfl (hb hby d_prog_10m4_0) rfl rfl ?_
    show oS pP eE below s₁ (mkF mM 1 #[.val (.ref fl), .val (.double xd), .second] [(.ref fl)]) _
    refine st_1 _ ?_
    show oS pP eE below T_1 (mkF mM 4 #[.val (.ref fl), .val (.double xd), .second] [(.ref fl), (.ref fl)]) _
    refine Jvm.RoadKit.acmp (g := (mkF mM 4 #[.val (.ref fl), .val (.double xd), .second] [(.ref fl), (.ref fl)])) X_1 hx rfl rfl rfl (pc0 := 4) (pc' := 7) (same := true) rfl (hb hby d_prog_10m4_4) rfl (decide_eq_true rfl) (by decide) (by decide) ?_
    show oS pP eE below T_1 (mkF mM 7 #[.val (.ref fl), .val (.double xd), .second] []) _
    refine XS.dloadN X_1.here hx rfl (hb hby d_prog_10m4_7) rfl ?_
    show oS pP eE below T_1 (mkF mM 8 #[.val (.ref fl), .val (.double xd), .second] [(.double xd)]) _
    refine XS.d2fS X_1.here hx rfl (hb hby d_prog_10m4_8) rfl ((Jvm.Free.Fl.noNaN_d2f _).mpr hn1) rfl ?_
    show oS pP eE below T_1 (mkF mM 9 #[.val (.ref fl), .val (.double xd), .second] [(.float (FP.d2f xd))]) _
    refine XS.f2dS X_1.here hx rfl (hb hby d_prog_10m4_9) rfl ((Jvm.Free.Fl.noNaN_f2d _).mpr ((Jvm.Free.Fl.noNaN_d2f _).mpr hn1)) rfl ?_
    refine XS.goto X_1.here hx rfl (pc0 := 10) (pc' := 14) rfl (hb hby d_prog_10m4_10) (by decide) (by decide) ?_
    show oS pP eE below T_1 (mkF mM 14 #[.val (.ref fl), .val (.double xd), .second] [(.double (FP.f2d (FP.d2f xd)))]) _
    exact retOut X_1 hx Bd.returns rfl (Or.inr (Or.inr (Or.inl ⟨rfl, rfl, _, rfl⟩))) (hb hby d_prog_10m4_14) hr
  · show Q_stf Z fl xd h0 n0 _ T_1.heap _
    rw [e_1]
    exact ⟨rfl, N0, rfl⟩
abbrev lc0 (p1 : Int32) (p2 : Int32) (p3 : Int32) (p4 : Int64) : Array Slot := #[.val (.int p1), .val (.int p2), .val (.int p3), .val (.long p4), .second, .unset, .unset, .unset, .unset, .unset, .unset, .unset, .unset, .unset, .unset, .unset, .unset, .unset, .unset, .unset, .unset, .unset, .unset, .unset, .unset]
abbrev lc1 (p1 : Int32) (p2 : Int32) (p3 : Int32) (p4 : Int64) : Array Slot := #[.val (.int p1), .val (.int p2), .val (.int p3), .val (.long p4), .second, .val (.int (0 : Int32)), .unset, .unset, .unset, .unset, .unset, .unset, .unset, .unset, .unset, .unset, .unset, .unset, .unset, .unset, .unset, .unset, .unset, .unset, .unset]
abbrev lc2 (p1 : Int32) (p2 : Int32) (p3 : Int32) (p4 : Int64) : Array Slot := #[.val (.int p1), .val (.int p2), .val (.int p3), .val (.long p4), .second, .val (.int (0 : Int32)), .val (.int (0 : Int32)), .unset, .unset, .unset, .unset, .unset, .unset, .unset, .unset, .unset, .unset, .unset, .unset, .unset, .unset, .unset, .unset, .unset, .unset]
theorem pd_0 : parseMethodDescriptor "(I)Lcom/example/greenweft/greenweft/map/SampleType;" = some ⟨[.int], some (.object "com/example/greenweft/greenweft/map/SampleType")⟩ := by decide +kernel
abbrev MN0 : MethodName := ⟨"com/example/greenweft/greenweft/map/SampleTypeStoredPinLaw", "pick", "(I)Lcom/example/greenweft/greenweft/map/SampleType;"⟩
abbrev lc3 (p1 : Int32) (p2 : Int32) (p3 : Int32) (p4 : Int64) (r : Addr) : Array Slot := #[.val (.int p1), .val (.int p2), .val (.int p3), .val (.long p4), .second, .val (.int (0 : Int32)), .val (.int (0 : Int32)), .val (.ref r), .unset, .unset, .unset, .unset, .unset, .unset, .unset, .unset, .unset, .unset, .unset, .unset, .unset, .unset, .unset, .unset, .unset]
abbrev lc4 (p1 : Int32) (p2 : Int32) (p3 : Int32) (p4 : Int64) (r : Addr) (sv : Int32) : Array Slot := #[.val (.int p1), .val (.int p2), .val (.int p3), .val (.long p4), .second, .val (.int (0 : Int32)), .val (.int (0 : Int32)), .val (.ref r), .val (.int sv), .unset, .unset, .unset, .unset, .unset, .unset, .unset, .unset, .unset, .unset, .unset, .unset, .unset, .unset, .unset, .unset]
abbrev lc5 (p1 : Int32) (p2 : Int32) (p3 : Int32) (p4 : Int64) (r : Addr) (sv : Int32) (mv : Int64) : Array Slot := #[.val (.int p1), .val (.int p2), .val (.int p3), .val (.long p4), .second, .val (.int (0 : Int32)), .val (.int (0 : Int32)), .val (.ref r), .val (.int sv), .val (.long mv), .second, .unset, .unset, .unset, .unset, .unset, .unset, .unset, .unset, .unset, .unset, .unset, .unset, .unset, .unset]
abbrev lc6 (p1 : Int32) (p2 : Int32) (p3 : Int32) (p4 : Int64) (r : Addr) (sv : Int32) (mv : Int64) (rv : Int64) : Array Slot := #[.val (.int p1), .val (.int p2), .val (.int p3), .val (.long p4), .second, .val (.int (0 : Int32)), .val (.int (0 : Int32)), .val (.ref r), .val (.int sv), .val (.long mv), .second, .val (.long rv), .second, .unset, .unset, .unset, .unset, .unset, .unset, .unset, .unset, .unset, .unset, .unset, .unset]
abbrev lc7 (p1 : Int32) (p2 : Int32) (p3 : Int32) (p4 : Int64) (r : Addr) (sv : Int32) (mv : Int64) (rv : Int64) (vv : Int64) : Array Slot := #[.val (.int p1), .val (.int p2), .val (.int p3), .val (.long p4), .second, .val (.int (0 : Int32)), .val (.int (0 : Int32)), .val (.ref r), .val (.int sv), .val (.long mv), .second, .val (.long rv), .second, .val (.long vv), .second, .unset, .unset, .unset, .unset, .unset, .unset, .unset, .unset, .unset, .unset]
abbrev lc8 (p1 : Int32) (p2 : Int32) (p3 : Int32) (p4 : Int64) (r : Addr) (sv : Int32) (mv : Int64) (rv : Int64) (vv : Int64) : Array Slot := #[.val (.int p1), .val (.int p2), .val (.int p3), .val (.long p4), .second, .val (.int (0 : Int32)), .val (.int (0 : Int32)), .val (.ref r), .val (.int sv), .val (.long mv), .second, .val (.long rv), .second, .val (.long vv), .second, .val (.double (FP.l2d vv)), .second, .unset, .unset, .unset, .unset, .unset, .unset, .unset, .unset]
theorem pd_1 : parseMethodDescriptor "(D)D" = some ⟨[.double], some .double⟩ := by decide +kernel
abbrev MN1 : MethodName := ⟨"com/example/greenweft/greenweft/map/SampleType", "stored", "(D)D"⟩
abbrev lc9 (p1 : Int32) (p2 : Int32) (p3 : Int32) (p4 : Int64) (r : Addr) (sv : Int32) (mv : Int64) (rv : Int64) (vv : Int64) : Array Slot := #[.val (.int p1), .val (.int p2), .val (.int p3), .val (.long p4), .second, .val (.int (0 : Int32)), .val (.int (0 : Int32)), .val (.ref r), .val (.int sv), .val (.long mv), .second, .val (.long rv), .second, .val (.long vv), .second, .val (.double (FP.l2d vv)), .second, .val (.double (FP.l2d vv)), .second, .unset, .unset, .unset, .unset, .unset, .unset]
theorem ef_law00 (mM : MethodId) (x0 : Int32) (x1 : Int32) (x2 : Int32) (x3 : Int64) : entryFrame mM #[(.int x0), (.int x1), (.int x2), (.long x3)] maxLocals = mkF mM 0 #[.val (.int x0), .val (.int x1), .val (.int x2), .val (.long x3), .second, .unset, .unset, .unset, .unset, .unset, .unset, .unset, .unset, .unset, .unset, .unset, .unset, .unset, .unset, .unset, .unset, .unset, .unset, .unset, .unset] [] := by first | (simp [entryFrame, mkF, argsToLocals, Value.category, maxLocals]; done) | rfl
def Q_law00 (Z : State) (p1 : Int32) (p2 : Int32) (p3 : Int32) (p4 : Int64) (sv : Int32) (mv : Int64) (rv : Int64) (vv : Int64) (r : Addr) (fl : Addr) (h0 : Heap) (n0 : Nat) (v_ : Option Value) (h_ : Heap) (L_ : List Loc) : Prop := v_ = some (.int (1 : Int32)) ∧ Fr n0 L_
set_option maxRecDepth 65536 in
set_option maxHeartbeats 40000000 in
theorem rm_law00 (l : Launch) (Z : State) (a0 : Array Value) (hw : ∀ d ∈ tables_1, d.before a0 Z = true) (ws : List Jvm.Cond) (p1 : Int32) (p2 : Int32) (p3 : Int32) (p4 : Int64) (sv : Int32) (mv : Int64) (rv : Int64) (vv : Int64) (r : Addr) (fl : Addr) (h0 : Heap) (n0 : Nat) (Z0 : n0 ≤ h0.size) (hk : (p1 &&& (7 : Int32)) = (0 : Int32)) (hg : ((p1 >>> ((3 : Int32) &&& 31)) &&& (1 : Int32)) = 0) (hsv : ((p3 &&& (31 : Int32)) % (30 : Int32)) = sv) (hmv : ((8388608 : Int64) + ((p2 &&& (8388607 : Int32)).toInt64)) = mv) (hrv : (p4 &&& (((1 : Int64) <<< (sv.toInt64 &&& 63)) - (1 : Int64))) = rv) (hvv : ((mv <<< (sv.toInt64 &&& 63)) + rv) = vv) (hnn : Jvm.Free.Fl.NoNaN64 (FP.l2d vv)) (S_SampleType_UINT8 : Sta Z h0 "com/example/greenweft/greenweft/map/SampleType" "UINT8" "Lcom/example/greenweft/greenweft/map/SampleType;" (.ref r)) (S_SampleType_FLOAT32 : Sta Z h0 "com/example/greenweft/greenweft/map/SampleType" "FLOAT32" "Lcom/example/greenweft/greenweft/map/SampleType;" (.ref fl)) (n1 : r ≠ fl) (E_r : Exa Z h0 r "com/example/greenweft/greenweft/map/SampleType") :
    MetFree l x (head1 (Jvm.Cond.code x code maxLocals ret :: ws) room_1) (fun aa_ U_ => aa_ = #[(.int p1), (.int p2), (.int p3), (.long p4)] ∧ Z.Warmed39 U_.vm ∧ U_.heap = h0) (fun _ _ _ _ _ => True) (fun _ U_ o_ U'_ => ∃ v_ L_, o_ = .returned v_ ∧ Q_law00 Z p1 p2 p3 p4 sv mv rv vv r fl h0 n0 v_ U'_.heap L_ ∧ FrameEnd U_ o_ U'_ L_ 0 0) := by
  refine MetFree.of_bodySF (plainFor_of_name pn_0) hisR ?_
  intro pP eE sS mM argsA below meth cC s₁ Bd hml0 hP hK
  obtain ⟨rfl, hZ, hh⟩ := hP
  have hx := Bd.exec
  have hby := Bd.bytes
  have hml : cC.maxLocals = 25 := hml0
  have hown : sS.vm.findClass "com/example/greenweft/greenweft/map/SampleTypeStoredPinLaw" = some mM.cls := findClass_of_methodNamed Bd.named
  have hnm := (name_of_methodNamed Bd.named Bd.method).1
  have X0 : Stand pP l eE room_1 sS mM #[(.int p1), (.int p2), (.int p3), (.long p4)] below meth cC s₁ [] 0 0 := Stand.of_body Bd
  have e0 : s₁.heap = h0 := by rw [← hh, Bd.state]; rfl
  have N0 := Fr.nil n0
  have pre0 : ∀ t_, Steps pP.tables eE below (s₁.setTop (mkF mM 0 #[.val (.int p1), .val (.int p2), .val (.int p3), .val (.long p4), .second, .unset, .unset, .unset, .unset, .unset, .unset, .unset, .unset, .unset, .unset, .unset, .unset, .unset, .unset, .unset, .unset, .unset, .unset, .unset, .unset] [])) t_ → Steps pP.tables eE below (s₁.setTop (entryFrame mM #[(.int p1), (.int p2), (.int p3), (.long p4)] maxLocals)) t_ := fun t_ k_ => castTop (ef_law00 mM p1 p2 p3 p4) k_
  obtain ⟨_, _, ⟨T_1, L_1, k_1, n_1⟩, -, X_1, ⟨Lc_1, hQ_1, l_1, y_1, z_1⟩, st_1⟩ := Jvm.LawKit.callS X0 hx (y := MN0) hown (mvT hZ (ow hw 0 rfl)) (mvT hZ (ow hw 1 rfl)) (mvT hZ (ow hw 2 rfl)) (mvT hZ (ow hw 3 rfl)) (by decide) (backOf (W := 0) (rm_pick0 l Z a0 hw [] r h0 n0 Z0 S_SampleType_UINT8) hZ (ow hw 3 rfl) (ow hw 2 rfl) (by decide) (by decide)) (g := (mkF mM 23 (lc2 p1 p2 p3 p4) [(.int (0 : Int32))])) rfl (by rw [hml]; rfl) (argsL := [(.int (0 : Int32))]) (rest := []) (lenOf pd_0 rfl) rfl (by show 2 * 0 + _ ≤ _; exact Nat.le_of_eq rfl) (hb hby at_23) (fun _ _ => ⟨rfl, e0, (by decide : 0 + 0 ≤ _), (by decide : 0 + 0 ≤ _)⟩)
  dsimp only [Pt.U, Pt.locs, Pt.cells, Pt.slots] at X_1 l_1 y_1 z_1 st_1 hQ_1
  subst l_1 y_1 z_1
  obtain ⟨rfl, N_1q, eh_1⟩ := hQ_1
  have N_1 := Fr.app N0 N_1q
  obtain ⟨cq_2, kq_2, q_2a, q_2b, q_2c⟩ := isOf hZ eh_1 E_r
  obtain ⟨_, _, ⟨T_2, L_2, k_2, n_2⟩, -, X_2, ⟨Lc_2, hQ_2, l_2, y_2, z_2⟩, st_2⟩ := X_1.virtualBack hx (y := MN1) (z := MN1) hown (mvT hZ (ow hw 9 rfl)) (mvT hZ (ow hw 10 rfl)) (notFace_of_selects (args := #[]) (mvT hZ (ow hw 12 rfl))) (mvT hZ (ow hw 12 rfl)) (mvT hZ (ow hw 11 rfl)) (by decide) (backOf (W := 0) (rm_sto l Z a0 hw [] r fl (FP.l2d vv) h0 n0 Z0 S_SampleType_FLOAT32 n1) hZ (ow hw 13 rfl) (ow hw 5 rfl) (by decide) (by decide)) q_2a q_2c (g := (mkF mM 89 (lc8 p1 p2 p3 p4 r sv mv rv vv) [(.double (FP.l2d vv)), (.ref r)])) rfl (by rw [hml]; rfl) (Steps.refl _) (argsL := [(.double (FP.l2d vv))]) (rest := []) (lenOf pd_1 rfl) rfl (by show 2 * 0 + _ ≤ _; exact Nat.le_of_eq rfl) (hb hby at_89) (fun _ _ => ⟨rfl, eh_1, (by decide : 0 + 0 ≤ _), (by decide : 0 + 0 ≤ _)⟩)
  dsimp only [Pt.U, Pt.locs, Pt.cells, Pt.slots] at X_2 l_2 y_2 z_2 st_2 hQ_2
  subst l_2 y_2 z_2
  obtain ⟨rfl, N_2q, eh_2⟩ := hQ_2
  have N_2 := Fr.app N_1 N_2q
  obtain ⟨fs, hr, hrun, hended, hW, hsame⟩ := X_2.leave (v := some (.int (1 : Int32))) (fun h => by rw [Bd.returns] at h; cases h)
  refine ⟨_, _, pre0 _ ?_, hrun, hended, _, _, rfl, ?_, ⟨_, rfl⟩, hW, hsame.mono (by decide) (by decide)⟩
  · show oS pP eE below s₁ (mkF mM 0 (lc0 p1 p2 p3 p4) []) _
    refine XS.iloadN X0.here hx rfl (hb hby at_0) rfl ?_
    refine XS.bipush X0.here hx rfl (hb hby at_1) ?_
    show oS pP eE below s₁ (mkF mM 3 (lc0 p1 p2 p3 p4) [(.int (7 : Int32)), (.int p1)]) _
    refine XS.iand X0.here hx rfl (hb hby at_3) rfl ?_
    show Steps pP.tables eE below (s₁.setTop (mkF mM 4 (lc0 p1 p2 p3 p4) [(.int (p1 &&& (7 : Int32)))])) _
    rw [hk]
    refine XS.istore X0.here hx rfl (hb hby at_4) rfl (l' := (lc1 p1 p2 p3 p4)) rfl ?_
    refine XS.iloadN X0.here hx rfl (hb hby at_6) rfl ?_
    refine XS.iconst X0.here hx rfl (hb hby at_7) ?_
    show oS pP eE below s₁ (mkF mM 8 (lc1 p1 p2 p3 p4) [(.int (3 : Int32)), (.int p1)]) _
    refine XT.ishr X0.here hx rfl (hb hby at_8) rfl ?_
    refine XS.iconst X0.here hx rfl (hb hby at_9) ?_
    show oS pP eE below s₁ (mkF mM 10 (lc1 p1 p2 p3 p4) [(.int (1 : Int32)), (.int (p1 >>> ((3 : Int32) &&& 31)))]) _
    refine XS.iand X0.here hx rfl (hb hby at_10) rfl ?_
    refine XS.ifYes X0.here hx rfl (pc0 := 11) (pc' := 18) rfl (hb hby at_11) rfl (XT.i0_eq_t hg) (by decide) (by decide) ?_
    refine XS.iconst X0.here hx rfl (hb hby at_18) ?_
    refine XS.istore X0.here hx rfl (hb hby at_19) rfl (l' := (lc2 p1 p2 p3 p4)) rfl ?_
    refine XS.iload X0.here hx rfl (hb hby at_21) rfl ?_
    show oS pP eE below s₁ (mkF mM 23 (lc2 p1 p2 p3 p4) [(.int (0 : Int32))]) _
    refine st_1 _ ?_
    show oS pP eE below T_1 (mkF mM 26 (lc2 p1 p2 p3 p4) [(.ref r)]) _
    refine XS.astore X_1.here hx rfl (hb hby at_26) rfl rfl (l' := (lc3 p1 p2 p3 p4 r)) rfl ?_
    refine XS.iloadN X_1.here hx rfl (hb hby at_28) rfl ?_
    refine XS.bipush X_1.here hx rfl (hb hby at_29) ?_
    show oS pP eE below T_1 (mkF mM 31 (lc3 p1 p2 p3 p4 r) [(.int (31 : Int32)), (.int p3)]) _
    refine XS.iand X_1.here hx rfl (hb hby at_31) rfl ?_
    refine XS.bipush X_1.here hx rfl (hb hby at_32) ?_
    show oS pP eE below T_1 (mkF mM 34 (lc3 p1 p2 p3 p4 r) [(.int (30 : Int32)), (.int (p3 &&& (31 : Int32)))]) _
    refine iremM X_1 hx rfl (hb hby at_34) rfl (by decide) ?_
    show Steps pP.tables eE below (T_1.setTop (mkF mM 35 (lc3 p1 p2 p3 p4 r) [(.int ((p3 &&& (31 : Int32)) % (30 : Int32)))])) _
    rw [hsv]
    refine XS.istore X_1.here hx rfl (hb hby at_35) rfl (l' := (lc4 p1 p2 p3 p4 r sv)) rfl ?_
    show oS pP eE below T_1 (mkF mM 37 (lc4 p1 p2 p3 p4 r sv) []) _
    refine X_1.ldc2J hx hown (mvT hZ (ow hw 7 rfl)) (g := (mkF mM 37 (lc4 p1 p2 p3 p4 r sv) [])) rfl (hb hby at_37) ?_
    refine XS.iloadN X_1.here hx rfl (hb hby at_40) rfl ?_
    show oS pP eE below T_1 (mkF mM 41 (lc4 p1 p2 p3 p4 r sv) [(.int p2), (.long (8388608 : Int64))]) _
    refine X_1.ldcI hx hown (mvT hZ (ow hw 8 rfl)) (g := (mkF mM 41 (lc4 p1 p2 p3 p4 r sv) [(.int p2), (.long (8388608 : Int64))])) rfl (hb hby at_41) ?_
    show oS pP eE below T_1 (mkF mM 43 (lc4 p1 p2 p3 p4 r sv) [(.int (8388607 : Int32)), (.int p2), (.long (8388608 : Int64))]) _
    refine XS.iand X_1.here hx rfl (hb hby at_43) rfl ?_
    show oS pP eE below T_1 (mkF mM 44 (lc4 p1 p2 p3 p4 r sv) [(.int (p2 &&& (8388607 : Int32))), (.long (8388608 : Int64))]) _
    refine XT.i2l X_1.here hx rfl (hb hby at_44) rfl ?_
    show oS pP eE below T_1 (mkF mM 45 (lc4 p1 p2 p3 p4 r sv) [(.long ((p2 &&& (8388607 : Int32)).toInt64)), (.long (8388608 : Int64))]) _
    refine XT.ladd X_1.here hx rfl (hb hby at_45) rfl ?_
    show Steps pP.tables eE below (T_1.setTop (mkF mM 46 (lc4 p1 p2 p3 p4 r sv) [(.long ((8388608 : Int64) + ((p2 &&& (8388607 : Int32)).toInt64)))])) _
    rw [hmv]
    refine XT.lstore X_1.here hx rfl (hb hby at_46) rfl (l' := (lc5 p1 p2 p3 p4 r sv mv)) rfl ?_
    refine XT.lloadN X_1.here hx rfl (hb hby at_48) rfl ?_
    refine XT.lconst X_1.here hx rfl (hb hby at_49) ?_
    refine XS.iload X_1.here hx rfl (hb hby at_50) rfl ?_
    show oS pP eE below T_1 (mkF mM 52 (lc5 p1 p2 p3 p4 r sv mv) [(.int sv), (.long (1 : Int64)), (.long p4)]) _
    refine XT.lshl X_1.here hx rfl (hb hby at_52) rfl ?_
    refine XT.lconst X_1.here hx rfl (hb hby at_53) ?_
    show oS pP eE below T_1 (mkF mM 54 (lc5 p1 p2 p3 p4 r sv mv) [(.long (1 : Int64)), (.long ((1 : Int64) <<< (sv.toInt64 &&& 63))), (.long p4)]) _
    refine XT.lsub X_1.here hx rfl (hb hby at_54) rfl ?_
    show oS pP eE below T_1 (mkF mM 55 (lc5 p1 p2 p3 p4 r sv mv) [(.long (((1 : Int64) <<< (sv.toInt64 &&& 63)) - (1 : Int64))), (.long p4)]) _
    refine XT.land X_1.here hx rfl (hb hby at_55) rfl ?_
    show Steps pP.tables eE below (T_1.setTop (mkF mM 56 (lc5 p1 p2 p3 p4 r sv mv) [(.long (p4 &&& (((1 : Int64) <<< (sv.toInt64 &&& 63)) - (1 : Int64))))])) _
    rw [hrv]
    refine XT.lstore X_1.here hx rfl (hb hby at_56) rfl (l' := (lc6 p1 p2 p3 p4 r sv mv rv)) rfl ?_
    refine XT.lload X_1.here hx rfl (hb hby at_58) rfl ?_
    refine XS.iload X_1.here hx rfl (hb hby at_60) rfl ?_
    show oS pP eE below T_1 (mkF mM 62 (lc6 p1 p2 p3 p4 r sv mv rv) [(.int sv), (.long mv)]) _
    refine XT.lshl X_1.here hx rfl (hb hby at_62) rfl ?_
    refine XT.lload X_1.here hx rfl (hb hby at_63) rfl ?_
    show oS pP eE below T_1 (mkF mM 65 (lc6 p1 p2 p3 p4 r sv mv rv) [(.long rv), (.long (mv <<< (sv.toInt64 &&& 63)))]) _
    refine XT.ladd X_1.here hx rfl (hb hby at_65) rfl ?_
    show Steps pP.tables eE below (T_1.setTop (mkF mM 66 (lc6 p1 p2 p3 p4 r sv mv rv) [(.long ((mv <<< (sv.toInt64 &&& 63)) + rv))])) _
    rw [hvv]
    refine XT.lstore X_1.here hx rfl (hb hby at_66) rfl (l' := (lc7 p1 p2 p3 p4 r sv mv rv vv)) rfl ?_
    refine XS.iload X_1.here hx rfl (hb hby at_68) rfl ?_
    refine XS.ifYes X_1.here hx rfl (pc0 := 70) (pc' := 80) rfl (hb hby at_70) rfl (by decide) (by decide) (by decide) ?_
    refine XT.lload X_1.here hx rfl (hb hby at_80) rfl ?_
    show oS pP eE below T_1 (mkF mM 82 (lc7 p1 p2 p3 p4 r sv mv rv vv) [(.long vv)]) _
    refine XS.l2dS X_1.here hx rfl (hb hby at_82) rfl rfl ?_
    show oS pP eE below T_1 (mkF mM 83 (lc7 p1 p2 p3 p4 r sv mv rv vv) [(.double (FP.l2d vv))]) _
    refine XS.dstore X_1.here hx rfl (hb hby at_83) rfl (l' := (lc8 p1 p2 p3 p4 r sv mv rv vv)) rfl ?_
    refine XS.aload X_1.here hx rfl (hb hby at_85) rfl rfl ?_
    show oS pP eE below T_1 (mkF mM 87 (lc8 p1 p2 p3 p4 r sv mv rv vv) [(.ref r)]) _
    refine XS.dload X_1.here hx rfl (hb hby at_87) rfl ?_
    show oS pP eE below T_1 (mkF mM 89 (lc8 p1 p2 p3 p4 r sv mv rv vv) [(.double (FP.l2d vv)), (.ref r)]) _
    refine st_2.trans ?_
    show oS pP eE below T_2 (mkF mM 92 (lc8 p1 p2 p3 p4 r sv mv rv vv) [(.double (FP.l2d vv))]) _
    refine XS.dstore X_2.here hx rfl (hb hby at_92) rfl (l' := (lc9 p1 p2 p3 p4 r sv mv rv vv)) rfl ?_
    refine XS.iload X_2.here hx rfl (hb hby at_94) rfl ?_
    refine XS.bipush X_2.here hx rfl (hb hby at_96) ?_
    refine XS.icmpNo X_2.here hx rfl (hb hby at_98) rfl (by decide) ?_
    show oS pP eE below T_2 (mkF mM 101 (lc9 p1 p2 p3 p4 r sv mv rv vv) []) _
    refine XS.dload X_2.here hx rfl (hb hby at_101) rfl ?_
    show oS pP eE below T_2 (mkF mM 103 (lc9 p1 p2 p3 p4 r sv mv rv vv) [(.double (FP.l2d vv))]) _
    refine XS.dload X_2.here hx rfl (hb hby at_103) rfl ?_
    show oS pP eE below T_2 (mkF mM 105 (lc9 p1 p2 p3 p4 r sv mv rv vv) [(.double (FP.l2d vv)), (.double (FP.l2d vv))]) _
    refine XS.dcmpS X_2.here hx rfl (hb hby at_105) rfl rfl ?_
    refine XS.ifNo X_2.here hx rfl (hb hby at_106) rfl (XT.i0_ne_f (dcmpV_self hnn .l)) ?_
    refine XS.iconst X_2.here hx rfl (hb hby at_109) ?_
    refine XS.goto X_2.here hx rfl (pc0 := 110) (pc' := 114) rfl (hb hby at_110) (by decide) (by decide) ?_
    show oS pP eE below T_2 (mkF mM 114 (lc9 p1 p2 p3 p4 r sv mv rv vv) [(.int (1 : Int32))]) _
    exact retN X_2 hx (t := .boolean) Bd.returns (by simp) (hb hby at_114) hr
  · show Q_law00 Z p1 p2 p3 p4 sv mv rv vv r fl h0 n0 _ T_2.heap _
    exact ⟨rfl, N_2⟩
abbrev lc10 (p1 : Int32) (p2 : Int32) (p3 : Int32) (p4 : Int64) : Array Slot := #[.val (.int p1), .val (.int p2), .val (.int p3), .val (.long p4), .second, .val (.int (0 : Int32)), .val (.int (1 : Int32)), .unset, .unset, .unset, .unset, .unset, .unset, .unset, .unset, .unset, .unset, .unset, .unset, .unset, .unset, .unset, .unset, .unset, .unset]
abbrev lc11 (p1 : Int32) (p2 : Int32) (p3 : Int32) (p4 : Int64) (r : Addr) : Array Slot := #[.val (.int p1), .val (.int p2), .val (.int p3), .val (.long p4), .second, .val (.int (0 : Int32)), .val (.int (1 : Int32)), .val (.ref r), .unset, .unset, .unset, .unset, .unset, .unset, .unset, .unset, .unset, .unset, .unset, .unset, .unset, .unset, .unset, .unset, .unset]
abbrev lc12 (p1 : Int32) (p2 : Int32) (p3 : Int32) (p4 : Int64) (r : Addr) (sv : Int32) : Array Slot := #[.val (.int p1), .val (.int p2), .val (.int p3), .val (.long p4), .second, .val (.int (0 : Int32)), .val (.int (1 : Int32)), .val (.ref r), .val (.int sv), .unset, .unset, .unset, .unset, .unset, .unset, .unset, .unset, .unset, .unset, .unset, .unset, .unset, .unset, .unset, .unset]
abbrev lc13 (p1 : Int32) (p2 : Int32) (p3 : Int32) (p4 : Int64) (r : Addr) (sv : Int32) (mv : Int64) : Array Slot := #[.val (.int p1), .val (.int p2), .val (.int p3), .val (.long p4), .second, .val (.int (0 : Int32)), .val (.int (1 : Int32)), .val (.ref r), .val (.int sv), .val (.long mv), .second, .unset, .unset, .unset, .unset, .unset, .unset, .unset, .unset, .unset, .unset, .unset, .unset, .unset, .unset]
abbrev lc14 (p1 : Int32) (p2 : Int32) (p3 : Int32) (p4 : Int64) (r : Addr) (sv : Int32) (mv : Int64) (rv : Int64) : Array Slot := #[.val (.int p1), .val (.int p2), .val (.int p3), .val (.long p4), .second, .val (.int (0 : Int32)), .val (.int (1 : Int32)), .val (.ref r), .val (.int sv), .val (.long mv), .second, .val (.long rv), .second, .unset, .unset, .unset, .unset, .unset, .unset, .unset, .unset, .unset, .unset, .unset, .unset]
abbrev lc15 (p1 : Int32) (p2 : Int32) (p3 : Int32) (p4 : Int64) (r : Addr) (sv : Int32) (mv : Int64) (rv : Int64) (vv : Int64) : Array Slot := #[.val (.int p1), .val (.int p2), .val (.int p3), .val (.long p4), .second, .val (.int (0 : Int32)), .val (.int (1 : Int32)), .val (.ref r), .val (.int sv), .val (.long mv), .second, .val (.long rv), .second, .val (.long vv), .second, .unset, .unset, .unset, .unset, .unset, .unset, .unset, .unset, .unset, .unset]
abbrev lc16 (p1 : Int32) (p2 : Int32) (p3 : Int32) (p4 : Int64) (r : Addr) (sv : Int32) (mv : Int64) (rv : Int64) (vv : Int64) : Array Slot := #[.val (.int p1), .val (.int p2), .val (.int p3), .val (.long p4), .second, .val (.int (0 : Int32)), .val (.int (1 : Int32)), .val (.ref r), .val (.int sv), .val (.long mv), .second, .val (.long rv), .second, .val (.long vv), .second, .val (.double (FP.dneg (FP.l2d vv))), .second, .unset, .unset, .unset, .unset, .unset, .unset, .unset, .unset]
abbrev lc17 (p1 : Int32) (p2 : Int32) (p3 : Int32) (p4 : Int64) (r : Addr) (sv : Int32) (mv : Int64) (rv : Int64) (vv : Int64) : Array Slot := #[.val (.int p1), .val (.int p2), .val (.int p3), .val (.long p4), .second, .val (.int (0 : Int32)), .val (.int (1 : Int32)), .val (.ref r), .val (.int sv), .val (.long mv), .second, .val (.long rv), .second, .val (.long vv), .second, .val (.double (FP.dneg (FP.l2d vv))), .second, .val (.double (FP.dneg (FP.l2d vv))), .second, .unset, .unset, .unset, .unset, .unset, .unset]
theorem ef_law01 (mM : MethodId) (x0 : Int32) (x1 : Int32) (x2 : Int32) (x3 : Int64) : entryFrame mM #[(.int x0), (.int x1), (.int x2), (.long x3)] maxLocals = mkF mM 0 #[.val (.int x0), .val (.int x1), .val (.int x2), .val (.long x3), .second, .unset, .unset, .unset, .unset, .unset, .unset, .unset, .unset, .unset, .unset, .unset, .unset, .unset, .unset, .unset, .unset, .unset, .unset, .unset, .unset] [] := by first | (simp [entryFrame, mkF, argsToLocals, Value.category, maxLocals]; done) | rfl
def Q_law01 (Z : State) (p1 : Int32) (p2 : Int32) (p3 : Int32) (p4 : Int64) (sv : Int32) (mv : Int64) (rv : Int64) (vv : Int64) (r : Addr) (fl : Addr) (h0 : Heap) (n0 : Nat) (v_ : Option Value) (h_ : Heap) (L_ : List Loc) : Prop := v_ = some (.int (1 : Int32)) ∧ Fr n0 L_
set_option maxRecDepth 65536 in
set_option maxHeartbeats 40000000 in
theorem rm_law01 (l : Launch) (Z : State) (a0 : Array Value) (hw : ∀ d ∈ tables_1, d.before a0 Z = true) (ws : List Jvm.Cond) (p1 : Int32) (p2 : Int32) (p3 : Int32) (p4 : Int64) (sv : Int32) (mv : Int64) (rv : Int64) (vv : Int64) (r : Addr) (fl : Addr) (h0 : Heap) (n0 : Nat) (Z0 : n0 ≤ h0.size) (hk : (p1 &&& (7 : Int32)) = (0 : Int32)) (hg : ¬ ((p1 >>> ((3 : Int32) &&& 31)) &&& (1 : Int32)) = 0) (hsv : ((p3 &&& (31 : Int32)) % (30 : Int32)) = sv) (hmv : ((8388608 : Int64) + ((p2 &&& (8388607 : Int32)).toInt64)) = mv) (hrv : (p4 &&& (((1 : Int64) <<< (sv.toInt64 &&& 63)) - (1 : Int64))) = rv) (hvv : ((mv <<< (sv.toInt64 &&& 63)) + rv) = vv) (hnn : Jvm.Free.Fl.NoNaN64 (FP.dneg (FP.l2d vv))) (S_SampleType_UINT8 : Sta Z h0 "com/example/greenweft/greenweft/map/SampleType" "UINT8" "Lcom/example/greenweft/greenweft/map/SampleType;" (.ref r)) (S_SampleType_FLOAT32 : Sta Z h0 "com/example/greenweft/greenweft/map/SampleType" "FLOAT32" "Lcom/example/greenweft/greenweft/map/SampleType;" (.ref fl)) (n1 : r ≠ fl) (E_r : Exa Z h0 r "com/example/greenweft/greenweft/map/SampleType") :
    MetFree l x (head1 (Jvm.Cond.code x code maxLocals ret :: ws) room_1) (fun aa_ U_ => aa_ = #[(.int p1), (.int p2), (.int p3), (.long p4)] ∧ Z.Warmed39 U_.vm ∧ U_.heap = h0) (fun _ _ _ _ _ => True) (fun _ U_ o_ U'_ => ∃ v_ L_, o_ = .returned v_ ∧ Q_law01 Z p1 p2 p3 p4 sv mv rv vv r fl h0 n0 v_ U'_.heap L_ ∧ FrameEnd U_ o_ U'_ L_ 0 0) := by
  refine MetFree.of_bodySF (plainFor_of_name pn_0) hisR ?_
  intro pP eE sS mM argsA below meth cC s₁ Bd hml0 hP hK
  obtain ⟨rfl, hZ, hh⟩ := hP
  have hx := Bd.exec
  have hby := Bd.bytes
  have hml : cC.maxLocals = 25 := hml0
  have hown : sS.vm.findClass "com/example/greenweft/greenweft/map/SampleTypeStoredPinLaw" = some mM.cls := findClass_of_methodNamed Bd.named
  have hnm := (name_of_methodNamed Bd.named Bd.method).1
  have X0 : Stand pP l eE room_1 sS mM #[(.int p1), (.int p2), (.int p3), (.long p4)] below meth cC s₁ [] 0 0 := Stand.of_body Bd
  have e0 : s₁.heap = h0 := by rw [← hh, Bd.state]; rfl
  have N0 := Fr.nil n0
  have pre0 : ∀ t_, Steps pP.tables eE below (s₁.setTop (mkF mM 0 #[.val (.int p1), .val (.int p2), .val (.int p3), .val (.long p4), .second, .unset, .unset, .unset, .unset, .unset, .unset, .unset, .unset, .unset, .unset, .unset, .unset, .unset, .unset, .unset, .unset, .unset, .unset, .unset, .unset] [])) t_ → Steps pP.tables eE below (s₁.setTop (entryFrame mM #[(.int p1), (.int p2), (.int p3), (.long p4)] maxLocals)) t_ := fun t_ k_ => castTop (ef_law01 mM p1 p2 p3 p4) k_
  obtain ⟨_, _, ⟨T_1, L_1, k_1, n_1⟩, -, X_1, ⟨Lc_1, hQ_1, l_1, y_1, z_1⟩, st_1⟩ := Jvm.LawKit.callS X0 hx (y := MN0) hown (mvT hZ (ow hw 0 rfl)) (mvT hZ (ow hw 1 rfl)) (mvT hZ (ow hw 2 rfl)) (mvT hZ (ow hw 3 rfl)) (by decide) (backOf (W := 0) (rm_pick0 l Z a0 hw [] r h0 n0 Z0 S_SampleType_UINT8) hZ (ow hw 3 rfl) (ow hw 2 rfl) (by decide) (by decide)) (g := (mkF mM 23 (lc10 p1 p2 p3 p4) [(.int (0 : Int32))])) rfl (by rw [hml]; rfl) (argsL := [(.int (0 : Int32))]) (rest := []) (lenOf pd_0 rfl) rfl (by show 2 * 0 + _ ≤ _; exact Nat.le_of_eq rfl) (hb hby at_23) (fun _ _ => ⟨rfl, e0, (by decide : 0 + 0 ≤ _), (by decide : 0 + 0 ≤ _)⟩)
  dsimp only [Pt.U, Pt.locs, Pt.cells, Pt.slots] at X_1 l_1 y_1 z_1 st_1 hQ_1
  subst l_1 y_1 z_1
  obtain ⟨rfl, N_1q, eh_1⟩ := hQ_1
  have N_1 := Fr.app N0 N_1q
  obtain ⟨cq_2, kq_2, q_2a, q_2b, q_2c⟩ := isOf hZ eh_1 E_r
  obtain ⟨_, _, ⟨T_2, L_2, k_2, n_2⟩, -, X_2, ⟨Lc_2, hQ_2, l_2, y_2, z_2⟩, st_2⟩ := X_1.virtualBack hx (y := MN1) (z := MN1) hown (mvT hZ (ow hw 9 rfl)) (mvT hZ (ow hw 10 rfl)) (notFace_of_selects (args := #[]) (mvT hZ (ow hw 12 rfl))) (mvT hZ (ow hw 12 rfl)) (mvT hZ (ow hw 11 rfl)) (by decide) (backOf (W := 0) (rm_sto l Z a0 hw [] r fl (FP.dneg (FP.l2d vv)) h0 n0 Z0 S_SampleType_FLOAT32 n1) hZ (ow hw 13 rfl) (ow hw 5 rfl) (by decide) (by decide)) q_2a q_2c (g := (mkF mM 89 (lc16 p1 p2 p3 p4 r sv mv rv vv) [(.double (FP.dneg (FP.l2d vv))), (.ref r)])) rfl (by rw [hml]; rfl) (Steps.refl _) (argsL := [(.double (FP.dneg (FP.l2d vv)))]) (rest := []) (lenOf pd_1 rfl) rfl (by show 2 * 0 + _ ≤ _; exact Nat.le_of_eq rfl) (hb hby at_89) (fun _ _ => ⟨rfl, eh_1, (by decide : 0 + 0 ≤ _), (by decide : 0 + 0 ≤ _)⟩)
  dsimp only [Pt.U, Pt.locs, Pt.cells, Pt.slots] at X_2 l_2 y_2 z_2 st_2 hQ_2
  subst l_2 y_2 z_2
  obtain ⟨rfl, N_2q, eh_2⟩ := hQ_2
  have N_2 := Fr.app N_1 N_2q
  obtain ⟨fs, hr, hrun, hended, hW, hsame⟩ := X_2.leave (v := some (.int (1 : Int32))) (fun h => by rw [Bd.returns] at h; cases h)
  refine ⟨_, _, pre0 _ ?_, hrun, hended, _, _, rfl, ?_, ⟨_, rfl⟩, hW, hsame.mono (by decide) (by decide)⟩
  · show oS pP eE below s₁ (mkF mM 0 (lc0 p1 p2 p3 p4) []) _
    refine XS.iloadN X0.here hx rfl (hb hby at_0) rfl ?_
    refine XS.bipush X0.here hx rfl (hb hby at_1) ?_
    show oS pP eE below s₁ (mkF mM 3 (lc0 p1 p2 p3 p4) [(.int (7 : Int32)), (.int p1)]) _
    refine XS.iand X0.here hx rfl (hb hby at_3) rfl ?_
    show Steps pP.tables eE below (s₁.setTop (mkF mM 4 (lc0 p1 p2 p3 p4) [(.int (p1 &&& (7 : Int32)))])) _
    rw [hk]
    refine XS.istore X0.here hx rfl (hb hby at_4) rfl (l' := (lc1 p1 p2 p3 p4)) rfl ?_
    refine XS.iloadN X0.here hx rfl (hb hby at_6) rfl ?_
    refine XS.iconst X0.here hx rfl (hb hby at_7) ?_
    show oS pP eE below s₁ (mkF mM 8 (lc1 p1 p2 p3 p4) [(.int (3 : Int32)), (.int p1)]) _
    refine XT.ishr X0.here hx rfl (hb hby at_8) rfl ?_
    refine XS.iconst X0.here hx rfl (hb hby at_9) ?_
    show oS pP eE below s₁ (mkF mM 10 (lc1 p1 p2 p3 p4) [(.int (1 : Int32)), (.int (p1 >>> ((3 : Int32) &&& 31)))]) _
    refine XS.iand X0.here hx rfl (hb hby at_10) rfl ?_
    refine XS.ifNo X0.here hx rfl (hb hby at_11) rfl (XT.i0_eq_f hg) ?_
    refine XS.iconst X0.here hx rfl (hb hby at_14) ?_
    refine XS.goto X0.here hx rfl (pc0 := 15) (pc' := 19) rfl (hb hby at_15) (by decide) (by decide) ?_
    refine XS.istore X0.here hx rfl (hb hby at_19) rfl (l' := (lc10 p1 p2 p3 p4)) rfl ?_
    refine XS.iload X0.here hx rfl (hb hby at_21) rfl ?_
    show oS pP eE below s₁ (mkF mM 23 (lc10 p1 p2 p3 p4) [(.int (0 : Int32))]) _
    refine st_1 _ ?_
    show oS pP eE below T_1 (mkF mM 26 (lc10 p1 p2 p3 p4) [(.ref r)]) _
    refine XS.astore X_1.here hx rfl (hb hby at_26) rfl rfl (l' := (lc11 p1 p2 p3 p4 r)) rfl ?_
    refine XS.iloadN X_1.here hx rfl (hb hby at_28) rfl ?_
    refine XS.bipush X_1.here hx rfl (hb hby at_29) ?_
    show oS pP eE below T_1 (mkF mM 31 (lc11 p1 p2 p3 p4 r) [(.int (31 : Int32)), (.int p3)]) _
    refine XS.iand X_1.here hx rfl (hb hby at_31) rfl ?_
    refine XS.bipush X_1.here hx rfl (hb hby at_32) ?_
    show oS pP eE below T_1 (mkF mM 34 (lc11 p1 p2 p3 p4 r) [(.int (30 : Int32)), (.int (p3 &&& (31 : Int32)))]) _
    refine iremM X_1 hx rfl (hb hby at_34) rfl (by decide) ?_
    show Steps pP.tables eE below (T_1.setTop (mkF mM 35 (lc11 p1 p2 p3 p4 r) [(.int ((p3 &&& (31 : Int32)) % (30 : Int32)))])) _
    rw [hsv]
    refine XS.istore X_1.here hx rfl (hb hby at_35) rfl (l' := (lc12 p1 p2 p3 p4 r sv)) rfl ?_
    show oS pP eE below T_1 (mkF mM 37 (lc12 p1 p2 p3 p4 r sv) []) _
    refine X_1.ldc2J hx hown (mvT hZ (ow hw 7 rfl)) (g := (mkF mM 37 (lc12 p1 p2 p3 p4 r sv) [])) rfl (hb hby at_37) ?_
    refine XS.iloadN X_1.here hx rfl (hb hby at_40) rfl ?_
    show oS pP eE below T_1 (mkF mM 41 (lc12 p1 p2 p3 p4 r sv) [(.int p2), (.long (8388608 : Int64))]) _
    refine X_1.ldcI hx hown (mvT hZ (ow hw 8 rfl)) (g := (mkF mM 41 (lc12 p1 p2 p3 p4 r sv) [(.int p2), (.long (8388608 : Int64))])) rfl (hb hby at_41) ?_
    show oS pP eE below T_1 (mkF mM 43 (lc12 p1 p2 p3 p4 r sv) [(.int (8388607 : Int32)), (.int p2), (.long (8388608 : Int64))]) _
    refine XS.iand X_1.here hx rfl (hb hby at_43) rfl ?_
    show oS pP eE below T_1 (mkF mM 44 (lc12 p1 p2 p3 p4 r sv) [(.int (p2 &&& (8388607 : Int32))), (.long (8388608 : Int64))]) _
    refine XT.i2l X_1.here hx rfl (hb hby at_44) rfl ?_
    show oS pP eE below T_1 (mkF mM 45 (lc12 p1 p2 p3 p4 r sv) [(.long ((p2 &&& (8388607 : Int32)).toInt64)), (.long (8388608 : Int64))]) _
    refine XT.ladd X_1.here hx rfl (hb hby at_45) rfl ?_
    show Steps pP.tables eE below (T_1.setTop (mkF mM 46 (lc12 p1 p2 p3 p4 r sv) [(.long ((8388608 : Int64) + ((p2 &&& (8388607 : Int32)).toInt64)))])) _
    rw [hmv]
    refine XT.lstore X_1.here hx rfl (hb hby at_46) rfl (l' := (lc13 p1 p2 p3 p4 r sv mv)) rfl ?_
    refine XT.lloadN X_1.here hx rfl (hb hby at_48) rfl ?_
    refine XT.lconst X_1.here hx rfl (hb hby at_49) ?_
    refine XS.iload X_1.here hx rfl (hb hby at_50) rfl ?_
    show oS pP eE below T_1 (mkF mM 52 (lc13 p1 p2 p3 p4 r sv mv) [(.int sv), (.long (1 : Int64)), (.long p4)]) _
    refine XT.lshl X_1.here hx rfl (hb hby at_52) rfl ?_
    refine XT.lconst X_1.here hx rfl (hb hby at_53) ?_
    show oS pP eE below T_1 (mkF mM 54 (lc13 p1 p2 p3 p4 r sv mv) [(.long (1 : Int64)), (.long ((1 : Int64) <<< (sv.toInt64 &&& 63))), (.long p4)]) _
    refine XT.lsub X_1.here hx rfl (hb hby at_54) rfl ?_
    show oS pP eE below T_1 (mkF mM 55 (lc13 p1 p2 p3 p4 r sv mv) [(.long (((1 : Int64) <<< (sv.toInt64 &&& 63)) - (1 : Int64))), (.long p4)]) _
    refine XT.land X_1.here hx rfl (hb hby at_55) rfl ?_
    show Steps pP.tables eE below (T_1.setTop (mkF mM 56 (lc13 p1 p2 p3 p4 r sv mv) [(.long (p4 &&& (((1 : Int64) <<< (sv.toInt64 &&& 63)) - (1 : Int64))))])) _
    rw [hrv]
    refine XT.lstore X_1.here hx rfl (hb hby at_56) rfl (l' := (lc14 p1 p2 p3 p4 r sv mv rv)) rfl ?_
    refine XT.lload X_1.here hx rfl (hb hby at_58) rfl ?_
    refine XS.iload X_1.here hx rfl (hb hby at_60) rfl ?_
    show oS pP eE below T_1 (mkF mM 62 (lc14 p1 p2 p3 p4 r sv mv rv) [(.int sv), (.long mv)]) _
    refine XT.lshl X_1.here hx rfl (hb hby at_62) rfl ?_
    refine XT.lload X_1.here hx rfl (hb hby at_63) rfl ?_
    show oS pP eE below T_1 (mkF mM 65 (lc14 p1 p2 p3 p4 r sv mv rv) [(.long rv), (.long (mv <<< (sv.toInt64 &&& 63)))]) _
    refine XT.ladd X_1.here hx rfl (hb hby at_65) rfl ?_
    show Steps pP.tables eE below (T_1.setTop (mkF mM 66 (lc14 p1 p2 p3 p4 r sv mv rv) [(.long ((mv <<< (sv.toInt64 &&& 63)) + rv))])) _
    rw [hvv]
    refine XT.lstore X_1.here hx rfl (hb hby at_66) rfl (l' := (lc15 p1 p2 p3 p4 r sv mv rv vv)) rfl ?_
    refine XS.iload X_1.here hx rfl (hb hby at_68) rfl ?_
    refine XS.ifNo X_1.here hx rfl (hb hby at_70) rfl (by decide) ?_
    refine XT.lload X_1.here hx rfl (hb hby at_73) rfl ?_
    show oS pP eE below T_1 (mkF mM 75 (lc15 p1 p2 p3 p4 r sv mv rv vv) [(.long vv)]) _
    refine XS.l2dS X_1.here hx rfl (hb hby at_75) rfl rfl ?_
    show oS pP eE below T_1 (mkF mM 76 (lc15 p1 p2 p3 p4 r sv mv rv vv) [(.double (FP.l2d vv))]) _
    refine XS.dnegS X_1.here hx rfl (hb hby at_76) rfl rfl ?_
    refine XS.goto X_1.here hx rfl (pc0 := 77) (pc' := 83) rfl (hb hby at_77) (by decide) (by decide) ?_
    show oS pP eE below T_1 (mkF mM 83 (lc15 p1 p2 p3 p4 r sv mv rv vv) [(.double (FP.dneg (FP.l2d vv)))]) _
    refine XS.dstore X_1.here hx rfl (hb hby at_83) rfl (l' := (lc16 p1 p2 p3 p4 r sv mv rv vv)) rfl ?_
    refine XS.aload X_1.here hx rfl (hb hby at_85) rfl rfl ?_
    show oS pP eE below T_1 (mkF mM 87 (lc16 p1 p2 p3 p4 r sv mv rv vv) [(.ref r)]) _
    refine XS.dload X_1.here hx rfl (hb hby at_87) rfl ?_
    show oS pP eE below T_1 (mkF mM 89 (lc16 p1 p2 p3 p4 r sv mv rv vv) [(.double (FP.dneg (FP.l2d vv))), (.ref r)]) _
    refine st_2.trans ?_
    show oS pP eE below T_2 (mkF mM 92 (lc16 p1 p2 p3 p4 r sv mv rv vv) [(.double (FP.dneg (FP.l2d vv)))]) _
    refine XS.dstore X_2.here hx rfl (hb hby at_92) rfl (l' := (lc17 p1 p2 p3 p4 r sv mv rv vv)) rfl ?_
    refine XS.iload X_2.here hx rfl (hb hby at_94) rfl ?_
    refine XS.bipush X_2.here hx rfl (hb hby at_96) ?_
    refine XS.icmpNo X_2.here hx rfl (hb hby at_98) rfl (by decide) ?_
    show oS pP eE below T_2 (mkF mM 101 (lc17 p1 p2 p3 p4 r sv mv rv vv) []) _
    refine XS.dload X_2.here hx rfl (hb hby at_101) rfl ?_
    show oS pP eE below T_2 (mkF mM 103 (lc17 p1 p2 p3 p4 r sv mv rv vv) [(.double (FP.dneg (FP.l2d vv)))]) _
    refine XS.dload X_2.here hx rfl (hb hby at_103) rfl ?_
    show oS pP eE below T_2 (mkF mM 105 (lc17 p1 p2 p3 p4 r sv mv rv vv) [(.double (FP.dneg (FP.l2d vv))), (.double (FP.dneg (FP.l2d vv)))]) _
    refine XS.dcmpS X_2.here hx rfl (hb hby at_105) rfl rfl ?_
    refine XS.ifNo X_2.here hx rfl (hb hby at_106) rfl (XT.i0_ne_f (dcmpV_self hnn .l)) ?_
    refine XS.iconst X_2.here hx rfl (hb hby at_109) ?_
    refine XS.goto X_2.here hx rfl (pc0 := 110) (pc' := 114) rfl (hb hby at_110) (by decide) (by decide) ?_
    show oS pP eE below T_2 (mkF mM 114 (lc17 p1 p2 p3 p4 r sv mv rv vv) [(.int (1 : Int32))]) _
    exact retN X_2 hx (t := .boolean) Bd.returns (by simp) (hb hby at_114) hr
  · show Q_law01 Z p1 p2 p3 p4 sv mv rv vv r fl h0 n0 _ T_2.heap _
    exact ⟨rfl, N_2⟩
abbrev lc18 (p1 : Int32) (p2 : Int32) (p3 : Int32) (p4 : Int64) : Array Slot := #[.val (.int p1), .val (.int p2), .val (.int p3), .val (.long p4), .second, .val (.int (1 : Int32)), .unset, .unset, .unset, .unset, .unset, .unset, .unset, .unset, .unset, .unset, .unset, .unset, .unset, .unset, .unset, .unset, .unset, .unset, .unset]
abbrev lc19 (p1 : Int32) (p2 : Int32) (p3 : Int32) (p4 : Int64) : Array Slot := #[.val (.int p1), .val (.int p2), .val (.int p3), .val (.long p4), .second, .val (.int (1 : Int32)), .val (.int (0 : Int32)), .unset, .unset, .unset, .unset, .unset, .unset, .unset, .unset, .unset, .unset, .unset, .unset, .unset, .unset, .unset, .unset, .unset, .unset]
abbrev lc20 (p1 : Int32) (p2 : Int32) (p3 : Int32) (p4 : Int64) (r : Addr) : Array Slot := #[.val (.int p1), .val (.int p2), .val (.int p3), .val (.long p4), .second, .val (.int (1 : Int32)), .val (.int (0 : Int32)), .val (.ref r), .unset, .unset, .unset, .unset, .unset, .unset, .unset, .unset, .unset, .unset, .unset, .unset, .unset, .unset, .unset, .unset, .unset]
abbrev lc21 (p1 : Int32) (p2 : Int32) (p3 : Int32) (p4 : Int64) (r : Addr) (sv : Int32) : Array Slot := #[.val (.int p1), .val (.int p2), .val (.int p3), .val (.long p4), .second, .val (.int (1 : Int32)), .val (.int (0 : Int32)), .val (.ref r), .val (.int sv), .unset, .unset, .unset, .unset, .unset, .unset, .unset, .unset, .unset, .unset, .unset, .unset, .unset, .unset, .unset, .unset]
abbrev lc22 (p1 : Int32) (p2 : Int32) (p3 : Int32) (p4 : Int64) (r : Addr) (sv : Int32) (mv : Int64) : Array Slot := #[.val (.int p1), .val (.int p2), .val (.int p3), .val (.long p4), .second, .val (.int (1 : Int32)), .val (.int (0 : Int32)), .val (.ref r), .val (.int sv), .val (.long mv), .second, .unset, .unset, .unset, .unset, .unset, .unset, .unset, .unset, .unset, .unset, .unset, .unset, .unset, .unset]
abbrev lc23 (p1 : Int32) (p2 : Int32) (p3 : Int32) (p4 : Int64) (r : Addr) (sv : Int32) (mv : Int64) (rv : Int64) : Array Slot := #[.val (.int p1), .val (.int p2), .val (.int p3), .val (.long p4), .second, .val (.int (1 : Int32)), .val (.int (0 : Int32)), .val (.ref r), .val (.int sv), .val (.long mv), .second, .val (.long rv), .second, .unset, .unset, .unset, .unset, .unset, .unset, .unset, .unset, .unset, .unset, .unset, .unset]
abbrev lc24 (p1 : Int32) (p2 : Int32) (p3 : Int32) (p4 : Int64) (r : Addr) (sv : Int32) (mv : Int64) (rv : Int64) (vv : Int64) : Array Slot := #[.val (.int p1), .val (.int p2), .val (.int p3), .val (.long p4), .second, .val (.int (1 : Int32)), .val (.int (0 : Int32)), .val (.ref r), .val (.int sv), .val (.long mv), .second, .val (.long rv), .second, .val (.long vv), .second, .unset, .unset, .unset, .unset, .unset, .unset, .unset, .unset, .unset, .unset]
abbrev lc25 (p1 : Int32) (p2 : Int32) (p3 : Int32) (p4 : Int64) (r : Addr) (sv : Int32) (mv : Int64) (rv : Int64) (vv : Int64) : Array Slot := #[.val (.int p1), .val (.int p2), .val (.int p3), .val (.long p4), .second, .val (.int (1 : Int32)), .val (.int (0 : Int32)), .val (.ref r), .val (.int sv), .val (.long mv), .second, .val (.long rv), .second, .val (.long vv), .second, .val (.double (FP.l2d vv)), .second, .unset, .unset, .unset, .unset, .unset, .unset, .unset, .unset]
abbrev lc26 (p1 : Int32) (p2 : Int32) (p3 : Int32) (p4 : Int64) (r : Addr) (sv : Int32) (mv : Int64) (rv : Int64) (vv : Int64) : Array Slot := #[.val (.int p1), .val (.int p2), .val (.int p3), .val (.long p4), .second, .val (.int (1 : Int32)), .val (.int (0 : Int32)), .val (.ref r), .val (.int sv), .val (.long mv), .second, .val (.long rv), .second, .val (.long vv), .second, .val (.double (FP.l2d vv)), .second, .val (.double (FP.l2d vv)), .second, .unset, .unset, .unset, .unset, .unset, .unset]
theorem ef_law10 (mM : MethodId) (x0 : Int32) (x1 : Int32) (x2 : Int32) (x3 : Int64) : entryFrame mM #[(.int x0), (.int x1), (.int x2), (.long x3)] maxLocals = mkF mM 0 #[.val (.int x0), .val (.int x1), .val (.int x2), .val (.long x3), .second, .unset, .unset, .unset, .unset, .unset, .unset, .unset, .unset, .unset, .unset, .unset, .unset, .unset, .unset, .unset, .unset, .unset, .unset, .unset, .unset] [] := by first | (simp [entryFrame, mkF, argsToLocals, Value.category, maxLocals]; done) | rfl
def Q_law10 (Z : State) (p1 : Int32) (p2 : Int32) (p3 : Int32) (p4 : Int64) (sv : Int32) (mv : Int64) (rv : Int64) (vv : Int64) (r : Addr) (fl : Addr) (h0 : Heap) (n0 : Nat) (v_ : Option Value) (h_ : Heap) (L_ : List Loc) : Prop := v_ = some (.int (1 : Int32)) ∧ Fr n0 L_
set_option maxRecDepth 65536 in
set_option maxHeartbeats 40000000 in
theorem rm_law10 (l : Launch) (Z : State) (a0 : Array Value) (hw : ∀ d ∈ tables_1, d.before a0 Z = true) (ws : List Jvm.Cond) (p1 : Int32) (p2 : Int32) (p3 : Int32) (p4 : Int64) (sv : Int32) (mv : Int64) (rv : Int64) (vv : Int64) (r : Addr) (fl : Addr) (h0 : Heap) (n0 : Nat) (Z0 : n0 ≤ h0.size) (hk : (p1 &&& (7 : Int32)) = (1 : Int32)) (hg : ((p1 >>> ((3 : Int32) &&& 31)) &&& (1 : Int32)) = 0) (hsv : ((p3 &&& (31 : Int32)) % (30 : Int32)) = sv) (hmv : ((8388608 : Int64) + ((p2 &&& (8388607 : Int32)).toInt64)) = mv) (hrv : (p4 &&& (((1 : Int64) <<< (sv.toInt64 &&& 63)) - (1 : Int64))) = rv) (hvv : ((mv <<< (sv.toInt64 &&& 63)) + rv) = vv) (hnn : Jvm.Free.Fl.NoNaN64 (FP.l2d vv)) (S_SampleType_INT8 : Sta Z h0 "com/example/greenweft/greenweft/map/SampleType" "INT8" "Lcom/example/greenweft/greenweft/map/SampleType;" (.ref r)) (S_SampleType_FLOAT32 : Sta Z h0 "com/example/greenweft/greenweft/map/SampleType" "FLOAT32" "Lcom/example/greenweft/greenweft/map/SampleType;" (.ref fl)) (n1 : r ≠ fl) (E_r : Exa Z h0 r "com/example/greenweft/greenweft/map/SampleType") :
    MetFree l x (head1 (Jvm.Cond.code x code maxLocals ret :: ws) room_1) (fun aa_ U_ => aa_ = #[(.int p1), (.int p2), (.int p3), (.long p4)] ∧ Z.Warmed39 U_.vm ∧ U_.heap = h0) (fun _ _ _ _ _ => True) (fun _ U_ o_ U'_ => ∃ v_ L_, o_ = .returned v_ ∧ Q_law10 Z p1 p2 p3 p4 sv mv rv vv r fl h0 n0 v_ U'_.heap L_ ∧ FrameEnd U_ o_ U'_ L_ 0 0) := by
  refine MetFree.of_bodySF (plainFor_of_name pn_0) hisR ?_
  intro pP eE sS mM argsA below meth cC s₁ Bd hml0 hP hK
  obtain ⟨rfl, hZ, hh⟩ := hP
  have hx := Bd.exec
  have hby := Bd.bytes
  have hml : cC.maxLocals = 25 := hml0
  have hown : sS.vm.findClass "com/example/greenweft/greenweft/map/SampleTypeStoredPinLaw" = some mM.cls := findClass_of_methodNamed Bd.named
  have hnm := (name_of_methodNamed Bd.named Bd.method).1
  have X0 : Stand pP l eE room_1 sS mM #[(.int p1), (.int p2), (.int p3), (.long p4)] below meth cC s₁ [] 0 0 := Stand.of_body Bd
  have e0 : s₁.heap = h0 := by rw [← hh, Bd.state]; rfl
  have N0 := Fr.nil n0
  have pre0 : ∀ t_, Steps pP.tables eE below (s₁.setTop (mkF mM 0 #[.val (.int p1), .val (.int p2), .val (.int p3), .val (.long p4), .second, .unset, .unset, .unset, .unset, .unset, .unset, .unset, .unset, .unset, .unset, .unset, .unset, .unset, .unset, .unset, .unset, .unset, .unset, .unset, .unset] [])) t_ → Steps pP.tables eE below (s₁.setTop (entryFrame mM #[(.int p1), (.int p2), (.int p3), (.long p4)] maxLocals)) t_ := fun t_ k_ => castTop (ef_law10 mM p1 p2 p3 p4) k_
  obtain ⟨_, _, ⟨T_1, L_1, k_1, n_1⟩, -, X_1, ⟨Lc_1, hQ_1, l_1, y_1, z_1⟩, st_1⟩ := Jvm.LawKit.callS X0 hx (y := MN0) hown (mvT hZ (ow hw 0 rfl)) (mvT hZ (ow hw 1 rfl)) (mvT hZ (ow hw 2 rfl)) (mvT hZ (ow hw 3 rfl)) (by decide) (backOf (W := 0) (rm_pick1 l Z a0 hw [] r h0 n0 Z0 S_SampleType_INT8) hZ (ow hw 3 rfl) (ow hw 2 rfl) (by decide) (by decide)) (g := (mkF mM 23 (lc19 p1 p2 p3 p4) [(.int (1 : Int32))])) rfl (by rw [hml]; rfl) (argsL := [(.int (1 : Int32))]) (rest := []) (lenOf pd_0 rfl) rfl (by show 2 * 0 + _ ≤ _; exact Nat.le_of_eq rfl) (hb hby at_23) (fun _ _ => ⟨rfl, e0, (by decide : 0 + 0 ≤ _), (by decide : 0 + 0 ≤ _)⟩)
  dsimp only [Pt.U, Pt.locs, Pt.cells, Pt.slots] at X_1 l_1 y_1 z_1 st_1 hQ_1
  subst l_1 y_1 z_1
  obtain ⟨rfl, N_1q, eh_1⟩ := hQ_1
  have N_1 := Fr.app N0 N_1q
  obtain ⟨cq_2, kq_2, q_2a, q_2b, q_2c⟩ := isOf hZ eh_1 E_r
  obtain ⟨_, _, ⟨T_2, L_2, k_2, n_2⟩, -, X_2, ⟨Lc_2, hQ_2, l_2, y_2, z_2⟩, st_2⟩ := X_1.virtualBack hx (y := MN1) (z := MN1) hown (mvT hZ (ow hw 9 rfl)) (mvT hZ (ow hw 10 rfl)) (notFace_of_selects (args := #[]) (mvT hZ (ow hw 12 rfl))) (mvT hZ (ow hw 12 rfl)) (mvT hZ (ow hw 11 rfl)) (by decide) (backOf (W := 0) (rm_sto l Z a0 hw [] r fl (FP.l2d vv) h0 n0 Z0 S_SampleType_FLOAT32 n1) hZ (ow hw 13 rfl) (ow hw 5 rfl) (by decide) (by decide)) q_2a q_2c (g := (mkF mM 89 (lc25 p1 p2 p3 p4 r sv mv rv vv) [(.double (FP.l2d vv)), (.ref r)])) rfl (by rw [hml]; rfl) (Steps.refl _) (argsL := [(.double (FP.l2d vv))]) (rest := []) (lenOf pd_1 rfl) rfl (by show 2 * 0 + _ ≤ _; exact Nat.le_of_eq rfl) (hb hby at_89) (fun _ _ => ⟨rfl, eh_1, (by decide : 0 + 0 ≤ _), (by decide : 0 + 0 ≤ _)⟩)
  dsimp only [Pt.U, Pt.locs, Pt.cells, Pt.slots] at X_2 l_2 y_2 z_2 st_2 hQ_2
  subst l_2 y_2 z_2
  obtain ⟨rfl, N_2q, eh_2⟩ := hQ_2
  have N_2 := Fr.app N_1 N_2q
  obtain ⟨fs, hr, hrun, hended, hW, hsame⟩ := X_2.leave (v := some (.int (1 : Int32))) (fun h => by rw [Bd.returns] at h; cases h)
  refine ⟨_, _, pre0 _ ?_, hrun, hended, _, _, rfl, ?_, ⟨_, rfl⟩, hW, hsame.mono (by decide) (by decide)⟩
  · show oS pP eE below s₁ (mkF mM 0 (lc0 p1 p2 p3 p4) []) _
    refine XS.iloadN X0.here hx rfl (hb hby at_0) rfl ?_
    refine XS.bipush X0.here hx rfl (hb hby at_1) ?_
    show oS pP eE below s₁ (mkF mM 3 (lc0 p1 p2 p3 p4) [(.int (7 : Int32)), (.int p1)]) _
    refine XS.iand X0.here hx rfl (hb hby at_3) rfl ?_
    show Steps pP.tables eE below (s₁.setTop (mkF mM 4 (lc0 p1 p2 p3 p4) [(.int (p1 &&& (7 : Int32)))])) _
    rw [hk]
    refine XS.istore X0.here hx rfl (hb hby at_4) rfl (l' := (lc18 p1 p2 p3 p4)) rfl ?_
    refine XS.iloadN X0.here hx rfl (hb hby at_6) rfl ?_
    refine XS.iconst X0.here hx rfl (hb hby at_7) ?_
    show oS pP eE below s₁ (mkF mM 8 (lc18 p1 p2 p3 p4) [(.int (3 : Int32)), (.int p1)]) _
    refine XT.ishr X0.here hx rfl (hb hby at_8) rfl ?_
    refine XS.iconst X0.here hx rfl (hb hby at_9) ?_
    show oS pP eE below s₁ (mkF mM 10 (lc18 p1 p2 p3 p4) [(.int (1 : Int32)), (.int (p1 >>> ((3 : Int32) &&& 31)))]) _
    refine XS.iand X0.here hx rfl (hb hby at_10) rfl ?_
    refine XS.ifYes X0.here hx rfl (pc0 := 11) (pc' := 18) rfl (hb hby at_11) rfl (XT.i0_eq_t hg) (by decide) (by decide) ?_
    refine XS.iconst X0.here hx rfl (hb hby at_18) ?_
    refine XS.istore X0.here hx rfl (hb hby at_19) rfl (l' := (lc19 p1 p2 p3 p4)) rfl ?_
    refine XS.iload X0.here hx rfl (hb hby at_21) rfl ?_
    show oS pP eE below s₁ (mkF mM 23 (lc19 p1 p2 p3 p4) [(.int (1 : Int32))]) _
    refine st_1 _ ?_
    show oS pP eE below T_1 (mkF mM 26 (lc19 p1 p2 p3 p4) [(.ref r)]) _
    refine XS.astore X_1.here hx rfl (hb hby at_26) rfl rfl (l' := (lc20 p1 p2 p3 p4 r)) rfl ?_
    refine XS.iloadN X_1.here hx rfl (hb hby at_28) rfl ?_
    refine XS.bipush X_1.here hx rfl (hb hby at_29) ?_
    show oS pP eE below T_1 (mkF mM 31 (lc20 p1 p2 p3 p4 r) [(.int (31 : Int32)), (.int p3)]) _
    refine XS.iand X_1.here hx rfl (hb hby at_31) rfl ?_
    refine XS.bipush X_1.here hx rfl (hb hby at_32) ?_
    show oS pP eE below T_1 (mkF mM 34 (lc20 p1 p2 p3 p4 r) [(.int (30 : Int32)), (.int (p3 &&& (31 : Int32)))]) _
    refine iremM X_1 hx rfl (hb hby at_34) rfl (by decide) ?_
    show Steps pP.tables eE below (T_1.setTop (mkF mM 35 (lc20 p1 p2 p3 p4 r) [(.int ((p3 &&& (31 : Int32)) % (30 : Int32)))])) _
    rw [hsv]
    refine XS.istore X_1.here hx rfl (hb hby at_35) rfl (l' := (lc21 p1 p2 p3 p4 r sv)) rfl ?_
    show oS pP eE below T_1 (mkF mM 37 (lc21 p1 p2 p3 p4 r sv) []) _
    refine X_1.ldc2J hx hown (mvT hZ (ow hw 7 rfl)) (g := (mkF mM 37 (lc21 p1 p2 p3 p4 r sv) [])) rfl (hb hby at_37) ?_
    refine XS.iloadN X_1.here hx rfl (hb hby at_40) rfl ?_
    show oS pP eE below T_1 (mkF mM 41 (lc21 p1 p2 p3 p4 r sv) [(.int p2), (.long (8388608 : Int64))]) _
    refine X_1.ldcI hx hown (mvT hZ (ow hw 8 rfl)) (g := (mkF mM 41 (lc21 p1 p2 p3 p4 r sv) [(.int p2), (.long (8388608 : Int64))])) rfl (hb hby at_41) ?_
    show oS pP eE below T_1 (mkF mM 43 (lc21 p1 p2 p3 p4 r sv) [(.int (8388607 : Int32)), (.int p2), (.long (8388608 : Int64))]) _
    refine XS.iand X_1.here hx rfl (hb hby at_43) rfl ?_
    show oS pP eE below T_1 (mkF mM 44 (lc21 p1 p2 p3 p4 r sv) [(.int (p2 &&& (8388607 : Int32))), (.long (8388608 : Int64))]) _
    refine XT.i2l X_1.here hx rfl (hb hby at_44) rfl ?_
    show oS pP eE below T_1 (mkF mM 45 (lc21 p1 p2 p3 p4 r sv) [(.long ((p2 &&& (8388607 : Int32)).toInt64)), (.long (8388608 : Int64))]) _
    refine XT.ladd X_1.here hx rfl (hb hby at_45) rfl ?_
    show Steps pP.tables eE below (T_1.setTop (mkF mM 46 (lc21 p1 p2 p3 p4 r sv) [(.long ((8388608 : Int64) + ((p2 &&& (8388607 : Int32)).toInt64)))])) _
    rw [hmv]
    refine XT.lstore X_1.here hx rfl (hb hby at_46) rfl (l' := (lc22 p1 p2 p3 p4 r sv mv)) rfl ?_
    refine XT.lloadN X_1.here hx rfl (hb hby at_48) rfl ?_
    refine XT.lconst X_1.here hx rfl (hb hby at_49) ?_
    refine XS.iload X_1.here hx rfl (hb hby at_50) rfl ?_
    show oS pP eE below T_1 (mkF mM 52 (lc22 p1 p2 p3 p4 r sv mv) [(.int sv), (.long (1 : Int64)), (.long p4)]) _
    refine XT.lshl X_1.here hx rfl (hb hby at_52) rfl ?_
    refine XT.lconst X_1.here hx rfl (hb hby at_53) ?_
    show oS pP eE below T_1 (mkF mM 54 (lc22 p1 p2 p3 p4 r sv mv) [(.long (1 : Int64)), (.long ((1 : Int64) <<< (sv.toInt64 &&& 63))), (.long p4)]) _
    refine XT.lsub X_1.here hx rfl (hb hby at_54) rfl ?_
    show oS pP eE below T_1 (mkF mM 55 (lc22 p1 p2 p3 p4 r sv mv) [(.long (((1 : Int64) <<< (sv.toInt64 &&& 63)) - (1 : Int64))), (.long p4)]) _
    refine XT.land X_1.here hx rfl (hb hby at_55) rfl ?_
    show Steps pP.tables eE below (T_1.setTop (mkF mM 56 (lc22 p1 p2 p3 p4 r sv mv) [(.long (p4 &&& (((1 : Int64) <<< (sv.toInt64 &&& 63)) - (1 : Int64))))])) _
    rw [hrv]
    refine XT.lstore X_1.here hx rfl (hb hby at_56) rfl (l' := (lc23 p1 p2 p3 p4 r sv mv rv)) rfl ?_
    refine XT.lload X_1.here hx rfl (hb hby at_58) rfl ?_
    refine XS.iload X_1.here hx rfl (hb hby at_60) rfl ?_
    show oS pP eE below T_1 (mkF mM 62 (lc23 p1 p2 p3 p4 r sv mv rv) [(.int sv), (.long mv)]) _
    refine XT.lshl X_1.here hx rfl (hb hby at_62) rfl ?_
    refine XT.lload X_1.here hx rfl (hb hby at_63) rfl ?_
    show oS pP eE below T_1 (mkF mM 65 (lc23 p1 p2 p3 p4 r sv mv rv) [(.long rv), (.long (mv <<< (sv.toInt64 &&& 63)))]) _
    refine XT.ladd X_1.here hx rfl (hb hby at_65) rfl ?_
    show Steps pP.tables eE below (T_1.setTop (mkF mM 66 (lc23 p1 p2 p3 p4 r sv mv rv) [(.long ((mv <<< (sv.toInt64 &&& 63)) + rv))])) _
    rw [hvv]
    refine XT.lstore X_1.here hx rfl (hb hby at_66) rfl (l' := (lc24 p1 p2 p3 p4 r sv mv rv vv)) rfl ?_
    refine XS.iload X_1.here hx rfl (hb hby at_68) rfl ?_
    refine XS.ifYes X_1.here hx rfl (pc0 := 70) (pc' := 80) rfl (hb hby at_70) rfl (by decide) (by decide) (by decide) ?_
    refine XT.lload X_1.here hx rfl (hb hby at_80) rfl ?_
    show oS pP eE below T_1 (mkF mM 82 (lc24 p1 p2 p3 p4 r sv mv rv vv) [(.long vv)]) _
    refine XS.l2dS X_1.here hx rfl (hb hby at_82) rfl rfl ?_
    show oS pP eE below T_1 (mkF mM 83 (lc24 p1 p2 p3 p4 r sv mv rv vv) [(.double (FP.l2d vv))]) _
    refine XS.dstore X_1.here hx rfl (hb hby at_83) rfl (l' := (lc25 p1 p2 p3 p4 r sv mv rv vv)) rfl ?_
    refine XS.aload X_1.here hx rfl (hb hby at_85) rfl rfl ?_
    show oS pP eE below T_1 (mkF mM 87 (lc25 p1 p2 p3 p4 r sv mv rv vv) [(.ref r)]) _
    refine XS.dload X_1.here hx rfl (hb hby at_87) rfl ?_
    show oS pP eE below T_1 (mkF mM 89 (lc25 p1 p2 p3 p4 r sv mv rv vv) [(.double (FP.l2d vv)), (.ref r)]) _
    refine st_2.trans ?_
    show oS pP eE below T_2 (mkF mM 92 (lc25 p1 p2 p3 p4 r sv mv rv vv) [(.double (FP.l2d vv))]) _
    refine XS.dstore X_2.here hx rfl (hb hby at_92) rfl (l' := (lc26 p1 p2 p3 p4 r sv mv rv vv)) rfl ?_
    refine XS.iload X_2.here hx rfl (hb hby at_94) rfl ?_
    refine XS.bipush X_2.here hx rfl (hb hby at_96) ?_
    refine XS.icmpNo X_2.here hx rfl (hb hby at_98) rfl (by decide) ?_
    show oS pP eE below T_2 (mkF mM 101 (lc26 p1 p2 p3 p4 r sv mv rv vv) []) _
    refine XS.dload X_2.here hx rfl (hb hby at_101) rfl ?_
    show oS pP eE below T_2 (mkF mM 103 (lc26 p1 p2 p3 p4 r sv mv rv vv) [(.double (FP.l2d vv))]) _
    refine XS.dload X_2.here hx rfl (hb hby at_103) rfl ?_
    show oS pP eE below T_2 (mkF mM 105 (lc26 p1 p2 p3 p4 r sv mv rv vv) [(.double (FP.l2d vv)), (.double (FP.l2d vv))]) _
    refine XS.dcmpS X_2.here hx rfl (hb hby at_105) rfl rfl ?_
    refine XS.ifNo X_2.here hx rfl (hb hby at_106) rfl (XT.i0_ne_f (dcmpV_self hnn .l)) ?_
    refine XS.iconst X_2.here hx rfl (hb hby at_109) ?_
    refine XS.goto X_2.here hx rfl (pc0 := 110) (pc' := 114) rfl (hb hby at_110) (by decide) (by decide) ?_
    show oS pP eE below T_2 (mkF mM 114 (lc26 p1 p2 p3 p4 r sv mv rv vv) [(.int (1 : Int32))]) _
    exact retN X_2 hx (t := .boolean) Bd.returns (by simp) (hb hby at_114) hr
  · show Q_law10 Z p1 p2 p3 p4 sv mv rv vv r fl h0 n0 _ T_2.heap _
    exact ⟨rfl, N_2⟩
abbrev lc27 (p1 : Int32) (p2 : Int32) (p3 : Int32) (p4 : Int64) : Array Slot := #[.val (.int p1), .val (.int p2), .val (.int p3), .val (.long p4), .second, .val (.int (1 : Int32)), .val (.int (1 : Int32)), .unset, .unset, .unset, .unset, .unset, .unset, .unset, .unset, .unset, .unset, .unset, .unset, .unset, .unset, .unset, .unset, .unset, .unset]
abbrev lc28 (p1 : Int32) (p2 : Int32) (p3 : Int32) (p4 : Int64) (r : Addr) : Array Slot := #[.val (.int p1), .val (.int p2), .val (.int p3), .val (.long p4), .second, .val (.int (1 : Int32)), .val (.int (1 : Int32)), .val (.ref r), .unset, .unset, .unset, .unset, .unset, .unset, .unset, .unset, .unset, .unset, .unset, .unset, .unset, .unset, .unset, .unset, .unset]
abbrev lc29 (p1 : Int32) (p2 : Int32) (p3 : Int32) (p4 : Int64) (r : Addr) (sv : Int32) : Array Slot := #[.val (.int p1), .val (.int p2), .val (.int p3), .val (.long p4), .second, .val (.int (1 : Int32)), .val (.int (1 : Int32)), .val (.ref r), .val (.int sv), .unset, .unset, .unset, .unset, .unset, .unset, .unset, .unset, .unset, .unset, .unset, .unset, .unset, .unset, .unset, .unset]
abbrev lc30 (p1 : Int32) (p2 : Int32) (p3 : Int32) (p4 : Int64) (r : Addr) (sv : Int32) (mv : Int64) : Array Slot := #[.val (.int p1), .val (.int p2), .val (.int p3), .val (.long p4), .second, .val (.int (1 : Int32)), .val (.int (1 : Int32)), .val (.ref r), .val (.int sv), .val (.long mv), .second, .unset, .unset, .unset, .unset, .unset, .unset, .unset, .unset, .unset, .unset, .unset, .unset, .unset, .unset]
abbrev lc31 (p1 : Int32) (p2 : Int32) (p3 : Int32) (p4 : Int64) (r : Addr) (sv : Int32) (mv : Int64) (rv : Int64) : Array Slot := #[.val (.int p1), .val (.int p2), .val (.int p3), .val (.long p4), .second, .val (.int (1 : Int32)), .val (.int (1 : Int32)), .val (.ref r), .val (.int sv), .val (.long mv), .second, .val (.long rv), .second, .unset, .unset, .unset, .unset, .unset, .unset, .unset, .unset, .unset, .unset, .unset, .unset]
abbrev lc32 (p1 : Int32) (p2 : Int32) (p3 : Int32) (p4 : Int64) (r : Addr) (sv : Int32) (mv : Int64) (rv : Int64) (vv : Int64) : Array Slot := #[.val (.int p1), .val (.int p2), .val (.int p3), .val (.long p4), .second, .val (.int (1 : Int32)), .val (.int (1 : Int32)), .val (.ref r), .val (.int sv), .val (.long mv), .second, .val (.long rv), .second, .val (.long vv), .second, .unset, .unset, .unset, .unset, .unset, .unset, .unset, .unset, .unset, .unset]
abbrev lc33 (p1 : Int32) (p2 : Int32) (p3 : Int32) (p4 : Int64) (r : Addr) (sv : Int32) (mv : Int64) (rv : Int64) (vv : Int64) : Array Slot := #[.val (.int p1), .val (.int p2), .val (.int p3), .val (.long p4), .second, .val (.int (1 : Int32)), .val (.int (1 : Int32)), .val (.ref r), .val (.int sv), .val (.long mv), .second, .val (.long rv), .second, .val (.long vv), .second, .val (.double (FP.dneg (FP.l2d vv))), .second, .unset, .unset, .unset, .unset, .unset, .unset, .unset, .unset]
abbrev lc34 (p1 : Int32) (p2 : Int32) (p3 : Int32) (p4 : Int64) (r : Addr) (sv : Int32) (mv : Int64) (rv : Int64) (vv : Int64) : Array Slot := #[.val (.int p1), .val (.int p2), .val (.int p3), .val (.long p4), .second, .val (.int (1 : Int32)), .val (.int (1 : Int32)), .val (.ref r), .val (.int sv), .val (.long mv), .second, .val (.long rv), .second, .val (.long vv), .second, .val (.double (FP.dneg (FP.l2d vv))), .second, .val (.double (FP.dneg (FP.l2d vv))), .second, .unset, .unset, .unset, .unset, .unset, .unset]
theorem ef_law11 (mM : MethodId) (x0 : Int32) (x1 : Int32) (x2 : Int32) (x3 : Int64) : entryFrame mM #[(.int x0), (.int x1), (.int x2), (.long x3)] maxLocals = mkF mM 0 #[.val (.int x0), .val (.int x1), .val (.int x2), .val (.long x3), .second, .unset, .unset, .unset, .unset, .unset, .unset, .unset, .unset, .unset, .unset, .unset, .unset, .unset, .unset, .unset, .unset, .unset, .unset, .unset, .unset] [] := by first | (simp [entryFrame, mkF, argsToLocals, Value.category, maxLocals]; done) | rfl
def Q_law11 (Z : State) (p1 : Int32) (p2 : Int32) (p3 : Int32) (p4 : Int64) (sv : Int32) (mv : Int64) (rv : Int64) (vv : Int64) (r : Addr) (fl : Addr) (h0 : Heap) (n0 : Nat) (v_ : Option Value) (h_ : Heap) (L_ : List Loc) : Prop := v_ = some (.int (1 : Int32)) ∧ Fr n0 L_
set_option maxRecDepth 65536 in
set_option maxHeartbeats 40000000 in
theorem rm_law11 (l : Launch) (Z : State) (a0 : Array Value) (hw : ∀ d ∈ tables_1, d.before a0 Z = true) (ws : List Jvm.Cond) (p1 : Int32) (p2 : Int32) (p3 : Int32) (p4 : Int64) (sv : Int32) (mv : Int64) (rv : Int64) (vv : Int64) (r : Addr) (fl : Addr) (h0 : Heap) (n0 : Nat) (Z0 : n0 ≤ h0.size) (hk : (p1 &&& (7 : Int32)) = (1 : Int32)) (hg : ¬ ((p1 >>> ((3 : Int32) &&& 31)) &&& (1 : Int32)) = 0) (hsv : ((p3 &&& (31 : Int32)) % (30 : Int32)) = sv) (hmv : ((8388608 : Int64) + ((p2 &&& (8388607 : Int32)).toInt64)) = mv) (hrv : (p4 &&& (((1 : Int64) <<< (sv.toInt64 &&& 63)) - (1 : Int64))) = rv) (hvv : ((mv <<< (sv.toInt64 &&& 63)) + rv) = vv) (hnn : Jvm.Free.Fl.NoNaN64 (FP.dneg (FP.l2d vv))) (S_SampleType_INT8 : Sta Z h0 "com/example/greenweft/greenweft/map/SampleType" "INT8" "Lcom/example/greenweft/greenweft/map/SampleType;" (.ref r)) (S_SampleType_FLOAT32 : Sta Z h0 "com/example/greenweft/greenweft/map/SampleType" "FLOAT32" "Lcom/example/greenweft/greenweft/map/SampleType;" (.ref fl)) (n1 : r ≠ fl) (E_r : Exa Z h0 r "com/example/greenweft/greenweft/map/SampleType") :
    MetFree l x (head1 (Jvm.Cond.code x code maxLocals ret :: ws) room_1) (fun aa_ U_ => aa_ = #[(.int p1), (.int p2), (.int p3), (.long p4)] ∧ Z.Warmed39 U_.vm ∧ U_.heap = h0) (fun _ _ _ _ _ => True) (fun _ U_ o_ U'_ => ∃ v_ L_, o_ = .returned v_ ∧ Q_law11 Z p1 p2 p3 p4 sv mv rv vv r fl h0 n0 v_ U'_.heap L_ ∧ FrameEnd U_ o_ U'_ L_ 0 0) := by
  refine MetFree.of_bodySF (plainFor_of_name pn_0) hisR ?_
  intro pP eE sS mM argsA below meth cC s₁ Bd hml0 hP hK
  obtain ⟨rfl, hZ, hh⟩ := hP
  have hx := Bd.exec
  have hby := Bd.bytes
  have hml : cC.maxLocals = 25 := hml0
  have hown : sS.vm.findClass "com/example/greenweft/greenweft/map/SampleTypeStoredPinLaw" = some mM.cls := findClass_of_methodNamed Bd.named
  have hnm := (name_of_methodNamed Bd.named Bd.method).1
  have X0 : Stand pP l eE room_1 sS mM #[(.int p1), (.int p2), (.int p3), (.long p4)] below meth cC s₁ [] 0 0 := Stand.of_body Bd
  have e0 : s₁.heap = h0 := by rw [← hh, Bd.state]; rfl
  have N0 := Fr.nil n0
  have pre0 : ∀ t_, Steps pP.tables eE below (s₁.setTop (mkF mM 0 #[.val (.int p1), .val (.int p2), .val (.int p3), .val (.long p4), .second, .unset, .unset, .unset, .unset, .unset, .unset, .unset, .unset, .unset, .unset, .unset, .unset, .unset, .unset, .unset, .unset, .unset, .unset, .unset, .unset] [])) t_ → Steps pP.tables eE below (s₁.setTop (entryFrame mM #[(.int p1), (.int p2), (.int p3), (.long p4)] maxLocals)) t_ := fun t_ k_ => castTop (ef_law11 mM p1 p2 p3 p4) k_
  obtain ⟨_, _, ⟨T_1, L_1, k_1, n_1⟩, -, X_1, ⟨Lc_1, hQ_1, l_1, y_1, z_1⟩, st_1⟩ := Jvm.LawKit.callS X0 hx (y := MN0) hown (mvT hZ (ow hw 0 rfl)) (mvT hZ (ow hw 1 rfl)) (mvT hZ (ow hw 2 rfl)) (mvT hZ (ow hw 3 rfl)) (by decide) (backOf (W := 0) (rm_pick1 l Z a0 hw [] r h0 n0 Z0 S_SampleType_INT8) hZ (ow hw 3 rfl) (ow hw 2 rfl) (by decide) (by decide)) (g := (mkF mM 23 (lc27 p1 p2 p3 p4) [(.int (1 : Int32))])) rfl (by rw [hml]; rfl) (argsL := [(.int (1 : Int32))]) (rest := []) (lenOf pd_0 rfl) rfl (by show 2 * 0 + _ ≤ _; exact Nat.le_of_eq rfl) (hb hby at_23) (fun _ _ => ⟨rfl, e0, (by decide : 0 + 0 ≤ _), (by decide : 0 + 0 ≤ _)⟩)
  dsimp only [Pt.U, Pt.locs, Pt.cells, Pt.slots] at X_1 l_1 y_1 z_1 st_1 hQ_1
  subst l_1 y_1 z_1
  obtain ⟨rfl, N_1q, eh_1⟩ := hQ_1
  have N_1 := Fr.app N0 N_1q
  obtain ⟨cq_2, kq_2, q_2a, q_2b, q_2c⟩ := isOf hZ eh_1 E_r
  obtain ⟨_, _, ⟨T_2, L_2, k_2, n_2⟩, -, X_2, ⟨Lc_2, hQ_2, l_2, y_2, z_2⟩, st_2⟩ := X_1.virtualBack hx (y := MN1) (z := MN1) hown (mvT hZ (ow hw 9 rfl)) (mvT hZ (ow hw 10 rfl)) (notFace_of_selects (args := #[]) (mvT hZ (ow hw 12 rfl))) (mvT hZ (ow hw 12 rfl)) (mvT hZ (ow hw 11 rfl)) (by decide) (backOf (W := 0) (rm_sto l Z a0 hw [] r fl (FP.dneg (FP.l2d vv)) h0 n0 Z0 S_SampleType_FLOAT32 n1) hZ (ow hw 13 rfl) (ow hw 5 rfl) (by decide) (by decide)) q_2a q_2c (g := (mkF mM 89 (lc33 p1 p2 p3 p4 r sv mv rv vv) [(.double (FP.dneg (FP.l2d vv))), (.ref r)])) rfl (by rw [hml]; rfl) (Steps.refl _) (argsL := [(.double (FP.dneg (FP.l2d vv)))]) (rest := []) (lenOf pd_1 rfl) rfl (by show 2 * 0 + _ ≤ _; exact Nat.le_of_eq rfl) (hb hby at_89) (fun _ _ => ⟨rfl, eh_1, (by decide : 0 + 0 ≤ _), (by decide : 0 + 0 ≤ _)⟩)
  dsimp only [Pt.U, Pt.locs, Pt.cells, Pt.slots] at X_2 l_2 y_2 z_2 st_2 hQ_2
  subst l_2 y_2 z_2
  obtain ⟨rfl, N_2q, eh_2⟩ := hQ_2
  have N_2 := Fr.app N_1 N_2q
  obtain ⟨fs, hr, hrun, hended, hW, hsame⟩ := X_2.leave (v := some (.int (1 : Int32))) (fun h => by rw [Bd.returns] at h; cases h)
  refine ⟨_, _, pre0 _ ?_, hrun, hended, _, _, rfl, ?_, ⟨_, rfl⟩, hW, hsame.mono (by decide) (by decide)⟩
  · show oS pP eE below s₁ (mkF mM 0 (lc0 p1 p2 p3 p4) []) _
    refine XS.iloadN X0.here hx rfl (hb hby at_0) rfl ?_
    refine XS.bipush X0.here hx rfl (hb hby at_1) ?_
    show oS pP eE below s₁ (mkF mM 3 (lc0 p1 p2 p3 p4) [(.int (7 : Int32)), (.int p1)]) _
    refine XS.iand X0.here hx rfl (hb hby at_3) rfl ?_
    show Steps pP.tables eE below (s₁.setTop (mkF mM 4 (lc0 p1 p2 p3 p4) [(.int (p1 &&& (7 : Int32)))])) _
    rw [hk]
    refine XS.istore X0.here hx rfl (hb hby at_4) rfl (l' := (lc18 p1 p2 p3 p4)) rfl ?_
    refine XS.iloadN X0.here hx rfl (hb hby at_6) rfl ?_
    refine XS.iconst X0.here hx rfl (hb hby at_7) ?_
    show oS pP eE below s₁ (mkF mM 8 (lc18 p1 p2 p3 p4) [(.int (3 : Int32)), (.int p1)]) _
    refine XT.ishr X0.here hx rfl (hb hby at_8) rfl ?_
    refine XS.iconst X0.here hx rfl (hb hby at_9) ?_
    show oS pP eE below s₁ (mkF mM 10 (lc18 p1 p2 p3 p4) [(.int (1 : Int32)), (.int (p1 >>> ((3 : Int32) &&& 31)))]) _
    refine XS.iand X0.here hx rfl (hb hby at_10) rfl ?_
    refine XS.ifNo X0.here hx rfl (hb hby at_11) rfl (XT.i0_eq_f hg) ?_
    refine XS.iconst X0.here hx rfl (hb hby at_14) ?_
    refine XS.goto X0.here hx rfl (pc0 := 15) (pc' := 19) rfl (hb hby at_15) (by decide) (by decide) ?_
    refine XS.istore X0.here hx rfl (hb hby at_19) rfl (l' := (lc27 p1 p2 p3 p4)) rfl ?_
    refine XS.iload X0.here hx rfl (hb hby at_21) rfl ?_
    show oS pP eE below s₁ (mkF mM 23 (lc27 p1 p2 p3 p4) [(.int (1 : Int32))]) _
    refine st_1 _ ?_
    show oS pP eE below T_1 (mkF mM 26 (lc27 p1 p2 p3 p4) [(.ref r)]) _
    refine XS.astore X_1.here hx rfl (hb hby at_26) rfl rfl (l' := (lc28 p1 p2 p3 p4 r)) rfl ?_
    refine XS.iloadN X_1.here hx rfl (hb hby at_28) rfl ?_
    refine XS.bipush X_1.here hx rfl (hb hby at_29) ?_
    show oS pP eE below T_1 (mkF mM 31 (lc28 p1 p2 p3 p4 r) [(.int (31 : Int32)), (.int p3)]) _
    refine XS.iand X_1.here hx rfl (hb hby at_31) rfl ?_
    refine XS.bipush X_1.here hx rfl (hb hby at_32) ?_
    show oS pP eE below T_1 (mkF mM 34 (lc28 p1 p2 p3 p4 r) [(.int (30 : Int32)), (.int (p3 &&& (31 : Int32)))]) _
    refine iremM X_1 hx rfl (hb hby at_34) rfl (by decide) ?_
    show Steps pP.tables eE below (T_1.setTop (mkF mM 35 (lc28 p1 p2 p3 p4 r) [(.int ((p3 &&& (31 : Int32)) % (30 : Int32)))])) _
    rw [hsv]
    refine XS.istore X_1.here hx rfl (hb hby at_35) rfl (l' := (lc29 p1 p2 p3 p4 r sv)) rfl ?_
    show oS pP eE below T_1 (mkF mM 37 (lc29 p1 p2 p3 p4 r sv) []) _
    refine X_1.ldc2J hx hown (mvT hZ (ow hw 7 rfl)) (g := (mkF mM 37 (lc29 p1 p2 p3 p4 r sv) [])) rfl (hb hby at_37) ?_
    refine XS.iloadN X_1.here hx rfl (hb hby at_40) rfl ?_
    show oS pP eE below T_1 (mkF mM 41 (lc29 p1 p2 p3 p4 r sv) [(.int p2), (.long (8388608 : Int64))]) _
    refine X_1.ldcI hx hown (mvT hZ (ow hw 8 rfl)) (g := (mkF mM 41 (lc29 p1 p2 p3 p4 r sv) [(.int p2), (.long (8388608 : Int64))])) rfl (hb hby at_41) ?_
    show oS pP eE below T_1 (mkF mM 43 (lc29 p1 p2 p3 p4 r sv) [(.int (8388607 : Int32)), (.int p2), (.long (8388608 : Int64))]) _
    refine XS.iand X_1.here hx rfl (hb hby at_43) rfl ?_
    show oS pP eE below T_1 (mkF mM 44 (lc29 p1 p2 p3 p4 r sv) [(.int (p2 &&& (8388607 : Int32))), (.long (8388608 : Int64))]) _
    refine XT.i2l X_1.here hx rfl (hb hby at_44) rfl ?_
    show oS pP eE below T_1 (mkF mM 45 (lc29 p1 p2 p3 p4 r sv) [(.long ((p2 &&& (8388607 : Int32)).toInt64)), (.long (8388608 : Int64))]) _
    refine XT.ladd X_1.here hx rfl (hb hby at_45) rfl ?_
    show Steps pP.tables eE below (T_1.setTop (mkF mM 46 (lc29 p1 p2 p3 p4 r sv) [(.long ((8388608 : Int64) + ((p2 &&& (8388607 : Int32)).toInt64)))])) _
    rw [hmv]
    refine XT.lstore X_1.here hx rfl (hb hby at_46) rfl (l' := (lc30 p1 p2 p3 p4 r sv mv)) rfl ?_
    refine XT.lloadN X_1.here hx rfl (hb hby at_48) rfl ?_
    refine XT.lconst X_1.here hx rfl (hb hby at_49) ?_
    refine XS.iload X_1.here hx rfl (hb hby at_50) rfl ?_
    show oS pP eE below T_1 (mkF mM 52 (lc30 p1 p2 p3 p4 r sv mv) [(.int sv), (.long (1 : Int64)), (.long p4)]) _
    refine XT.lshl X_1.here hx rfl (hb hby at_52) rfl ?_
    refine XT.lconst X_1.here hx rfl (hb hby at_53) ?_
    show oS pP eE below T_1 (mkF mM 54 (lc30 p1 p2 p3 p4 r sv mv) [(.long (1 : Int64)), (.long ((1 : Int64) <<< (sv.toInt64 &&& 63))), (.long p4)]) _
    refine XT.lsub X_1.here hx rfl (hb hby at_54) rfl ?_
    show oS pP eE below T_1 (mkF mM 55 (lc30 p1 p2 p3 p4 r sv mv) [(.long (((1 : Int64) <<< (sv.toInt64 &&& 63)) - (1 : Int64))), (.long p4)]) _
    refine XT.land X_1.here hx rfl (hb hby at_55) rfl ?_
    show Steps pP.tables eE below (T_1.setTop (mkF mM 56 (lc30 p1 p2 p3 p4 r sv mv) [(.long (p4 &&& (((1 : Int64) <<< (sv.toInt64 &&& 63)) - (1 : Int64))))])) _
    rw [hrv]
    refine XT.lstore X_1.here hx rfl (hb hby at_56) rfl (l' := (lc31 p1 p2 p3 p4 r sv mv rv)) rfl ?_
    refine XT.lload X_1.here hx rfl (hb hby at_58) rfl ?_
    refine XS.iload X_1.here hx rfl (hb hby at_60) rfl ?_
    show oS pP eE below T_1 (mkF mM 62 (lc31 p1 p2 p3 p4 r sv mv rv) [(.int sv), (.long mv)]) _
    refine XT.lshl X_1.here hx rfl (hb hby at_62) rfl ?_
    refine XT.lload X_1.here hx rfl (hb hby at_63) rfl ?_
    show oS pP eE below T_1 (mkF mM 65 (lc31 p1 p2 p3 p4 r sv mv rv) [(.long rv), (.long (mv <<< (sv.toInt64 &&& 63)))]) _
    refine XT.ladd X_1.here hx rfl (hb hby at_65) rfl ?_
    show Steps pP.tables eE below (T_1.setTop (mkF mM 66 (lc31 p1 p2 p3 p4 r sv mv rv) [(.long ((mv <<< (sv.toInt64 &&& 63)) + rv))])) _
    rw [hvv]
    refine XT.lstore X_1.here hx rfl (hb hby at_66) rfl (l' := (lc32 p1 p2 p3 p4 r sv mv rv vv)) rfl ?_
    refine XS.iload X_1.here hx rfl (hb hby at_68) rfl ?_
    refine XS.ifNo X_1.here hx rfl (hb hby at_70) rfl (by decide) ?_
    refine XT.lload X_1.here hx rfl (hb hby at_73) rfl ?_
    show oS pP eE below T_1 (mkF mM 75 (lc32 p1 p2 p3 p4 r sv mv rv vv) [(.long vv)]) _
    refine XS.l2dS X_1.here hx rfl (hb hby at_75) rfl rfl ?_
    show oS pP eE below T_1 (mkF mM 76 (lc32 p1 p2 p3 p4 r sv mv rv vv) [(.double (FP.l2d vv))]) _
    refine XS.dnegS X_1.here hx rfl (hb hby at_76) rfl rfl ?_
    refine XS.goto X_1.here hx rfl (pc0 := 77) (pc' := 83) rfl (hb hby at_77) (by decide) (by decide) ?_
    show oS pP eE below T_1 (mkF mM 83 (lc32 p1 p2 p3 p4 r sv mv rv vv) [(.double (FP.dneg (FP.l2d vv)))]) _
    refine XS.dstore X_1.here hx rfl (hb hby at_83) rfl (l' := (lc33 p1 p2 p3 p4 r sv mv rv vv)) rfl ?_
    refine XS.aload X_1.here hx rfl (hb hby at_85) rfl rfl ?_
    show oS pP eE below T_1 (mkF mM 87 (lc33 p1 p2 p3 p4 r sv mv rv vv) [(.ref r)]) _
    refine XS.dload X_1.here hx rfl (hb hby at_87) rfl ?_
    show oS pP eE below T_1 (mkF mM 89 (lc33 p1 p2 p3 p4 r sv mv rv vv) [(.double (FP.dneg (FP.l2d vv))), (.ref r)]) _
    refine st_2.trans ?_
    show oS pP eE below T_2 (mkF mM 92 (lc33 p1 p2 p3 p4 r sv mv rv vv) [(.double (FP.dneg (FP.l2d vv)))]) _
    refine XS.dstore X_2.here hx rfl (hb hby at_92) rfl (l' := (lc34 p1 p2 p3 p4 r sv mv rv vv)) rfl ?_
    refine XS.iload X_2.here hx rfl (hb hby at_94) rfl ?_
    refine XS.bipush X_2.here hx rfl (hb hby at_96) ?_
    refine XS.icmpNo X_2.here hx rfl (hb hby at_98) rfl (by decide) ?_
    show oS pP eE below T_2 (mkF mM 101 (lc34 p1 p2 p3 p4 r sv mv rv vv) []) _
    refine XS.dload X_2.here hx rfl (hb hby at_101) rfl ?_
    show oS pP eE below T_2 (mkF mM 103 (lc34 p1 p2 p3 p4 r sv mv rv vv) [(.double (FP.dneg (FP.l2d vv)))]) _
    refine XS.dload X_2.here hx rfl (hb hby at_103) rfl ?_
    show oS pP eE below T_2 (mkF mM 105 (lc34 p1 p2 p3 p4 r sv mv rv vv) [(.double (FP.dneg (FP.l2d vv))), (.double (FP.dneg (FP.l2d vv)))]) _
    refine XS.dcmpS X_2.here hx rfl (hb hby at_105) rfl rfl ?_
    refine XS.ifNo X_2.here hx rfl (hb hby at_106) rfl (XT.i0_ne_f (dcmpV_self hnn .l)) ?_
    refine XS.iconst X_2.here hx rfl (hb hby at_109) ?_
    refine XS.goto X_2.here hx rfl (pc0 := 110) (pc' := 114) rfl (hb hby at_110) (by decide) (by decide) ?_
    show oS pP eE below T_2 (mkF mM 114 (lc34 p1 p2 p3 p4 r sv mv rv vv) [(.int (1 : Int32))]) _
    exact retN X_2 hx (t := .boolean) Bd.returns (by simp) (hb hby at_114) hr
  · show Q_law11 Z p1 p2 p3 p4 sv mv rv vv r fl h0 n0 _ T_2.heap _
    exact ⟨rfl, N_2⟩
abbrev lc35 (p1 : Int32) (p2 : Int32) (p3 : Int32) (p4 : Int64) : Array Slot := #[.val (.int p1), .val (.int p2), .val (.int p3), .val (.long p4), .second, .val (.int (2 : Int32)), .unset, .unset, .unset, .unset, .unset, .unset, .unset, .unset, .unset, .unset, .unset, .unset, .unset, .unset, .unset, .unset, .unset, .unset, .unset]
abbrev lc36 (p1 : Int32) (p2 : Int32) (p3 : Int32) (p4 : Int64) : Array Slot := #[.val (.int p1), .val (.int p2), .val (.int p3), .val (.long p4), .second, .val (.int (2 : Int32)), .val (.int (0 : Int32)), .unset, .unset, .unset, .unset, .unset, .unset, .unset, .unset, .unset, .unset, .unset, .unset, .unset, .unset, .unset, .unset, .unset, .unset]
abbrev lc37 (p1 : Int32) (p2 : Int32) (p3 : Int32) (p4 : Int64) (r : Addr) : Array Slot := #[.val (.int p1), .val (.int p2), .val (.int p3), .val (.long p4), .second, .val (.int (2 : Int32)), .val (.int (0 : Int32)), .val (.ref r), .unset, .unset, .unset, .unset, .unset, .unset, .unset, .unset, .unset, .unset, .unset, .unset, .unset, .unset, .unset, .unset, .unset]
abbrev lc38 (p1 : Int32) (p2 : Int32) (p3 : Int32) (p4 : Int64) (r : Addr) (sv : Int32) : Array Slot := #[.val (.int p1), .val (.int p2), .val (.int p3), .val (.long p4), .second, .val (.int (2 : Int32)), .val (.int (0 : Int32)), .val (.ref r), .val (.int sv), .unset, .unset, .unset, .unset, .unset, .unset, .unset, .unset, .unset, .unset, .unset, .unset, .unset, .unset, .unset, .unset]
abbrev lc39 (p1 : Int32) (p2 : Int32) (p3 : Int32) (p4 : Int64) (r : Addr) (sv : Int32) (mv : Int64) : Array Slot := #[.val (.int p1), .val (.int p2), .val (.int p3), .val (.long p4), .second, .val (.int (2 : Int32)), .val (.int (0 : Int32)), .val (.ref r), .val (.int sv), .val (.long mv), .second, .unset, .unset, .unset, .unset, .unset, .unset, .unset, .unset, .unset, .unset, .unset, .unset, .unset, .unset]
abbrev lc40 (p1 : Int32) (p2 : Int32) (p3 : Int32) (p4 : Int64) (r : Addr) (sv : Int32) (mv : Int64) (rv : Int64) : Array Slot := #[.val (.int p1), .val (.int p2), .val (.int p3), .val (.long p4), .second, .val (.int (2 : Int32)), .val (.int (0 : Int32)), .val (.ref r), .val (.int sv), .val (.long mv), .second, .val (.long rv), .second, .unset, .unset, .unset, .unset, .unset, .unset, .unset, .unset, .unset, .unset, .unset, .unset]
abbrev lc41 (p1 : Int32) (p2 : Int32) (p3 : Int32) (p4 : Int64) (r : Addr) (sv : Int32) (mv : Int64) (rv : Int64) (vv : Int64) : Array Slot := #[.val (.int p1), .val (.int p2), .val (.int p3), .val (.long p4), .second, .val (.int (2 : Int32)), .val (.int (0 : Int32)), .val (.ref r), .val (.int sv), .val (.long mv), .second, .val (.long rv), .second, .val (.long vv), .second, .unset, .unset, .unset, .unset, .unset, .unset, .unset, .unset, .unset, .unset]
abbrev lc42 (p1 : Int32) (p2 : Int32) (p3 : Int32) (p4 : Int64) (r : Addr) (sv : Int32) (mv : Int64) (rv : Int64) (vv : Int64) : Array Slot := #[.val (.int p1), .val (.int p2), .val (.int p3), .val (.long p4), .second, .val (.int (2 : Int32)), .val (.int (0 : Int32)), .val (.ref r), .val (.int sv), .val (.long mv), .second, .val (.long rv), .second, .val (.long vv), .second, .val (.double (FP.l2d vv)), .second, .unset, .unset, .unset, .unset, .unset, .unset, .unset, .unset]
abbrev lc43 (p1 : Int32) (p2 : Int32) (p3 : Int32) (p4 : Int64) (r : Addr) (sv : Int32) (mv : Int64) (rv : Int64) (vv : Int64) : Array Slot := #[.val (.int p1), .val (.int p2), .val (.int p3), .val (.long p4), .second, .val (.int (2 : Int32)), .val (.int (0 : Int32)), .val (.ref r), .val (.int sv), .val (.long mv), .second, .val (.long rv), .second, .val (.long vv), .second, .val (.double (FP.l2d vv)), .second, .val (.double (FP.l2d vv)), .second, .unset, .unset, .unset, .unset, .unset, .unset]
theorem ef_law20 (mM : MethodId) (x0 : Int32) (x1 : Int32) (x2 : Int32) (x3 : Int64) : entryFrame mM #[(.int x0), (.int x1), (.int x2), (.long x3)] maxLocals = mkF mM 0 #[.val (.int x0), .val (.int x1), .val (.int x2), .val (.long x3), .second, .unset, .unset, .unset, .unset, .unset, .unset, .unset, .unset, .unset, .unset, .unset, .unset, .unset, .unset, .unset, .unset, .unset, .unset, .unset, .unset] [] := by first | (simp [entryFrame, mkF, argsToLocals, Value.category, maxLocals]; done) | rfl
def Q_law20 (Z : State) (p1 : Int32) (p2 : Int32) (p3 : Int32) (p4 : Int64) (sv : Int32) (mv : Int64) (rv : Int64) (vv : Int64) (r : Addr) (fl : Addr) (h0 : Heap) (n0 : Nat) (v_ : Option Value) (h_ : Heap) (L_ : List Loc) : Prop := v_ = some (.int (1 : Int32)) ∧ Fr n0 L_
set_option maxRecDepth 65536 in
set_option maxHeartbeats 40000000 in
theorem rm_law20 (l : Launch) (Z : State) (a0 : Array Value) (hw : ∀ d ∈ tables_1, d.before a0 Z = true) (ws : List Jvm.Cond) (p1 : Int32) (p2 : Int32) (p3 : Int32) (p4 : Int64) (sv : Int32) (mv : Int64) (rv : Int64) (vv : Int64) (r : Addr) (fl : Addr) (h0 : Heap) (n0 : Nat) (Z0 : n0 ≤ h0.size) (hk : (p1 &&& (7 : Int32)) = (2 : Int32)) (hg : ((p1 >>> ((3 : Int32) &&& 31)) &&& (1 : Int32)) = 0) (hsv : ((p3 &&& (31 : Int32)) % (30 : Int32)) = sv) (hmv : ((8388608 : Int64) + ((p2 &&& (8388607 : Int32)).toInt64)) = mv) (hrv : (p4 &&& (((1 : Int64) <<< (sv.toInt64 &&& 63)) - (1 : Int64))) = rv) (hvv : ((mv <<< (sv.toInt64 &&& 63)) + rv) = vv) (hnn : Jvm.Free.Fl.NoNaN64 (FP.l2d vv)) (S_SampleType_UINT16 : Sta Z h0 "com/example/greenweft/greenweft/map/SampleType" "UINT16" "Lcom/example/greenweft/greenweft/map/SampleType;" (.ref r)) (S_SampleType_FLOAT32 : Sta Z h0 "com/example/greenweft/greenweft/map/SampleType" "FLOAT32" "Lcom/example/greenweft/greenweft/map/SampleType;" (.ref fl)) (n1 : r ≠ fl) (E_r : Exa Z h0 r "com/example/greenweft/greenweft/map/SampleType") :
    MetFree l x (head1 (Jvm.Cond.code x code maxLocals ret :: ws) room_1) (fun aa_ U_ => aa_ = #[(.int p1), (.int p2), (.int p3), (.long p4)] ∧ Z.Warmed39 U_.vm ∧ U_.heap = h0) (fun _ _ _ _ _ => True) (fun _ U_ o_ U'_ => ∃ v_ L_, o_ = .returned v_ ∧ Q_law20 Z p1 p2 p3 p4 sv mv rv vv r fl h0 n0 v_ U'_.heap L_ ∧ FrameEnd U_ o_ U'_ L_ 0 0) := by
  refine MetFree.of_bodySF (plainFor_of_name pn_0) hisR ?_
  intro pP eE sS mM argsA below meth cC s₁ Bd hml0 hP hK
  obtain ⟨rfl, hZ, hh⟩ := hP
  have hx := Bd.exec
  have hby := Bd.bytes
  have hml : cC.maxLocals = 25 := hml0
  have hown : sS.vm.findClass "com/example/greenweft/greenweft/map/SampleTypeStoredPinLaw" = some mM.cls := findClass_of_methodNamed Bd.named
  have hnm := (name_of_methodNamed Bd.named Bd.method).1
  have X0 : Stand pP l eE room_1 sS mM #[(.int p1), (.int p2), (.int p3), (.long p4)] below meth cC s₁ [] 0 0 := Stand.of_body Bd
  have e0 : s₁.heap = h0 := by rw [← hh, Bd.state]; rfl
  have N0 := Fr.nil n0
  have pre0 : ∀ t_, Steps pP.tables eE below (s₁.setTop (mkF mM 0 #[.val (.int p1), .val (.int p2), .val (.int p3), .val (.long p4), .second, .unset, .unset, .unset, .unset, .unset, .unset, .unset, .unset, .unset, .unset, .unset, .unset, .unset, .unset, .unset, .unset, .unset, .unset, .unset, .unset] [])) t_ → Steps pP.tables eE below (s₁.setTop (entryFrame mM #[(.int p1), (.int p2), (.int p3), (.long p4)] maxLocals)) t_ := fun t_ k_ => castTop (ef_law20 mM p1 p2 p3 p4) k_
  obtain ⟨_, _, ⟨T_1, L_1, k_1, n_1⟩, -, X_1, ⟨Lc_1, hQ_1, l_1, y_1, z_1⟩, st_1⟩ := Jvm.LawKit.callS X0 hx (y := MN0) hown (mvT hZ (ow hw 0 rfl)) (mvT hZ (ow hw 1 rfl)) (mvT hZ (ow hw 2 rfl)) (mvT hZ (ow hw 3 rfl)) (by decide) (backOf (W := 0) (rm_pick2 l Z a0 hw [] r h0 n0 Z0 S_SampleType_UINT16) hZ (ow hw 3 rfl) (ow hw 2 rfl) (by decide) (by decide)) (g := (mkF mM 23 (lc36 p1 p2 p3 p4) [(.int (2 : Int32))])) rfl (by rw [hml]; rfl) (argsL := [(.int (2 : Int32))]) (rest := []) (lenOf pd_0 rfl) rfl (by show 2 * 0 + _ ≤ _; exact Nat.le_of_eq rfl) (hb hby at_23) (fun _ _ => ⟨rfl, e0, (by decide : 0 + 0 ≤ _), (by decide : 0 + 0 ≤ _)⟩)
  dsimp only [Pt.U, Pt.locs, Pt.cells, Pt.slots] at X_1 l_1 y_1 z_1 st_1 hQ_1
  subst l_1 y_1 z_1
  obtain ⟨rfl, N_1q, eh_1⟩ := hQ_1
  have N_1 := Fr.app N0 N_1q
  obtain ⟨cq_2, kq_2, q_2a, q_2b, q_2c⟩ := isOf hZ eh_1 E_r
  obtain ⟨_, _, ⟨T_2, L_2, k_2, n_2⟩, -, X_2, ⟨Lc_2, hQ_2, l_2, y_2, z_2⟩, st_2⟩ := X_1.virtualBack hx (y := MN1) (z := MN1) hown (mvT hZ (ow hw 9 rfl)) (mvT hZ (ow hw 10 rfl)) (notFace_of_selects (args := #[]) (mvT hZ (ow hw 12 rfl))) (mvT hZ (ow hw 12 rfl)) (mvT hZ (ow hw 11 rfl)) (by decide) (backOf (W := 0) (rm_sto l Z a0 hw [] r fl (FP.l2d vv) h0 n0 Z0 S_SampleType_FLOAT32 n1) hZ (ow hw 13 rfl) (ow hw 5 rfl) (by decide) (by decide)) q_2a q_2c (g := (mkF mM 89 (lc42 p1 p2 p3 p4 r sv mv rv vv) [(.double (FP.l2d vv)), (.ref r)])) rfl (by rw [hml]; rfl) (Steps.refl _) (argsL := [(.double (FP.l2d vv))]) (rest := []) (lenOf pd_1 rfl) rfl (by show 2 * 0 + _ ≤ _; exact Nat.le_of_eq rfl) (hb hby at_89) (fun _ _ => ⟨rfl, eh_1, (by decide : 0 + 0 ≤ _), (by decide : 0 + 0 ≤ _)⟩)
  dsimp only [Pt.U, Pt.locs, Pt.cells, Pt.slots] at X_2 l_2 y_2 z_2 st_2 hQ_2
  subst l_2 y_2 z_2
  obtain ⟨rfl, N_2q, eh_2⟩ := hQ_2
  have N_2 := Fr.app N_1 N_2q
  obtain ⟨fs, hr, hrun, hended, hW, hsame⟩ := X_2.leave (v := some (.int (1 : Int32))) (fun h => by rw [Bd.returns] at h; cases h)
  refine ⟨_, _, pre0 _ ?_, hrun, hended, _, _, rfl, ?_, ⟨_, rfl⟩, hW, hsame.mono (by decide) (by decide)⟩
  · show oS pP eE below s₁ (mkF mM 0 (lc0 p1 p2 p3 p4) []) _
    refine XS.iloadN X0.here hx rfl (hb hby at_0) rfl ?_
    refine XS.bipush X0.here hx rfl (hb hby at_1) ?_
    show oS pP eE below s₁ (mkF mM 3 (lc0 p1 p2 p3 p4) [(.int (7 : Int32)), (.int p1)]) _
    refine XS.iand X0.here hx rfl (hb hby at_3) rfl ?_
    show Steps pP.tables eE below (s₁.setTop (mkF mM 4 (lc0 p1 p2 p3 p4) [(.int (p1 &&& (7 : Int32)))])) _
    rw [hk]
    refine XS.istore X0.here hx rfl (hb hby at_4) rfl (l' := (lc35 p1 p2 p3 p4)) rfl ?_
    refine XS.iloadN X0.here hx rfl (hb hby at_6) rfl ?_
    refine XS.iconst X0.here hx rfl (hb hby at_7) ?_
    show oS pP eE below s₁ (mkF mM 8 (lc35 p1 p2 p3 p4) [(.int (3 : Int32)), (.int p1)]) _
    refine XT.ishr X0.here hx rfl (hb hby at_8) rfl ?_
    refine XS.iconst X0.here hx rfl (hb hby at_9) ?_
    show oS pP eE below s₁ (mkF mM 10 (lc35 p1 p2 p3 p4) [(.int (1 : Int32)), (.int (p1 >>> ((3 : Int32) &&& 31)))]) _
    refine XS.iand X0.here hx rfl (hb hby at_10) rfl ?_
    refine XS.ifYes X0.here hx rfl (pc0 := 11) (pc' := 18) rfl (hb hby at_11) rfl (XT.i0_eq_t hg) (by decide) (by decide) ?_
    refine XS.iconst X0.here hx rfl (hb hby at_18) ?_
    refine XS.istore X0.here hx rfl (hb hby at_19) rfl (l' := (lc36 p1 p2 p3 p4)) rfl ?_
    refine XS.iload X0.here hx rfl (hb hby at_21) rfl ?_
    show oS pP eE below s₁ (mkF mM 23 (lc36 p1 p2 p3 p4) [(.int (2 : Int32))]) _
    refine st_1 _ ?_
    show oS pP eE below T_1 (mkF mM 26 (lc36 p1 p2 p3 p4) [(.ref r)]) _
    refine XS.astore X_1.here hx rfl (hb hby at_26) rfl rfl (l' := (lc37 p1 p2 p3 p4 r)) rfl ?_
    refine XS.iloadN X_1.here hx rfl (hb hby at_28) rfl ?_
    refine XS.bipush X_1.here hx rfl (hb hby at_29) ?_
    show oS pP eE below T_1 (mkF mM 31 (lc37 p1 p2 p3 p4 r) [(.int (31 : Int32)), (.int p3)]) _
    refine XS.iand X_1.here hx rfl (hb hby at_31) rfl ?_
    refine XS.bipush X_1.here hx rfl (hb hby at_32) ?_
    show oS pP eE below T_1 (mkF mM 34 (lc37 p1 p2 p3 p4 r) [(.int (30 : Int32)), (.int (p3 &&& (31 : Int32)))]) _
    refine iremM X_1 hx rfl (hb hby at_34) rfl (by decide) ?_
    show Steps pP.tables eE below (T_1.setTop (mkF mM 35 (lc37 p1 p2 p3 p4 r) [(.int ((p3 &&& (31 : Int32)) % (30 : Int32)))])) _
    rw [hsv]
    refine XS.istore X_1.here hx rfl (hb hby at_35) rfl (l' := (lc38 p1 p2 p3 p4 r sv)) rfl ?_
    show oS pP eE below T_1 (mkF mM 37 (lc38 p1 p2 p3 p4 r sv) []) _
    refine X_1.ldc2J hx hown (mvT hZ (ow hw 7 rfl)) (g := (mkF mM 37 (lc38 p1 p2 p3 p4 r sv) [])) rfl (hb hby at_37) ?_
    refine XS.iloadN X_1.here hx rfl (hb hby at_40) rfl ?_
    show oS pP eE below T_1 (mkF mM 41 (lc38 p1 p2 p3 p4 r sv) [(.int p2), (.long (8388608 : Int64))]) _
    refine X_1.ldcI hx hown (mvT hZ (ow hw 8 rfl)) (g := (mkF mM 41 (lc38 p1 p2 p3 p4 r sv) [(.int p2), (.long (8388608 : Int64))])) rfl (hb hby at_41) ?_
    show oS pP eE below T_1 (mkF mM 43 (lc38 p1 p2 p3 p4 r sv) [(.int (8388607 : Int32)), (.int p2), (.long (8388608 : Int64))]) _
    refine XS.iand X_1.here hx rfl (hb hby at_43) rfl ?_
    show oS pP eE below T_1 (mkF mM 44 (lc38 p1 p2 p3 p4 r sv) [(.int (p2 &&& (8388607 : Int32))), (.long (8388608 : Int64))]) _
    refine XT.i2l X_1.here hx rfl (hb hby at_44) rfl ?_
    show oS pP eE below T_1 (mkF mM 45 (lc38 p1 p2 p3 p4 r sv) [(.long ((p2 &&& (8388607 : Int32)).toInt64)), (.long (8388608 : Int64))]) _
    refine XT.ladd X_1.here hx rfl (hb hby at_45) rfl ?_
    show Steps pP.tables eE below (T_1.setTop (mkF mM 46 (lc38 p1 p2 p3 p4 r sv) [(.long ((8388608 : Int64) + ((p2 &&& (8388607 : Int32)).toInt64)))])) _
    rw [hmv]
    refine XT.lstore X_1.here hx rfl (hb hby at_46) rfl (l' := (lc39 p1 p2 p3 p4 r sv mv)) rfl ?_
    refine XT.lloadN X_1.here hx rfl (hb hby at_48) rfl ?_
    refine XT.lconst X_1.here hx rfl (hb hby at_49) ?_
    refine XS.iload X_1.here hx rfl (hb hby at_50) rfl ?_
    show oS pP eE below T_1 (mkF mM 52 (lc39 p1 p2 p3 p4 r sv mv) [(.int sv), (.long (1 : Int64)), (.long p4)]) _
    refine XT.lshl X_1.here hx rfl (hb hby at_52) rfl ?_
    refine XT.lconst X_1.here hx rfl (hb hby at_53) ?_
    show oS pP eE below T_1 (mkF mM 54 (lc39 p1 p2 p3 p4 r sv mv) [(.long (1 : Int64)), (.long ((1 : Int64) <<< (sv.toInt64 &&& 63))), (.long p4)]) _
    refine XT.lsub X_1.here hx rfl (hb hby at_54) rfl ?_
    show oS pP eE below T_1 (mkF mM 55 (lc39 p1 p2 p3 p4 r sv mv) [(.long (((1 : Int64) <<< (sv.toInt64 &&& 63)) - (1 : Int64))), (.long p4)]) _
    refine XT.land X_1.here hx rfl (hb hby at_55) rfl ?_
    show Steps pP.tables eE below (T_1.setTop (mkF mM 56 (lc39 p1 p2 p3 p4 r sv mv) [(.long (p4 &&& (((1 : Int64) <<< (sv.toInt64 &&& 63)) - (1 : Int64))))])) _
    rw [hrv]
    refine XT.lstore X_1.here hx rfl (hb hby at_56) rfl (l' := (lc40 p1 p2 p3 p4 r sv mv rv)) rfl ?_
    refine XT.lload X_1.here hx rfl (hb hby at_58) rfl ?_
    refine XS.iload X_1.here hx rfl (hb hby at_60) rfl ?_
    show oS pP eE below T_1 (mkF mM 62 (lc40 p1 p2 p3 p4 r sv mv rv) [(.int sv), (.long mv)]) _
    refine XT.lshl X_1.here hx rfl (hb hby at_62) rfl ?_
    refine XT.lload X_1.here hx rfl (hb hby at_63) rfl ?_
    show oS pP eE below T_1 (mkF mM 65 (lc40 p1 p2 p3 p4 r sv mv rv) [(.long rv), (.long (mv <<< (sv.toInt64 &&& 63)))]) _
    refine XT.ladd X_1.here hx rfl (hb hby at_65) rfl ?_
    show Steps pP.tables eE below (T_1.setTop (mkF mM 66 (lc40 p1 p2 p3 p4 r sv mv rv) [(.long ((mv <<< (sv.toInt64 &&& 63)) + rv))])) _
    rw [hvv]
    refine XT.lstore X_1.here hx rfl (hb hby at_66) rfl (l' := (lc41 p1 p2 p3 p4 r sv mv rv vv)) rfl ?_
    refine XS.iload X_1.here hx rfl (hb hby at_68) rfl ?_
    refine XS.ifYes X_1.here hx rfl (pc0 := 70) (pc' := 80) rfl (hb hby at_70) rfl (by decide) (by decide) (by decide) ?_
    refine XT.lload X_1.here hx rfl (hb hby at_80) rfl ?_
    show oS pP eE below T_1 (mkF mM 82 (lc41 p1 p2 p3 p4 r sv mv rv vv) [(.long vv)]) _
    refine XS.l2dS X_1.here hx rfl (hb hby at_82) rfl rfl ?_
    show oS pP eE below T_1 (mkF mM 83 (lc41 p1 p2 p3 p4 r sv mv rv vv) [(.double (FP.l2d vv))]) _
    refine XS.dstore X_1.here hx rfl (hb hby at_83) rfl (l' := (lc42 p1 p2 p3 p4 r sv mv rv vv)) rfl ?_
    refine XS.aload X_1.here hx rfl (hb hby at_85) rfl rfl ?_
    show oS pP eE below T_1 (mkF mM 87 (lc42 p1 p2 p3 p4 r sv mv rv vv) [(.ref r)]) _
    refine XS.dload X_1.here hx rfl (hb hby at_87) rfl ?_
    show oS pP eE below T_1 (mkF mM 89 (lc42 p1 p2 p3 p4 r sv mv rv vv) [(.double (FP.l2d vv)), (.ref r)]) _
    refine st_2.trans ?_
    show oS pP eE below T_2 (mkF mM 92 (lc42 p1 p2 p3 p4 r sv mv rv vv) [(.double (FP.l2d vv))]) _
    refine XS.dstore X_2.here hx rfl (hb hby at_92) rfl (l' := (lc43 p1 p2 p3 p4 r sv mv rv vv)) rfl ?_
    refine XS.iload X_2.here hx rfl (hb hby at_94) rfl ?_
    refine XS.bipush X_2.here hx rfl (hb hby at_96) ?_
    refine XS.icmpNo X_2.here hx rfl (hb hby at_98) rfl (by decide) ?_
    show oS pP eE below T_2 (mkF mM 101 (lc43 p1 p2 p3 p4 r sv mv rv vv) []) _
    refine XS.dload X_2.here hx rfl (hb hby at_101) rfl ?_
    show oS pP eE below T_2 (mkF mM 103 (lc43 p1 p2 p3 p4 r sv mv rv vv) [(.double (FP.l2d vv))]) _
    refine XS.dload X_2.here hx rfl (hb hby at_103) rfl ?_
    show oS pP eE below T_2 (mkF mM 105 (lc43 p1 p2 p3 p4 r sv mv rv vv) [(.double (FP.l2d vv)), (.double (FP.l2d vv))]) _
    refine XS.dcmpS X_2.here hx rfl (hb hby at_105) rfl rfl ?_
    refine XS.ifNo X_2.here hx rfl (hb hby at_106) rfl (XT.i0_ne_f (dcmpV_self hnn .l)) ?_
    refine XS.iconst X_2.here hx rfl (hb hby at_109) ?_
    refine XS.goto X_2.here hx rfl (pc0 := 110) (pc' := 114) rfl (hb hby at_110) (by decide) (by decide) ?_
    show oS pP eE below T_2 (mkF mM 114 (lc43 p1 p2 p3 p4 r sv mv rv vv) [(.int (1 : Int32))]) _
    exact retN X_2 hx (t := .boolean) Bd.returns (by simp) (hb hby at_114) hr
  · show Q_law20 Z p1 p2 p3 p4 sv mv rv vv r fl h0 n0 _ T_2.heap _
    exact ⟨rfl, N_2⟩
abbrev lc44 (p1 : Int32) (p2 : Int32) (p3 : Int32) (p4 : Int64) : Array Slot := #[.val (.int p1), .val (.int p2), .val (.int p3), .val (.long p4), .second, .val (.int (2 : Int32)), .val (.int (1 : Int32)), .unset, .unset, .unset, .unset, .unset, .unset, .unset, .unset, .unset, .unset, .unset, .unset, .unset, .unset, .unset, .unset, .unset, .unset]
abbrev lc45 (p1 : Int32) (p2 : Int32) (p3 : Int32) (p4 : Int64) (r : Addr) : Array Slot := #[.val (.int p1), .val (.int p2), .val (.int p3), .val (.long p4), .second, .val (.int (2 : Int32)), .val (.int (1 : Int32)), .val (.ref r), .unset, .unset, .unset, .unset, .unset, .unset, .unset, .unset, .unset, .unset, .unset, .unset, .unset, .unset, .unset, .unset, .unset]
abbrev lc46 (p1 : Int32) (p2 : Int32) (p3 : Int32) (p4 : Int64) (r : Addr) (sv : Int32) : Array Slot := #[.val (.int p1), .val (.int p2), .val (.int p3), .val (.long p4), .second, .val (.int (2 : Int32)), .val (.int (1 : Int32)), .val (.ref r), .val (.int sv), .unset, .unset, .unset, .unset, .unset, .unset, .unset, .unset, .unset, .unset, .unset, .unset, .unset, .unset, .unset, .unset]
abbrev lc47 (p1 : Int32) (p2 : Int32) (p3 : Int32) (p4 : Int64) (r : Addr) (sv : Int32) (mv : Int64) : Array Slot := #[.val (.int p1), .val (.int p2), .val (.int p3), .val (.long p4), .second, .val (.int (2 : Int32)), .val (.int (1 : Int32)), .val (.ref r), .val (.int sv), .val (.long mv), .second, .unset, .unset, .unset, .unset, .unset, .unset, .unset, .unset, .unset, .unset, .unset, .unset, .unset, .unset]
abbrev lc48 (p1 : Int32) (p2 : Int32) (p3 : Int32) (p4 : Int64) (r : Addr) (sv : Int32) (mv : Int64) (rv : Int64) : Array Slot := #[.val (.int p1), .val (.int p2), .val (.int p3), .val (.long p4), .second, .val (.int (2 : Int32)), .val (.int (1 : Int32)), .val (.ref r), .val (.int sv), .val (.long mv), .second, .val (.long rv), .second, .unset, .unset, .unset, .unset, .unset, .unset, .unset, .unset, .unset, .unset, .unset, .unset]
abbrev lc49 (p1 : Int32) (p2 : Int32) (p3 : Int32) (p4 : Int64) (r : Addr) (sv : Int32) (mv : Int64) (rv : Int64) (vv : Int64) : Array Slot := #[.val (.int p1), .val (.int p2), .val (.int p3), .val (.long p4), .second, .val (.int (2 : Int32)), .val (.int (1 : Int32)), .val (.ref r), .val (.int sv), .val (.long mv), .second, .val (.long rv), .second, .val (.long vv), .second, .unset, .unset, .unset, .unset, .unset, .unset, .unset, .unset, .unset, .unset]
abbrev lc50 (p1 : Int32) (p2 : Int32) (p3 : Int32) (p4 : Int64) (r : Addr) (sv : Int32) (mv : Int64) (rv : Int64) (vv : Int64) : Array Slot := #[.val (.int p1), .val (.int p2), .val (.int p3), .val (.long p4), .second, .val (.int (2 : Int32)), .val (.int (1 : Int32)), .val (.ref r), .val (.int sv), .val (.long mv), .second, .val (.long rv), .second, .val (.long vv), .second, .val (.double (FP.dneg (FP.l2d vv))), .second, .unset, .unset, .unset, .unset, .unset, .unset, .unset, .unset]
abbrev lc51 (p1 : Int32) (p2 : Int32) (p3 : Int32) (p4 : Int64) (r : Addr) (sv : Int32) (mv : Int64) (rv : Int64) (vv : Int64) : Array Slot := #[.val (.int p1), .val (.int p2), .val (.int p3), .val (.long p4), .second, .val (.int (2 : Int32)), .val (.int (1 : Int32)), .val (.ref r), .val (.int sv), .val (.long mv), .second, .val (.long rv), .second, .val (.long vv), .second, .val (.double (FP.dneg (FP.l2d vv))), .second, .val (.double (FP.dneg (FP.l2d vv))), .second, .unset, .unset, .unset, .unset, .unset, .unset]
theorem ef_law21 (mM : MethodId) (x0 : Int32) (x1 : Int32) (x2 : Int32) (x3 : Int64) : entryFrame mM #[(.int x0), (.int x1), (.int x2), (.long x3)] maxLocals = mkF mM 0 #[.val (.int x0), .val (.int x1), .val (.int x2), .val (.long x3), .second, .unset, .unset, .unset, .unset, .unset, .unset, .unset, .unset, .unset, .unset, .unset, .unset, .unset, .unset, .unset, .unset, .unset, .unset, .unset, .unset] [] := by first | (simp [entryFrame, mkF, argsToLocals, Value.category, maxLocals]; done) | rfl
def Q_law21 (Z : State) (p1 : Int32) (p2 : Int32) (p3 : Int32) (p4 : Int64) (sv : Int32) (mv : Int64) (rv : Int64) (vv : Int64) (r : Addr) (fl : Addr) (h0 : Heap) (n0 : Nat) (v_ : Option Value) (h_ : Heap) (L_ : List Loc) : Prop := v_ = some (.int (1 : Int32)) ∧ Fr n0 L_
set_option maxRecDepth 65536 in
set_option maxHeartbeats 40000000 in
theorem rm_law21 (l : Launch) (Z : State) (a0 : Array Value) (hw : ∀ d ∈ tables_1, d.before a0 Z = true) (ws : List Jvm.Cond) (p1 : Int32) (p2 : Int32) (p3 : Int32) (p4 : Int64) (sv : Int32) (mv : Int64) (rv : Int64) (vv : Int64) (r : Addr) (fl : Addr) (h0 : Heap) (n0 : Nat) (Z0 : n0 ≤ h0.size) (hk : (p1 &&& (7 : Int32)) = (2 : Int32)) (hg : ¬ ((p1 >>> ((3 : Int32) &&& 31)) &&& (1 : Int32)) = 0) (hsv : ((p3 &&& (31 : Int32)) % (30 : Int32)) = sv) (hmv : ((8388608 : Int64) + ((p2 &&& (8388607 : Int32)).toInt64)) = mv) (hrv : (p4 &&& (((1 : Int64) <<< (sv.toInt64 &&& 63)) - (1 : Int64))) = rv) (hvv : ((mv <<< (sv.toInt64 &&& 63)) + rv) = vv) (hnn : Jvm.Free.Fl.NoNaN64 (FP.dneg (FP.l2d vv))) (S_SampleType_UINT16 : Sta Z h0 "com/example/greenweft/greenweft/map/SampleType" "UINT16" "Lcom/example/greenweft/greenweft/map/SampleType;" (.ref r)) (S_SampleType_FLOAT32 : Sta Z h0 "com/example/greenweft/greenweft/map/SampleType" "FLOAT32" "Lcom/example/greenweft/greenweft/map/SampleType;" (.ref fl)) (n1 : r ≠ fl) (E_r : Exa Z h0 r "com/example/greenweft/greenweft/map/SampleType") :
    MetFree l x (head1 (Jvm.Cond.code x code maxLocals ret :: ws) room_1) (fun aa_ U_ => aa_ = #[(.int p1), (.int p2), (.int p3), (.long p4)] ∧ Z.Warmed39 U_.vm ∧ U_.heap = h0) (fun _ _ _ _ _ => True) (fun _ U_ o_ U'_ => ∃ v_ L_, o_ = .returned v_ ∧ Q_law21 Z p1 p2 p3 p4 sv mv rv vv r fl h0 n0 v_ U'_.heap L_ ∧ FrameEnd U_ o_ U'_ L_ 0 0) := by
  refine MetFree.of_bodySF (plainFor_of_name pn_0) hisR ?_
  intro pP eE sS mM argsA below meth cC s₁ Bd hml0 hP hK
  obtain ⟨rfl, hZ, hh⟩ := hP
  have hx := Bd.exec
  have hby := Bd.bytes
  have hml : cC.maxLocals = 25 := hml0
  have hown : sS.vm.findClass "com/example/greenweft/greenweft/map/SampleTypeStoredPinLaw" = some mM.cls := findClass_of_methodNamed Bd.named
  have hnm := (name_of_methodNamed Bd.named Bd.method).1
  have X0 : Stand pP l eE room_1 sS mM #[(.int p1), (.int p2), (.int p3), (.long p4)] below meth cC s₁ [] 0 0 := Stand.of_body Bd
  have e0 : s₁.heap = h0 := by rw [← hh, Bd.state]; rfl
  have N0 := Fr.nil n0
  have pre0 : ∀ t_, Steps pP.tables eE below (s₁.setTop (mkF mM 0 #[.val (.int p1), .val (.int p2), .val (.int p3), .val (.long p4), .second, .unset, .unset, .unset, .unset, .unset, .unset, .unset, .unset, .unset, .unset, .unset, .unset, .unset, .unset, .unset, .unset, .unset, .unset, .unset, .unset] [])) t_ → Steps pP.tables eE below (s₁.setTop (entryFrame mM #[(.int p1), (.int p2), (.int p3), (.long p4)] maxLocals)) t_ := fun t_ k_ => castTop (ef_law21 mM p1 p2 p3 p4) k_
  obtain ⟨_, _, ⟨T_1, L_1, k_1, n_1⟩, -, X_1, ⟨Lc_1, hQ_1, l_1, y_1, z_1⟩, st_1⟩ := Jvm.LawKit.callS X0 hx (y := MN0) hown (mvT hZ (ow hw 0 rfl)) (mvT hZ (ow hw 1 rfl)) (mvT hZ (ow hw 2 rfl)) (mvT hZ (ow hw 3 rfl)) (by decide) (backOf (W := 0) (rm_pick2 l Z a0 hw [] r h0 n0 Z0 S_SampleType_UINT16) hZ (ow hw 3 rfl) (ow hw 2 rfl) (by decide) (by decide)) (g := (mkF mM 23 (lc44 p1 p2 p3 p4) [(.int (2 : Int32))])) rfl (by rw [hml]; rfl) (argsL := [(.int (2 : Int32))]) (rest := []) (lenOf pd_0 rfl) rfl (by show 2 * 0 + _ ≤ _; exact Nat.le_of_eq rfl) (hb hby at_23) (fun _ _ => ⟨rfl, e0, (by decide : 0 + 0 ≤ _), (by decide : 0 + 0 ≤ _)⟩)
  dsimp only [Pt.U, Pt.locs, Pt.cells, Pt.slots] at X_1 l_1 y_1 z_1 st_1 hQ_1
  subst l_1 y_1 z_1
  obtain ⟨rfl, N_1q, eh_1⟩ := hQ_1
  have N_1 := Fr.app N0 N_1q
  obtain ⟨cq_2, kq_2, q_2a, q_2b, q_2c⟩ := isOf hZ eh_1 E_r
  obtain ⟨_, _, ⟨T_2, L_2, k_2, n_2⟩, -, X_2, ⟨Lc_2, hQ_2, l_2, y_2, z_2⟩, st_2⟩ := X_1.virtualBack hx (y := MN1) (z := MN1) hown (mvT hZ (ow hw 9 rfl)) (mvT hZ (ow hw 10 rfl)) (notFace_of_selects (args := #[]) (mvT hZ (ow hw 12 rfl))) (mvT hZ (ow hw 12 rfl)) (mvT hZ (ow hw 11 rfl)) (by decide) (backOf (W := 0) (rm_sto l Z a0 hw [] r fl (FP.dneg (FP.l2d vv)) h0 n0 Z0 S_SampleType_FLOAT32 n1) hZ (ow hw 13 rfl) (ow hw 5 rfl) (by decide) (by decide)) q_2a q_2c (g := (mkF mM 89 (lc50 p1 p2 p3 p4 r sv mv rv vv) [(.double (FP.dneg (FP.l2d vv))), (.ref r)])) rfl (by rw [hml]; rfl) (Steps.refl _) (argsL := [(.double (FP.dneg (FP.l2d vv)))]) (rest := []) (lenOf pd_1 rfl) rfl (by show 2 * 0 + _ ≤ _; exact Nat.le_of_eq rfl) (hb hby at_89) (fun _ _ => ⟨rfl, eh_1, (by decide : 0 + 0 ≤ _), (by decide : 0 + 0 ≤ _)⟩)
  dsimp only [Pt.U, Pt.locs, Pt.cells, Pt.slots] at X_2 l_2 y_2 z_2 st_2 hQ_2
  subst l_2 y_2 z_2
  obtain ⟨rfl, N_2q, eh_2⟩ := hQ_2
  have N_2 := Fr.app N_1 N_2q
  obtain ⟨fs, hr, hrun, hended, hW, hsame⟩ := X_2.leave (v := some (.int (1 : Int32))) (fun h => by rw [Bd.returns] at h; cases h)
  refine ⟨_, _, pre0 _ ?_, hrun, hended, _, _, rfl, ?_, ⟨_, rfl⟩, hW, hsame.mono (by decide) (by decide)⟩
  · show oS pP eE below s₁ (mkF mM 0 (lc0 p1 p2 p3 p4) []) _
    refine XS.iloadN X0.here hx rfl (hb hby at_0) rfl ?_
    refine XS.bipush X0.here hx rfl (hb hby at_1) ?_
    show oS pP eE below s₁ (mkF mM 3 (lc0 p1 p2 p3 p4) [(.int (7 : Int32)), (.int p1)]) _
    refine XS.iand X0.here hx rfl (hb hby at_3) rfl ?_
    show Steps pP.tables eE below (s₁.setTop (mkF mM 4 (lc0 p1 p2 p3 p4) [(.int (p1 &&& (7 : Int32)))])) _
    rw [hk]
    refine XS.istore X0.here hx rfl (hb hby at_4) rfl (l' := (lc35 p1 p2 p3 p4)) rfl ?_
    refine XS.iloadN X0.here hx rfl (hb hby at_6) rfl ?_
    refine XS.iconst X0.here hx rfl (hb hby at_7) ?_
    show oS pP eE below s₁ (mkF mM 8 (lc35 p1 p2 p3 p4) [(.int (3 : Int32)), (.int p1)]) _
    refine XT.ishr X0.here hx rfl (hb hby at_8) rfl ?_
    refine XS.iconst X0.here hx rfl (hb hby at_9) ?_
    show oS pP eE below s₁ (mkF mM 10 (lc35 p1 p2 p3 p4) [(.int (1 : Int32)), (.int (p1 >>> ((3 : Int32) &&& 31)))]) _
    refine XS.iand X0.here hx rfl (hb hby at_10) rfl ?_
    refine XS.ifNo X0.here hx rfl (hb hby at_11) rfl (XT.i0_eq_f hg) ?_
    refine XS.iconst X0.here hx rfl (hb hby at_14) ?_
    refine XS.goto X0.here hx rfl (pc0 := 15) (pc' := 19) rfl (hb hby at_15) (by decide) (by decide) ?_
    refine XS.istore X0.here hx rfl (hb hby at_19) rfl (l' := (lc44 p1 p2 p3 p4)) rfl ?_
    refine XS.iload X0.here hx rfl (hb hby at_21) rfl ?_
    show oS pP eE below s₁ (mkF mM 23 (lc44 p1 p2 p3 p4) [(.int (2 : Int32))]) _
    refine st_1 _ ?_
    show oS pP eE below T_1 (mkF mM 26 (lc44 p1 p2 p3 p4) [(.ref r)]) _
    refine XS.astore X_1.here hx rfl (hb hby at_26) rfl rfl (l' := (lc45 p1 p2 p3 p4 r)) rfl ?_
    refine XS.iloadN X_1.here hx rfl (hb hby at_28) rfl ?_
    refine XS.bipush X_1.here hx rfl (hb hby at_29) ?_
    show oS pP eE below T_1 (mkF mM 31 (lc45 p1 p2 p3 p4 r) [(.int (31 : Int32)), (.int p3)]) _
    refine XS.iand X_1.here hx rfl (hb hby at_31) rfl ?_
    refine XS.bipush X_1.here hx rfl (hb hby at_32) ?_
    show oS pP eE below T_1 (mkF mM 34 (lc45 p1 p2 p3 p4 r) [(.int (30 : Int32)), (.int (p3 &&& (31 : Int32)))]) _
    refine iremM X_1 hx rfl (hb hby at_34) rfl (by decide) ?_
    show Steps pP.tables eE below (T_1.setTop (mkF mM 35 (lc45 p1 p2 p3 p4 r) [(.int ((p3 &&& (31 : Int32)) % (30 : Int32)))])) _
    rw [hsv]
    refine XS.istore X_1.here hx rfl (hb hby at_35) rfl (l' := (lc46 p1 p2 p3 p4 r sv)) rfl ?_
    show oS pP eE below T_1 (mkF mM 37 (lc46 p1 p2 p3 p4 r sv) []) _
    refine X_1.ldc2J hx hown (mvT hZ (ow hw 7 rfl)) (g := (mkF mM 37 (lc46 p1 p2 p3 p4 r sv) [])) rfl (hb hby at_37) ?_
    refine XS.iloadN X_1.here hx rfl (hb hby at_40) rfl ?_
    show oS pP eE below T_1 (mkF mM 41 (lc46 p1 p2 p3 p4 r sv) [(.int p2), (.long (8388608 : Int64))]) _
    refine X_1.ldcI hx hown (mvT hZ (ow hw 8 rfl)) (g := (mkF mM 41 (lc46 p1 p2 p3 p4 r sv) [(.int p2), (.long (8388608 : Int64))])) rfl (hb hby at_41) ?_
    show oS pP eE below T_1 (mkF mM 43 (lc46 p1 p2 p3 p4 r sv) [(.int (8388607 : Int32)), (.int p2), (.long (8388608 : Int64))]) _
    refine XS.iand X_1.here hx rfl (hb hby at_43) rfl ?_
    show oS pP eE below T_1 (mkF mM 44 (lc46 p1 p2 p3 p4 r sv) [(.int (p2 &&& (8388607 : Int32))), (.long (8388608 : Int64))]) _
    refine XT.i2l X_1.here hx rfl (hb hby at_44) rfl ?_
    show oS pP eE below T_1 (mkF mM 45 (lc46 p1 p2 p3 p4 r sv) [(.long ((p2 &&& (8388607 : Int32)).toInt64)), (.long (8388608 : Int64))]) _
    refine XT.ladd X_1.here hx rfl (hb hby at_45) rfl ?_
    show Steps pP.tables eE below (T_1.setTop (mkF mM 46 (lc46 p1 p2 p3 p4 r sv) [(.long ((8388608 : Int64) + ((p2 &&& (8388607 : Int32)).toInt64)))])) _
    rw [hmv]
    refine XT.lstore X_1.here hx rfl (hb hby at_46) rfl (l' := (lc47 p1 p2 p3 p4 r sv mv)) rfl ?_
    refine XT.lloadN X_1.here hx rfl (hb hby at_48) rfl ?_
    refine XT.lconst X_1.here hx rfl (hb hby at_49) ?_
    refine XS.iload X_1.here hx rfl (hb hby at_50) rfl ?_
    show oS pP eE below T_1 (mkF mM 52 (lc47 p1 p2 p3 p4 r sv mv) [(.int sv), (.long (1 : Int64)), (.long p4)]) _
    refine XT.lshl X_1.here hx rfl (hb hby at_52) rfl ?_
    refine XT.lconst X_1.here hx rfl (hb hby at_53) ?_
    show oS pP eE below T_1 (mkF mM 54 (lc47 p1 p2 p3 p4 r sv mv) [(.long (1 : Int64)), (.long ((1 : Int64) <<< (sv.toInt64 &&& 63))), (.long p4)]) _
    refine XT.lsub X_1.here hx rfl (hb hby at_54) rfl ?_
    show oS pP eE below T_1 (mkF mM 55 (lc47 p1 p2 p3 p4 r sv mv) [(.long (((1 : Int64) <<< (sv.toInt64 &&& 63)) - (1 : Int64))), (.long p4)]) _
    refine XT.land X_1.here hx rfl (hb hby at_55) rfl ?_
    show Steps pP.tables eE below (T_1.setTop (mkF mM 56 (lc47 p1 p2 p3 p4 r sv mv) [(.long (p4 &&& (((1 : Int64) <<< (sv.toInt64 &&& 63)) - (1 : Int64))))])) _
    rw [hrv]
    refine XT.lstore X_1.here hx rfl (hb hby at_56) rfl (l' := (lc48 p1 p2 p3 p4 r sv mv rv)) rfl ?_
    refine XT.lload X_1.here hx rfl (hb hby at_58) rfl ?_
    refine XS.iload X_1.here hx rfl (hb hby at_60) rfl ?_
    show oS pP eE below T_1 (mkF mM 62 (lc48 p1 p2 p3 p4 r sv mv rv) [(.int sv), (.long mv)]) _
    refine XT.lshl X_1.here hx rfl (hb hby at_62) rfl ?_
    refine XT.lload X_1.here hx rfl (hb hby at_63) rfl ?_
    show oS pP eE below T_1 (mkF mM 65 (lc48 p1 p2 p3 p4 r sv mv rv) [(.long rv), (.long (mv <<< (sv.toInt64 &&& 63)))]) _
    refine XT.ladd X_1.here hx rfl (hb hby at_65) rfl ?_
    show Steps pP.tables eE below (T_1.setTop (mkF mM 66 (lc48 p1 p2 p3 p4 r sv mv rv) [(.long ((mv <<< (sv.toInt64 &&& 63)) + rv))])) _
    rw [hvv]
    refine XT.lstore X_1.here hx rfl (hb hby at_66) rfl (l' := (lc49 p1 p2 p3 p4 r sv mv rv vv)) rfl ?_
    refine XS.iload X_1.here hx rfl (hb hby at_68) rfl ?_
    refine XS.ifNo X_1.here hx rfl (hb hby at_70) rfl (by decide) ?_
    refine XT.lload X_1.here hx rfl (hb hby at_73) rfl ?_
    show oS pP eE below T_1 (mkF mM 75 (lc49 p1 p2 p3 p4 r sv mv rv vv) [(.long vv)]) _
    refine XS.l2dS X_1.here hx rfl (hb hby at_75) rfl rfl ?_
    show oS pP eE below T_1 (mkF mM 76 (lc49 p1 p2 p3 p4 r sv mv rv vv) [(.double (FP.l2d vv))]) _
    refine XS.dnegS X_1.here hx rfl (hb hby at_76) rfl rfl ?_
    refine XS.goto X_1.here hx rfl (pc0 := 77) (pc' := 83) rfl (hb hby at_77) (by decide) (by decide) ?_
    show oS pP eE below T_1 (mkF mM 83 (lc49 p1 p2 p3 p4 r sv mv rv vv) [(.double (FP.dneg (FP.l2d vv)))]) _
    refine XS.dstore X_1.here hx rfl (hb hby at_83) rfl (l' := (lc50 p1 p2 p3 p4 r sv mv rv vv)) rfl ?_
    refine XS.aload X_1.here hx rfl (hb hby at_85) rfl rfl ?_
    show oS pP eE below T_1 (mkF mM 87 (lc50 p1 p2 p3 p4 r sv mv rv vv) [(.ref r)]) _
    refine XS.dload X_1.here hx rfl (hb hby at_87) rfl ?_
    show oS pP eE below T_1 (mkF mM 89 (lc50 p1 p2 p3 p4 r sv mv rv vv) [(.double (FP.dneg (FP.l2d vv))), (.ref r)]) _
    refine st_2.trans ?_
    show oS pP eE below T_2 (mkF mM 92 (lc50 p1 p2 p3 p4 r sv mv rv vv) [(.double (FP.dneg (FP.l2d vv)))]) _
    refine XS.dstore X_2.here hx rfl (hb hby at_92) rfl (l' := (lc51 p1 p2 p3 p4 r sv mv rv vv)) rfl ?_
    refine XS.iload X_2.here hx rfl (hb hby at_94) rfl ?_
    refine XS.bipush X_2.here hx rfl (hb hby at_96) ?_
    refine XS.icmpNo X_2.here hx rfl (hb hby at_98) rfl (by decide) ?_
    show oS pP eE below T_2 (mkF mM 101 (lc51 p1 p2 p3 p4 r sv mv rv vv) []) _
    refine XS.dload X_2.here hx rfl (hb hby at_101) rfl ?_
    show oS pP eE below T_2 (mkF mM 103 (lc51 p1 p2 p3 p4 r sv mv rv vv) [(.double (FP.dneg (FP.l2d vv)))]) _
    refine XS.dload X_2.here hx rfl (hb hby at_103) rfl ?_
    show oS pP eE below T_2 (mkF mM 105 (lc51 p1 p2 p3 p4 r sv mv rv vv) [(.double (FP.dneg (FP.l2d vv))), (.double (FP.dneg (FP.l2d vv)))]) _
    refine XS.dcmpS X_2.here hx rfl (hb hby at_105) rfl rfl ?_
    refine XS.ifNo X_2.here hx rfl (hb hby at_106) rfl (XT.i0_ne_f (dcmpV_self hnn .l)) ?_
    refine XS.iconst X_2.here hx rfl (hb hby at_109) ?_
    refine XS.goto X_2.here hx rfl (pc0 := 110) (pc' := 114) rfl (hb hby at_110) (by decide) (by decide) ?_
    show oS pP eE below T_2 (mkF mM 114 (lc51 p1 p2 p3 p4 r sv mv rv vv) [(.int (1 : Int32))]) _
    exact retN X_2 hx (t := .boolean) Bd.returns (by simp) (hb hby at_114) hr
  · show Q_law21 Z p1 p2 p3 p4 sv mv rv vv r fl h0 n0 _ T_2.heap _
    exact ⟨rfl, N_2⟩
abbrev lc52 (p1 : Int32) (p2 : Int32) (p3 : Int32) (p4 : Int64) : Array Slot := #[.val (.int p1), .val (.int p2), .val (.int p3), .val (.long p4), .second, .val (.int (3 : Int32)), .unset, .unset, .unset, .unset, .unset, .unset, .unset, .unset, .unset, .unset, .unset, .unset, .unset, .unset, .unset, .unset, .unset, .unset, .unset]
abbrev lc53 (p1 : Int32) (p2 : Int32) (p3 : Int32) (p4 : Int64) : Array Slot := #[.val (.int p1), .val (.int p2), .val (.int p3), .val (.long p4), .second, .val (.int (3 : Int32)), .val (.int (0 : Int32)), .unset, .unset, .unset, .unset, .unset, .unset, .unset, .unset, .unset, .unset, .unset, .unset, .unset, .unset, .unset, .unset, .unset, .unset]
abbrev lc54 (p1 : Int32) (p2 : Int32) (p3 : Int32) (p4 : Int64) (r : Addr) : Array Slot := #[.val (.int p1), .val (.int p2), .val (.int p3), .val (.long p4), .second, .val (.int (3 : Int32)), .val (.int (0 : Int32)), .val (.ref r), .unset, .unset, .unset, .unset, .unset, .unset, .unset, .unset, .unset, .unset, .unset, .unset, .unset, .unset, .unset, .unset, .unset]
abbrev lc55 (p1 : Int32) (p2 : Int32) (p3 : Int32) (p4 : Int64) (r : Addr) (sv : Int32) : Array Slot := #[.val (.int p1), .val (.int p2), .val (.int p3), .val (.long p4), .second, .val (.int (3 : Int32)), .val (.int (0 : Int32)), .val (.ref r), .val (.int sv), .unset, .unset, .unset, .unset, .unset, .unset, .unset, .unset, .unset, .unset, .unset, .unset, .unset, .unset, .unset, .unset]
abbrev lc56 (p1 : Int32) (p2 : Int32) (p3 : Int32) (p4 : Int64) (r : Addr) (sv : Int32) (mv : Int64) : Array Slot := #[.val (.int p1), .val (.int p2), .val (.int p3), .val (.long p4), .second, .val (.int (3 : Int32)), .val (.int (0 : Int32)), .val (.ref r), .val (.int sv), .val (.long mv), .second, .unset, .unset, .unset, .unset, .unset, .unset, .unset, .unset, .unset, .unset, .unset, .unset, .unset, .unset]
abbrev lc57 (p1 : Int32) (p2 : Int32) (p3 : Int32) (p4 : Int64) (r : Addr) (sv : Int32) (mv : Int64) (rv : Int64) : Array Slot := #[.val (.int p1), .val (.int p2), .val (.int p3), .val (.long p4), .second, .val (.int (3 : Int32)), .val (.int (0 : Int32)), .val (.ref r), .val (.int sv), .val (.long mv), .second, .val (.long rv), .second, .unset, .unset, .unset, .unset, .unset, .unset, .unset, .unset, .unset, .unset, .unset, .unset]
abbrev lc58 (p1 : Int32) (p2 : Int32) (p3 : Int32) (p4 : Int64) (r : Addr) (sv : Int32) (mv : Int64) (rv : Int64) (vv : Int64) : Array Slot := #[.val (.int p1), .val (.int p2), .val (.int p3), .val (.long p4), .second, .val (.int (3 : Int32)), .val (.int (0 : Int32)), .val (.ref r), .val (.int sv), .val (.long mv), .second, .val (.long rv), .second, .val (.long vv), .second, .unset, .unset, .unset, .unset, .unset, .unset, .unset, .unset, .unset, .unset]
abbrev lc59 (p1 : Int32) (p2 : Int32) (p3 : Int32) (p4 : Int64) (r : Addr) (sv : Int32) (mv : Int64) (rv : Int64) (vv : Int64) : Array Slot := #[.val (.int p1), .val (.int p2), .val (.int p3), .val (.long p4), .second, .val (.int (3 : Int32)), .val (.int (0 : Int32)), .val (.ref r), .val (.int sv), .val (.long mv), .second, .val (.long rv), .second, .val (.long vv), .second, .val (.double (FP.l2d vv)), .second, .unset, .unset, .unset, .unset, .unset, .unset, .unset, .unset]
abbrev lc60 (p1 : Int32) (p2 : Int32) (p3 : Int32) (p4 : Int64) (r : Addr) (sv : Int32) (mv : Int64) (rv : Int64) (vv : Int64) : Array Slot := #[.val (.int p1), .val (.int p2), .val (.int p3), .val (.long p4), .second, .val (.int (3 : Int32)), .val (.int (0 : Int32)), .val (.ref r), .val (.int sv), .val (.long mv), .second, .val (.long rv), .second, .val (.long vv), .second, .val (.double (FP.l2d vv)), .second, .val (.double (FP.l2d vv)), .second, .unset, .unset, .unset, .unset, .unset, .unset]
theorem ef_law30 (mM : MethodId) (x0 : Int32) (x1 : Int32) (x2 : Int32) (x3 : Int64) : entryFrame mM #[(.int x0), (.int x1), (.int x2), (.long x3)] maxLocals = mkF mM 0 #[.val (.int x0), .val (.int x1), .val (.int x2), .val (.long x3), .second, .unset, .unset, .unset, .unset, .unset, .unset, .unset, .unset, .unset, .unset, .unset, .unset, .unset, .unset, .unset, .unset, .unset, .unset, .unset, .unset] [] := by first | (simp [entryFrame, mkF, argsToLocals, Value.category, maxLocals]; done) | rfl
def Q_law30 (Z : State) (p1 : Int32) (p2 : Int32) (p3 : Int32) (p4 : Int64) (sv : Int32) (mv : Int64) (rv : Int64) (vv : Int64) (r : Addr) (fl : Addr) (h0 : Heap) (n0 : Nat) (v_ : Option Value) (h_ : Heap) (L_ : List Loc) : Prop := v_ = some (.int (1 : Int32)) ∧ Fr n0 L_
set_option maxRecDepth 65536 in
set_option maxHeartbeats 40000000 in
theorem rm_law30 (l : Launch) (Z : State) (a0 : Array Value) (hw : ∀ d ∈ tables_1, d.before a0 Z = true) (ws : List Jvm.Cond) (p1 : Int32) (p2 : Int32) (p3 : Int32) (p4 : Int64) (sv : Int32) (mv : Int64) (rv : Int64) (vv : Int64) (r : Addr) (fl : Addr) (h0 : Heap) (n0 : Nat) (Z0 : n0 ≤ h0.size) (hk : (p1 &&& (7 : Int32)) = (3 : Int32)) (hg : ((p1 >>> ((3 : Int32) &&& 31)) &&& (1 : Int32)) = 0) (hsv : ((p3 &&& (31 : Int32)) % (30 : Int32)) = sv) (hmv : ((8388608 : Int64) + ((p2 &&& (8388607 : Int32)).toInt64)) = mv) (hrv : (p4 &&& (((1 : Int64) <<< (sv.toInt64 &&& 63)) - (1 : Int64))) = rv) (hvv : ((mv <<< (sv.toInt64 &&& 63)) + rv) = vv) (hnn : Jvm.Free.Fl.NoNaN64 (FP.l2d vv)) (S_SampleType_INT16 : Sta Z h0 "com/example/greenweft/greenweft/map/SampleType" "INT16" "Lcom/example/greenweft/greenweft/map/SampleType;" (.ref r)) (S_SampleType_FLOAT32 : Sta Z h0 "com/example/greenweft/greenweft/map/SampleType" "FLOAT32" "Lcom/example/greenweft/greenweft/map/SampleType;" (.ref fl)) (n1 : r ≠ fl) (E_r : Exa Z h0 r "com/example/greenweft/greenweft/map/SampleType") :
    MetFree l x (head1 (Jvm.Cond.code x code maxLocals ret :: ws) room_1) (fun aa_ U_ => aa_ = #[(.int p1), (.int p2), (.int p3), (.long p4)] ∧ Z.Warmed39 U_.vm ∧ U_.heap = h0) (fun _ _ _ _ _ => True) (fun _ U_ o_ U'_ => ∃ v_ L_, o_ = .returned v_ ∧ Q_law30 Z p1 p2 p3 p4 sv mv rv vv r fl h0 n0 v_ U'_.heap L_ ∧ FrameEnd U_ o_ U'_ L_ 0 0) := by
  refine MetFree.of_bodySF (plainFor_of_name pn_0) hisR ?_
  intro pP eE sS mM argsA below meth cC s₁ Bd hml0 hP hK
  obtain ⟨rfl, hZ, hh⟩ := hP
  have hx := Bd.exec
  have hby := Bd.bytes
  have hml : cC.maxLocals = 25 := hml0
  have hown : sS.vm.findClass "com/example/greenweft/greenweft/map/SampleTypeStoredPinLaw" = some mM.cls := findClass_of_methodNamed Bd.named
  have hnm := (name_of_methodNamed Bd.named Bd.method).1
  have X0 : Stand pP l eE room_1 sS mM #[(.int p1), (.int p2), (.int p3), (.long p4)] below meth cC s₁ [] 0 0 := Stand.of_body Bd
  have e0 : s₁.heap = h0 := by rw [← hh, Bd.state]; rfl
  have N0 := Fr.nil n0
  have pre0 : ∀ t_, Steps pP.tables eE below (s₁.setTop (mkF mM 0 #[.val (.int p1), .val (.int p2), .val (.int p3), .val (.long p4), .second, .unset, .unset, .unset, .unset, .unset, .unset, .unset, .unset, .unset, .unset, .unset, .unset, .unset, .unset, .unset, .unset, .unset, .unset, .unset, .unset] [])) t_ → Steps pP.tables eE below (s₁.setTop (entryFrame mM #[(.int p1), (.int p2), (.int p3), (.long p4)] maxLocals)) t_ := fun t_ k_ => castTop (ef_law30 mM p1 p2 p3 p4) k_
  obtain ⟨_, _, ⟨T_1, L_1, k_1, n_1⟩, -, X_1, ⟨Lc_1, hQ_1, l_1, y_1, z_1⟩, st_1⟩ := Jvm.LawKit.callS X0 hx (y := MN0) hown (mvT hZ (ow hw 0 rfl)) (mvT hZ (ow hw 1 rfl)) (mvT hZ (ow hw 2 rfl)) (mvT hZ (ow hw 3 rfl)) (by decide) (backOf (W := 0) (rm_pick3 l Z a0 hw [] r h0 n0 Z0 S_SampleType_INT16) hZ (ow hw 3 rfl) (ow hw 2 rfl) (by decide) (by decide)) (g := (mkF mM 23 (lc53 p1 p2 p3 p4) [(.int (3 : Int32))])) rfl (by rw [hml]; rfl) (argsL := [(.int (3 : Int32))]) (rest := []) (lenOf pd_0 rfl) rfl (by show 2 * 0 + _ ≤ _; exact Nat.le_of_eq rfl) (hb hby at_23) (fun _ _ => ⟨rfl, e0, (by decide : 0 + 0 ≤ _), (by decide : 0 + 0 ≤ _)⟩)
  dsimp only [Pt.U, Pt.locs, Pt.cells, Pt.slots] at X_1 l_1 y_1 z_1 st_1 hQ_1
  subst l_1 y_1 z_1
  obtain ⟨rfl, N_1q, eh_1⟩ := hQ_1
  have N_1 := Fr.app N0 N_1q
  obtain ⟨cq_2, kq_2, q_2a, q_2b, q_2c⟩ := isOf hZ eh_1 E_r
  obtain ⟨_, _, ⟨T_2, L_2, k_2, n_2⟩, -, X_2, ⟨Lc_2, hQ_2, l_2, y_2, z_2⟩, st_2⟩ := X_1.virtualBack hx (y := MN1) (z := MN1) hown (mvT hZ (ow hw 9 rfl)) (mvT hZ (ow hw 10 rfl)) (notFace_of_selects (args := #[]) (mvT hZ (ow hw 12 rfl))) (mvT hZ (ow hw 12 rfl)) (mvT hZ (ow hw 11 rfl)) (by decide) (backOf (W := 0) (rm_sto l Z a0 hw [] r fl (FP.l2d vv) h0 n0 Z0 S_SampleType_FLOAT32 n1) hZ (ow hw 13 rfl) (ow hw 5 rfl) (by decide) (by decide)) q_2a q_2c (g := (mkF mM 89 (lc59 p1 p2 p3 p4 r sv mv rv vv) [(.double (FP.l2d vv)), (.ref r)])) rfl (by rw [hml]; rfl) (Steps.refl _) (argsL := [(.double (FP.l2d vv))]) (rest := []) (lenOf pd_1 rfl) rfl (by show 2 * 0 + _ ≤ _; exact Nat.le_of_eq rfl) (hb hby at_89) (fun _ _ => ⟨rfl, eh_1, (by decide : 0 + 0 ≤ _), (by decide : 0 + 0 ≤ _)⟩)
  dsimp only [Pt.U, Pt.locs, Pt.cells, Pt.slots] at X_2 l_2 y_2 z_2 st_2 hQ_2
  subst l_2 y_2 z_2
  obtain ⟨rfl, N_2q, eh_2⟩ := hQ_2
  have N_2 := Fr.app N_1 N_2q
  obtain ⟨fs, hr, hrun, hended, hW, hsame⟩ := X_2.leave (v := some (.int (1 : Int32))) (fun h => by rw [Bd.returns] at h; cases h)
  refine ⟨_, _, pre0 _ ?_, hrun, hended, _, _, rfl, ?_, ⟨_, rfl⟩, hW, hsame.mono (by decide) (by decide)⟩
  · show oS pP eE below s₁ (mkF mM 0 (lc0 p1 p2 p3 p4) []) _
    refine XS.iloadN X0.here hx rfl (hb hby at_0) rfl ?_
    refine XS.bipush X0.here hx rfl (hb hby at_1) ?_
    show oS pP eE below s₁ (mkF mM 3 (lc0 p1 p2 p3 p4) [(.int (7 : Int32)), (.int p1)]) _
    refine XS.iand X0.here hx rfl (hb hby at_3) rfl ?_
    show Steps pP.tables eE below (s₁.setTop (mkF mM 4 (lc0 p1 p2 p3 p4) [(.int (p1 &&& (7 : Int32)))])) _
    rw [hk]
    refine XS.istore X0.here hx rfl (hb hby at_4) rfl (l' := (lc52 p1 p2 p3 p4)) rfl ?_
    refine XS.iloadN X0.here hx rfl (hb hby at_6) rfl ?_
    refine XS.iconst X0.here hx rfl (hb hby at_7) ?_
    show oS pP eE below s₁ (mkF mM 8 (lc52 p1 p2 p3 p4) [(.int (3 : Int32)), (.int p1)]) _
    refine XT.ishr X0.here hx rfl (hb hby at_8) rfl ?_
    refine XS.iconst X0.here hx rfl (hb hby at_9) ?_
    show oS pP eE below s₁ (mkF mM 10 (lc52 p1 p2 p3 p4) [(.int (1 : Int32)), (.int (p1 >>> ((3 : Int32) &&& 31)))]) _
    refine XS.iand X0.here hx rfl (hb hby at_10) rfl ?_
    refine XS.ifYes X0.here hx rfl (pc0 := 11) (pc' := 18) rfl (hb hby at_11) rfl (XT.i0_eq_t hg) (by decide) (by decide) ?_
    refine XS.iconst X0.here hx rfl (hb hby at_18) ?_
    refine XS.istore X0.here hx rfl (hb hby at_19) rfl (l' := (lc53 p1 p2 p3 p4)) rfl ?_
    refine XS.iload X0.here hx rfl (hb hby at_21) rfl ?_
    show oS pP eE below s₁ (mkF mM 23 (lc53 p1 p2 p3 p4) [(.int (3 : Int32))]) _
    refine st_1 _ ?_
    show oS pP eE below T_1 (mkF mM 26 (lc53 p1 p2 p3 p4) [(.ref r)]) _
    refine XS.astore X_1.here hx rfl (hb hby at_26) rfl rfl (l' := (lc54 p1 p2 p3 p4 r)) rfl ?_
    refine XS.iloadN X_1.here hx rfl (hb hby at_28) rfl ?_
    refine XS.bipush X_1.here hx rfl (hb hby at_29) ?_
    show oS pP eE below T_1 (mkF mM 31 (lc54 p1 p2 p3 p4 r) [(.int (31 : Int32)), (.int p3)]) _
    refine XS.iand X_1.here hx rfl (hb hby at_31) rfl ?_
    refine XS.bipush X_1.here hx rfl (hb hby at_32) ?_
    show oS pP eE below T_1 (mkF mM 34 (lc54 p1 p2 p3 p4 r) [(.int (30 : Int32)), (.int (p3 &&& (31 : Int32)))]) _
    refine iremM X_1 hx rfl (hb hby at_34) rfl (by decide) ?_
    show Steps pP.tables eE below (T_1.setTop (mkF mM 35 (lc54 p1 p2 p3 p4 r) [(.int ((p3 &&& (31 : Int32)) % (30 : Int32)))])) _
    rw [hsv]
    refine XS.istore X_1.here hx rfl (hb hby at_35) rfl (l' := (lc55 p1 p2 p3 p4 r sv)) rfl ?_
    show oS pP eE below T_1 (mkF mM 37 (lc55 p1 p2 p3 p4 r sv) []) _
    refine X_1.ldc2J hx hown (mvT hZ (ow hw 7 rfl)) (g := (mkF mM 37 (lc55 p1 p2 p3 p4 r sv) [])) rfl (hb hby at_37) ?_
    refine XS.iloadN X_1.here hx rfl (hb hby at_40) rfl ?_
    show oS pP eE below T_1 (mkF mM 41 (lc55 p1 p2 p3 p4 r sv) [(.int p2), (.long (8388608 : Int64))]) _
    refine X_1.ldcI hx hown (mvT hZ (ow hw 8 rfl)) (g := (mkF mM 41 (lc55 p1 p2 p3 p4 r sv) [(.int p2), (.long (8388608 : Int64))])) rfl (hb hby at_41) ?_
    show oS pP eE below T_1 (mkF mM 43 (lc55 p1 p2 p3 p4 r sv) [(.int (8388607 : Int32)), (.int p2), (.long (8388608 : Int64))]) _
    refine XS.iand X_1.here hx rfl (hb hby at_43) rfl ?_
    show oS pP eE below T_1 (mkF mM 44 (lc55 p1 p2 p3 p4 r sv) [(.int (p2 &&& (8388607 : Int32))), (.long (8388608 : Int64))]) _
    refine XT.i2l X_1.here hx rfl (hb hby at_44) rfl ?_
    show oS pP eE below T_1 (mkF mM 45 (lc55 p1 p2 p3 p4 r sv) [(.long ((p2 &&& (8388607 : Int32)).toInt64)), (.long (8388608 : Int64))]) _
    refine XT.ladd X_1.here hx rfl (hb hby at_45) rfl ?_
    show Steps pP.tables eE below (T_1.setTop (mkF mM 46 (lc55 p1 p2 p3 p4 r sv) [(.long ((8388608 : Int64) + ((p2 &&& (8388607 : Int32)).toInt64)))])) _
    rw [hmv]
    refine XT.lstore X_1.here hx rfl (hb hby at_46) rfl (l' := (lc56 p1 p2 p3 p4 r sv mv)) rfl ?_
    refine XT.lloadN X_1.here hx rfl (hb hby at_48) rfl ?_
    refine XT.lconst X_1.here hx rfl (hb hby at_49) ?_
    refine XS.iload X_1.here hx rfl (hb hby at_50) rfl ?_
    show oS pP eE below T_1 (mkF mM 52 (lc56 p1 p2 p3 p4 r sv mv) [(.int sv), (.long (1 : Int64)), (.long p4)]) _
    refine XT.lshl X_1.here hx rfl (hb hby at_52) rfl ?_
    refine XT.lconst X_1.here hx rfl (hb hby at_53) ?_
    show oS pP eE below T_1 (mkF mM 54 (lc56 p1 p2 p3 p4 r sv mv) [(.long (1 : Int64)), (.long ((1 : Int64) <<< (sv.toInt64 &&& 63))), (.long p4)]) _
    refine XT.lsub X_1.here hx rfl (hb hby at_54) rfl ?_
    show oS pP eE below T_1 (mkF mM 55 (lc56 p1 p2 p3 p4 r sv mv) [(.long (((1 : Int64) <<< (sv.toInt64 &&& 63)) - (1 : Int64))), (.long p4)]) _
    refine XT.land X_1.here hx rfl (hb hby at_55) rfl ?_
    show Steps pP.tables eE below (T_1.setTop (mkF mM 56 (lc56 p1 p2 p3 p4 r sv mv) [(.long (p4 &&& (((1 : Int64) <<< (sv.toInt64 &&& 63)) - (1 : Int64))))])) _
    rw [hrv]
    refine XT.lstore X_1.here hx rfl (hb hby at_56) rfl (l' := (lc57 p1 p2 p3 p4 r sv mv rv)) rfl ?_
    refine XT.lload X_1.here hx rfl (hb hby at_58) rfl ?_
    refine XS.iload X_1.here hx rfl (hb hby at_60) rfl ?_
    show oS pP eE below T_1 (mkF mM 62 (lc57 p1 p2 p3 p4 r sv mv rv) [(.int sv), (.long mv)]) _
    refine XT.lshl X_1.here hx rfl (hb hby at_62) rfl ?_
    refine XT.lload X_1.here hx rfl (hb hby at_63) rfl ?_
    show oS pP eE below T_1 (mkF mM 65 (lc57 p1 p2 p3 p4 r sv mv rv) [(.long rv), (.long (mv <<< (sv.toInt64 &&& 63)))]) _
    refine XT.ladd X_1.here hx rfl (hb hby at_65) rfl ?_
    show Steps pP.tables eE below (T_1.setTop (mkF mM 66 (lc57 p1 p2 p3 p4 r sv mv rv) [(.long ((mv <<< (sv.toInt64 &&& 63)) + rv))])) _
    rw [hvv]
    refine XT.lstore X_1.here hx rfl (hb hby at_66) rfl (l' := (lc58 p1 p2 p3 p4 r sv mv rv vv)) rfl ?_
    refine XS.iload X_1.here hx rfl (hb hby at_68) rfl ?_
    refine XS.ifYes X_1.here hx rfl (pc0 := 70) (pc' := 80) rfl (hb hby at_70) rfl (by decide) (by decide) (by decide) ?_
    refine XT.lload X_1.here hx rfl (hb hby at_80) rfl ?_
    show oS pP eE below T_1 (mkF mM 82 (lc58 p1 p2 p3 p4 r sv mv rv vv) [(.long vv)]) _
    refine XS.l2dS X_1.here hx rfl (hb hby at_82) rfl rfl ?_
    show oS pP eE below T_1 (mkF mM 83 (lc58 p1 p2 p3 p4 r sv mv rv vv) [(.double (FP.l2d vv))]) _
    refine XS.dstore X_1.here hx rfl (hb hby at_83) rfl (l' := (lc59 p1 p2 p3 p4 r sv mv rv vv)) rfl ?_
    refine XS.aload X_1.here hx rfl (hb hby at_85) rfl rfl ?_
    show oS pP eE below T_1 (mkF mM 87 (lc59 p1 p2 p3 p4 r sv mv rv vv) [(.ref r)]) _
    refine XS.dload X_1.here hx rfl (hb hby at_87) rfl ?_
    show oS pP eE below T_1 (mkF mM 89 (lc59 p1 p2 p3 p4 r sv mv rv vv) [(.double (FP.l2d vv)), (.ref r)]) _
    refine st_2.trans ?_
    show oS pP eE below T_2 (mkF mM 92 (lc59 p1 p2 p3 p4 r sv mv rv vv) [(.double (FP.l2d vv))]) _
    refine XS.dstore X_2.here hx rfl (hb hby at_92) rfl (l' := (lc60 p1 p2 p3 p4 r sv mv rv vv)) rfl ?_
    refine XS.iload X_2.here hx rfl (hb hby at_94) rfl ?_
    refine XS.bipush X_2.here hx rfl (hb hby at_96) ?_
    refine XS.icmpNo X_2.here hx rfl (hb hby at_98) rfl (by decide) ?_
    show oS pP eE below T_2 (mkF mM 101 (lc60 p1 p2 p3 p4 r sv mv rv vv) []) _
    refine XS.dload X_2.here hx rfl (hb hby at_101) rfl ?_
    show oS pP eE below T_2 (mkF mM 103 (lc60 p1 p2 p3 p4 r sv mv rv vv) [(.double (FP.l2d vv))]) _
    refine XS.dload X_2.here hx rfl (hb hby at_103) rfl ?_
    show oS pP eE below T_2 (mkF mM 105 (lc60 p1 p2 p3 p4 r sv mv rv vv) [(.double (FP.l2d vv)), (.double (FP.l2d vv))]) _
    refine XS.dcmpS X_2.here hx rfl (hb hby at_105) rfl rfl ?_
    refine XS.ifNo X_2.here hx rfl (hb hby at_106) rfl (XT.i0_ne_f (dcmpV_self hnn .l)) ?_
    refine XS.iconst X_2.here hx rfl (hb hby at_109) ?_
    refine XS.goto X_2.here hx rfl (pc0 := 110) (pc' := 114) rfl (hb hby at_110) (by decide) (by decide) ?_
    show oS pP eE below T_2 (mkF mM 114 (lc60 p1 p2 p3 p4 r sv mv rv vv) [(.int (1 : Int32))]) _
    exact retN X_2 hx (t := .boolean) Bd.returns (by simp) (hb hby at_114) hr
  · show Q_law30 Z p1 p2 p3 p4 sv mv rv vv r fl h0 n0 _ T_2.heap _
    exact ⟨rfl, N_2⟩
abbrev lc61 (p1 : Int32) (p2 : Int32) (p3 : Int32) (p4 : Int64) : Array Slot := #[.val (.int p1), .val (.int p2), .val (.int p3), .val (.long p4), .second, .val (.int (3 : Int32)), .val (.int (1 : Int32)), .unset, .unset, .unset, .unset, .unset, .unset, .unset, .unset, .unset, .unset, .unset, .unset, .unset, .unset, .unset, .unset, .unset, .unset]
abbrev lc62 (p1 : Int32) (p2 : Int32) (p3 : Int32) (p4 : Int64) (r : Addr) : Array Slot := #[.val (.int p1), .val (.int p2), .val (.int p3), .val (.long p4), .second, .val (.int (3 : Int32)), .val (.int (1 : Int32)), .val (.ref r), .unset, .unset, .unset, .unset, .unset, .unset, .unset, .unset, .unset, .unset, .unset, .unset, .unset, .unset, .unset, .unset, .unset]
abbrev lc63 (p1 : Int32) (p2 : Int32) (p3 : Int32) (p4 : Int64) (r : Addr) (sv : Int32) : Array Slot := #[.val (.int p1), .val (.int p2), .val (.int p3), .val (.long p4), .second, .val (.int (3 : Int32)), .val (.int (1 : Int32)), .val (.ref r), .val (.int sv), .unset, .unset, .unset, .unset, .unset, .unset, .unset, .unset, .unset, .unset, .unset, .unset, .unset, .unset, .unset, .unset]
abbrev lc64 (p1 : Int32) (p2 : Int32) (p3 : Int32) (p4 : Int64) (r : Addr) (sv : Int32) (mv : Int64) : Array Slot := #[.val (.int p1), .val (.int p2), .val (.int p3), .val (.long p4), .second, .val (.int (3 : Int32)), .val (.int (1 : Int32)), .val (.ref r), .val (.int sv), .val (.long mv), .second, .unset, .unset, .unset, .unset, .unset, .unset, .unset, .unset, .unset, .unset, .unset, .unset, .unset, .unset]
abbrev lc65 (p1 : Int32) (p2 : Int32) (p3 : Int32) (p4 : Int64) (r : Addr) (sv : Int32) (mv : Int64) (rv : Int64) : Array Slot := #[.val (.int p1), .val (.int p2), .val (.int p3), .val (.long p4), .second, .val (.int (3 : Int32)), .val (.int (1 : Int32)), .val (.ref r), .val (.int sv), .val (.long mv), .second, .val (.long rv), .second, .unset, .unset, .unset, .unset, .unset, .unset, .unset, .unset, .unset, .unset, .unset, .unset]
abbrev lc66 (p1 : Int32) (p2 : Int32) (p3 : Int32) (p4 : Int64) (r : Addr) (sv : Int32) (mv : Int64) (rv : Int64) (vv : Int64) : Array Slot := #[.val (.int p1), .val (.int p2), .val (.int p3), .val (.long p4), .second, .val (.int (3 : Int32)), .val (.int (1 : Int32)), .val (.ref r), .val (.int sv), .val (.long mv), .second, .val (.long rv), .second, .val (.long vv), .second, .unset, .unset, .unset, .unset, .unset, .unset, .unset, .unset, .unset, .unset]
abbrev lc67 (p1 : Int32) (p2 : Int32) (p3 : Int32) (p4 : Int64) (r : Addr) (sv : Int32) (mv : Int64) (rv : Int64) (vv : Int64) : Array Slot := #[.val (.int p1), .val (.int p2), .val (.int p3), .val (.long p4), .second, .val (.int (3 : Int32)), .val (.int (1 : Int32)), .val (.ref r), .val (.int sv), .val (.long mv), .second, .val (.long rv), .second, .val (.long vv), .second, .val (.double (FP.dneg (FP.l2d vv))), .second, .unset, .unset, .unset, .unset, .unset, .unset, .unset, .unset]
abbrev lc68 (p1 : Int32) (p2 : Int32) (p3 : Int32) (p4 : Int64) (r : Addr) (sv : Int32) (mv : Int64) (rv : Int64) (vv : Int64) : Array Slot := #[.val (.int p1), .val (.int p2), .val (.int p3), .val (.long p4), .second, .val (.int (3 : Int32)), .val (.int (1 : Int32)), .val (.ref r), .val (.int sv), .val (.long mv), .second, .val (.long rv), .second, .val (.long vv), .second, .val (.double (FP.dneg (FP.l2d vv))), .second, .val (.double (FP.dneg (FP.l2d vv))), .second, .unset, .unset, .unset, .unset, .unset, .unset]
theorem ef_law31 (mM : MethodId) (x0 : Int32) (x1 : Int32) (x2 : Int32) (x3 : Int64) : entryFrame mM #[(.int x0), (.int x1), (.int x2), (.long x3)] maxLocals = mkF mM 0 #[.val (.int x0), .val (.int x1), .val (.int x2), .val (.long x3), .second, .unset, .unset, .unset, .unset, .unset, .unset, .unset, .unset, .unset, .unset, .unset, .unset, .unset, .unset, .unset, .unset, .unset, .unset, .unset, .unset] [] := by first | (simp [entryFrame, mkF, argsToLocals, Value.category, maxLocals]; done) | rfl
def Q_law31 (Z : State) (p1 : Int32) (p2 : Int32) (p3 : Int32) (p4 : Int64) (sv : Int32) (mv : Int64) (rv : Int64) (vv : Int64) (r : Addr) (fl : Addr) (h0 : Heap) (n0 : Nat) (v_ : Option Value) (h_ : Heap) (L_ : List Loc) : Prop := v_ = some (.int (1 : Int32)) ∧ Fr n0 L_
set_option maxRecDepth 65536 in
set_option maxHeartbeats 40000000 in
theorem rm_law31 (l : Launch) (Z : State) (a0 : Array Value) (hw : ∀ d ∈ tables_1, d.before a0 Z = true) (ws : List Jvm.Cond) (p1 : Int32) (p2 : Int32) (p3 : Int32) (p4 : Int64) (sv : Int32) (mv : Int64) (rv : Int64) (vv : Int64) (r : Addr) (fl : Addr) (h0 : Heap) (n0 : Nat) (Z0 : n0 ≤ h0.size) (hk : (p1 &&& (7 : Int32)) = (3 : Int32)) (hg : ¬ ((p1 >>> ((3 : Int32) &&& 31)) &&& (1 : Int32)) = 0) (hsv : ((p3 &&& (31 : Int32)) % (30 : Int32)) = sv) (hmv : ((8388608 : Int64) + ((p2 &&& (8388607 : Int32)).toInt64)) = mv) (hrv : (p4 &&& (((1 : Int64) <<< (sv.toInt64 &&& 63)) - (1 : Int64))) = rv) (hvv : ((mv <<< (sv.toInt64 &&& 63)) + rv) = vv) (hnn : Jvm.Free.Fl.NoNaN64 (FP.dneg (FP.l2d vv))) (S_SampleType_INT16 : Sta Z h0 "com/example/greenweft/greenweft/map/SampleType" "INT16" "Lcom/example/greenweft/greenweft/map/SampleType;" (.ref r)) (S_SampleType_FLOAT32 : Sta Z h0 "com/example/greenweft/greenweft/map/SampleType" "FLOAT32" "Lcom/example/greenweft/greenweft/map/SampleType;" (.ref fl)) (n1 : r ≠ fl) (E_r : Exa Z h0 r "com/example/greenweft/greenweft/map/SampleType") :
    MetFree l x (head1 (Jvm.Cond.code x code maxLocals ret :: ws) room_1) (fun aa_ U_ => aa_ = #[(.int p1), (.int p2), (.int p3), (.long p4)] ∧ Z.Warmed39 U_.vm ∧ U_.heap = h0) (fun _ _ _ _ _ => True) (fun _ U_ o_ U'_ => ∃ v_ L_, o_ = .returned v_ ∧ Q_law31 Z p1 p2 p3 p4 sv mv rv vv r fl h0 n0 v_ U'_.heap L_ ∧ FrameEnd U_ o_ U'_ L_ 0 0) := by
  refine MetFree.of_bodySF (plainFor_of_name pn_0) hisR ?_
  intro pP eE sS mM argsA below meth cC s₁ Bd hml0 hP hK
  obtain ⟨rfl, hZ, hh⟩ := hP
  have hx := Bd.exec
  have hby := Bd.bytes
  have hml : cC.maxLocals = 25 := hml0
  have hown : sS.vm.findClass "com/example/greenweft/greenweft/map/SampleTypeStoredPinLaw" = some mM.cls := findClass_of_methodNamed Bd.named
  have hnm := (name_of_methodNamed Bd.named Bd.method).1
  have X0 : Stand pP l eE room_1 sS mM #[(.int p1), (.int p2), (.int p3), (.long p4)] below meth cC s₁ [] 0 0 := Stand.of_body Bd
  have e0 : s₁.heap = h0 := by rw [← hh, Bd.state]; rfl
  have N0 := Fr.nil n0
  have pre0 : ∀ t_, Steps pP.tables eE below (s₁.setTop (mkF mM 0 #[.val (.int p1), .val (.int p2), .val (.int p3), .val (.long p4), .second, .unset, .unset, .unset, .unset, .unset, .unset, .unset, .unset, .unset, .unset, .unset, .unset, .unset, .unset, .unset, .unset, .unset, .unset, .unset, .unset] [])) t_ → Steps pP.tables eE below (s₁.setTop (entryFrame mM #[(.int p1), (.int p2), (.int p3), (.long p4)] maxLocals)) t_ := fun t_ k_ => castTop (ef_law31 mM p1 p2 p3 p4) k_
  obtain ⟨_, _, ⟨T_1, L_1, k_1, n_1⟩, -, X_1, ⟨Lc_1, hQ_1, l_1, y_1, z_1⟩, st_1⟩ := Jvm.LawKit.callS X0 hx (y := MN0) hown (mvT hZ (ow hw 0 rfl)) (mvT hZ (ow hw 1 rfl)) (mvT hZ (ow hw 2 rfl)) (mvT hZ (ow hw 3 rfl)) (by decide) (backOf (W := 0) (rm_pick3 l Z a0 hw [] r h0 n0 Z0 S_SampleType_INT16) hZ (ow hw 3 rfl) (ow hw 2 rfl) (by decide) (by decide)) (g := (mkF mM 23 (lc61 p1 p2 p3 p4) [(.int (3 : Int32))])) rfl (by rw [hml]; rfl) (argsL := [(.int (3 : Int32))]) (rest := []) (lenOf pd_0 rfl) rfl (by show 2 * 0 + _ ≤ _; exact Nat.le_of_eq rfl) (hb hby at_23) (fun _ _ => ⟨rfl, e0, (by decide : 0 + 0 ≤ _), (by decide : 0 + 0 ≤ _)⟩)
  dsimp only [Pt.U, Pt.locs, Pt.cells, Pt.slots] at X_1 l_1 y_1 z_1 st_1 hQ_1
  subst l_1 y_1 z_1
  obtain ⟨rfl, N_1q, eh_1⟩ := hQ_1
  have N_1 := Fr.app N0 N_1q
  obtain ⟨cq_2, kq_2, q_2a, q_2b, q_2c⟩ := isOf hZ eh_1 E_r
  obtain ⟨_, _, ⟨T_2, L_2, k_2, n_2⟩, -, X_2, ⟨Lc_2, hQ_2, l_2, y_2, z_2⟩, st_2⟩ := X_1.virtualBack hx (y := MN1) (z := MN1) hown (mvT hZ (ow hw 9 rfl)) (mvT hZ (ow hw 10 rfl)) (notFace_of_selects (args := #[]) (mvT hZ (ow hw 12 rfl))) (mvT hZ (ow hw 12 rfl)) (mvT hZ (ow hw 11 rfl)) (by decide) (backOf (W := 0) (rm_sto l Z a0 hw [] r fl (FP.dneg (FP.l2d vv)) h0 n0 Z0 S_SampleType_FLOAT32 n1) hZ (ow hw 13 rfl) (ow hw 5 rfl) (by decide) (by decide)) q_2a q_2c (g := (mkF mM 89 (lc67 p1 p2 p3 p4 r sv mv rv vv) [(.double (FP.dneg (FP.l2d vv))), (.ref r)])) rfl (by rw [hml]; rfl) (Steps.refl _) (argsL := [(.double (FP.dneg (FP.l2d vv)))]) (rest := []) (lenOf pd_1 rfl) rfl (by show 2 * 0 + _ ≤ _; exact Nat.le_of_eq rfl) (hb hby at_89) (fun _ _ => ⟨rfl, eh_1, (by decide : 0 + 0 ≤ _), (by decide : 0 + 0 ≤ _)⟩)
  dsimp only [Pt.U, Pt.locs, Pt.cells, Pt.slots] at X_2 l_2 y_2 z_2 st_2 hQ_2
  subst l_2 y_2 z_2
  obtain ⟨rfl, N_2q, eh_2⟩ := hQ_2
  have N_2 := Fr.app N_1 N_2q
  obtain ⟨fs, hr, hrun, hended, hW, hsame⟩ := X_2.leave (v := some (.int (1 : Int32))) (fun h => by rw [Bd.returns] at h; cases h)
  refine ⟨_, _, pre0 _ ?_, hrun, hended, _, _, rfl, ?_, ⟨_, rfl⟩, hW, hsame.mono (by decide) (by decide)⟩
  · show oS pP eE below s₁ (mkF mM 0 (lc0 p1 p2 p3 p4) []) _
    refine XS.iloadN X0.here hx rfl (hb hby at_0) rfl ?_
    refine XS.bipush X0.here hx rfl (hb hby at_1) ?_
    show oS pP eE below s₁ (mkF mM 3 (lc0 p1 p2 p3 p4) [(.int (7 : Int32)), (.int p1)]) _
    refine XS.iand X0.here hx rfl (hb hby at_3) rfl ?_
    show Steps pP.tables eE below (s₁.setTop (mkF mM 4 (lc0 p1 p2 p3 p4) [(.int (p1 &&& (7 : Int32)))])) _
    rw [hk]
    refine XS.istore X0.here hx rfl (hb hby at_4) rfl (l' := (lc52 p1 p2 p3 p4)) rfl ?_
    refine XS.iloadN X0.here hx rfl (hb hby at_6) rfl ?_
    refine XS.iconst X0.here hx rfl (hb hby at_7) ?_
    show oS pP eE below s₁ (mkF mM 8 (lc52 p1 p2 p3 p4) [(.int (3 : Int32)), (.int p1)]) _
    refine XT.ishr X0.here hx rfl (hb hby at_8) rfl ?_
    refine XS.iconst X0.here hx rfl (hb hby at_9) ?_
    show oS pP eE below s₁ (mkF mM 10 (lc52 p1 p2 p3 p4) [(.int (1 : Int32)), (.int (p1 >>> ((3 : Int32) &&& 31)))]) _
    refine XS.iand X0.here hx rfl (hb hby at_10) rfl ?_
    refine XS.ifNo X0.here hx rfl (hb hby at_11) rfl (XT.i0_eq_f hg) ?_
    refine XS.iconst X0.here hx rfl (hb hby at_14) ?_
    refine XS.goto X0.here hx rfl (pc0 := 15) (pc' := 19) rfl (hb hby at_15) (by decide) (by decide) ?_
    refine XS.istore X0.here hx rfl (hb hby at_19) rfl (l' := (lc61 p1 p2 p3 p4)) rfl ?_
    refine XS.iload X0.here hx rfl (hb hby at_21) rfl ?_
    show oS pP eE below s₁ (mkF mM 23 (lc61 p1 p2 p3 p4) [(.int (3 : Int32))]) _
    refine st_1 _ ?_
    show oS pP eE below T_1 (mkF mM 26 (lc61 p1 p2 p3 p4) [(.ref r)]) _
    refine XS.astore X_1.here hx rfl (hb hby at_26) rfl rfl (l' := (lc62 p1 p2 p3 p4 r)) rfl ?_
    refine XS.iloadN X_1.here hx rfl (hb hby at_28) rfl ?_
    refine XS.bipush X_1.here hx rfl (hb hby at_29) ?_
    show oS pP eE below T_1 (mkF mM 31 (lc62 p1 p2 p3 p4 r) [(.int (31 : Int32)), (.int p3)]) _
    refine XS.iand X_1.here hx rfl (hb hby at_31) rfl ?_
    refine XS.bipush X_1.here hx rfl (hb hby at_32) ?_
    show oS pP eE below T_1 (mkF mM 34 (lc62 p1 p2 p3 p4 r) [(.int (30 : Int32)), (.int (p3 &&& (31 : Int32)))]) _
    refine iremM X_1 hx rfl (hb hby at_34) rfl (by decide) ?_
    show Steps pP.tables eE below (T_1.setTop (mkF mM 35 (lc62 p1 p2 p3 p4 r) [(.int ((p3 &&& (31 : Int32)) % (30 : Int32)))])) _
    rw [hsv]
    refine XS.istore X_1.here hx rfl (hb hby at_35) rfl (l' := (lc63 p1 p2 p3 p4 r sv)) rfl ?_
    show oS pP eE below T_1 (mkF mM 37 (lc63 p1 p2 p3 p4 r sv) []) _
    refine X_1.ldc2J hx hown (mvT hZ (ow hw 7 rfl)) (g := (mkF mM 37 (lc63 p1 p2 p3 p4 r sv) [])) rfl (hb hby at_37) ?_
    refine XS.iloadN X_1.here hx rfl (hb hby at_40) rfl ?_
    show oS pP eE below T_1 (mkF mM 41 (lc63 p1 p2 p3 p4 r sv) [(.int p2), (.long (8388608 : Int64))]) _
    refine X_1.ldcI hx hown (mvT hZ (ow hw 8 rfl)) (g := (mkF mM 41 (lc63 p1 p2 p3 p4 r sv) [(.int p2), (.long (8388608 : Int64))])) rfl (hb hby at_41) ?_
    show oS pP eE below T_1 (mkF mM 43 (lc63 p1 p2 p3 p4 r sv) [(.int (8388607 : Int32)), (.int p2), (.long (8388608 : Int64))]) _
    refine XS.iand X_1.here hx rfl (hb hby at_43) rfl ?_
    show oS pP eE below T_1 (mkF mM 44 (lc63 p1 p2 p3 p4 r sv) [(.int (p2 &&& (8388607 : Int32))), (.long (8388608 : Int64))]) _
    refine XT.i2l X_1.here hx rfl (hb hby at_44) rfl ?_
    show oS pP eE below T_1 (mkF mM 45 (lc63 p1 p2 p3 p4 r sv) [(.long ((p2 &&& (8388607 : Int32)).toInt64)), (.long (8388608 : Int64))]) _
    refine XT.ladd X_1.here hx rfl (hb hby at_45) rfl ?_
    show Steps pP.tables eE below (T_1.setTop (mkF mM 46 (lc63 p1 p2 p3 p4 r sv) [(.long ((8388608 : Int64) + ((p2 &&& (8388607 : Int32)).toInt64)))])) _
    rw [hmv]
    refine XT.lstore X_1.here hx rfl (hb hby at_46) rfl (l' := (lc64 p1 p2 p3 p4 r sv mv)) rfl ?_
    refine XT.lloadN X_1.here hx rfl (hb hby at_48) rfl ?_
    refine XT.lconst X_1.here hx rfl (hb hby at_49) ?_
    refine XS.iload X_1.here hx rfl (hb hby at_50) rfl ?_
    show oS pP eE below T_1 (mkF mM 52 (lc64 p1 p2 p3 p4 r sv mv) [(.int sv), (.long (1 : Int64)), (.long p4)]) _
    refine XT.lshl X_1.here hx rfl (hb hby at_52) rfl ?_
    refine XT.lconst X_1.here hx rfl (hb hby at_53) ?_
    show oS pP eE below T_1 (mkF mM 54 (lc64 p1 p2 p3 p4 r sv mv) [(.long (1 : Int64)), (.long ((1 : Int64) <<< (sv.toInt64 &&& 63))), (.long p4)]) _
    refine XT.lsub X_1.here hx rfl (hb hby at_54) rfl ?_
    show oS pP eE below T_1 (mkF mM 55 (lc64 p1 p2 p3 p4 r sv mv) [(.long (((1 : Int64) <<< (sv.toInt64 &&& 63)) - (1 : Int64))), (.long p4)]) _
    refine XT.land X_1.here hx rfl (hb hby at_55) rfl ?_
    show Steps pP.tables eE below (T_1.setTop (mkF mM 56 (lc64 p1 p2 p3 p4 r sv mv) [(.long (p4 &&& (((1 : Int64) <<< (sv.toInt64 &&& 63)) - (1 : Int64))))])) _
    rw [hrv]
    refine XT.lstore X_1.here hx rfl (hb hby at_56) rfl (l' := (lc65 p1 p2 p3 p4 r sv mv rv)) rfl ?_
    refine XT.lload X_1.here hx rfl (hb hby at_58) rfl ?_
    refine XS.iload X_1.here hx rfl (hb hby at_60) rfl ?_
    show oS pP eE below T_1 (mkF mM 62 (lc65 p1 p2 p3 p4 r sv mv rv) [(.int sv), (.long mv)]) _
    refine XT.lshl X_1.here hx rfl (hb hby at_62) rfl ?_
    refine XT.lload X_1.here hx rfl (hb hby at_63) rfl ?_
    show oS pP eE below T_1 (mkF mM 65 (lc65 p1 p2 p3 p4 r sv mv rv) [(.long rv), (.long (mv <<< (sv.toInt64 &&& 63)))]) _
    refine XT.ladd X_1.here hx rfl (hb hby at_65) rfl ?_
    show Steps pP.tables eE below (T_1.setTop (mkF mM 66 (lc65 p1 p2 p3 p4 r sv mv rv) [(.long ((mv <<< (sv.toInt64 &&& 63)) + rv))])) _
    rw [hvv]
    refine XT.lstore X_1.here hx rfl (hb hby at_66) rfl (l' := (lc66 p1 p2 p3 p4 r sv mv rv vv)) rfl ?_
    refine XS.iload X_1.here hx rfl (hb hby at_68) rfl ?_
    refine XS.ifNo X_1.here hx rfl (hb hby at_70) rfl (by decide) ?_
    refine XT.lload X_1.here hx rfl (hb hby at_73) rfl ?_
    show oS pP eE below T_1 (mkF mM 75 (lc66 p1 p2 p3 p4 r sv mv rv vv) [(.long vv)]) _
    refine XS.l2dS X_1.here hx rfl (hb hby at_75) rfl rfl ?_
    show oS pP eE below T_1 (mkF mM 76 (lc66 p1 p2 p3 p4 r sv mv rv vv) [(.double (FP.l2d vv))]) _
    refine XS.dnegS X_1.here hx rfl (hb hby at_76) rfl rfl ?_
    refine XS.goto X_1.here hx rfl (pc0 := 77) (pc' := 83) rfl (hb hby at_77) (by decide) (by decide) ?_
    show oS pP eE below T_1 (mkF mM 83 (lc66 p1 p2 p3 p4 r sv mv rv vv) [(.double (FP.dneg (FP.l2d vv)))]) _
    refine XS.dstore X_1.here hx rfl (hb hby at_83) rfl (l' := (lc67 p1 p2 p3 p4 r sv mv rv vv)) rfl ?_
    refine XS.aload X_1.here hx rfl (hb hby at_85) rfl rfl ?_
    show oS pP eE below T_1 (mkF mM 87 (lc67 p1 p2 p3 p4 r sv mv rv vv) [(.ref r)]) _
    refine XS.dload X_1.here hx rfl (hb hby at_87) rfl ?_
    show oS pP eE below T_1 (mkF mM 89 (lc67 p1 p2 p3 p4 r sv mv rv vv) [(.double (FP.dneg (FP.l2d vv))), (.ref r)]) _
    refine st_2.trans ?_
    show oS pP eE below T_2 (mkF mM 92 (lc67 p1 p2 p3 p4 r sv mv rv vv) [(.double (FP.dneg (FP.l2d vv)))]) _
    refine XS.dstore X_2.here hx rfl (hb hby at_92) rfl (l' := (lc68 p1 p2 p3 p4 r sv mv rv vv)) rfl ?_
    refine XS.iload X_2.here hx rfl (hb hby at_94) rfl ?_
    refine XS.bipush X_2.here hx rfl (hb hby at_96) ?_
    refine XS.icmpNo X_2.here hx rfl (hb hby at_98) rfl (by decide) ?_
    show oS pP eE below T_2 (mkF mM 101 (lc68 p1 p2 p3 p4 r sv mv rv vv) []) _
    refine XS.dload X_2.here hx rfl (hb hby at_101) rfl ?_
    show oS pP eE below T_2 (mkF mM 103 (lc68 p1 p2 p3 p4 r sv mv rv vv) [(.double (FP.dneg (FP.l2d vv)))]) _
    refine XS.dload X_2.here hx rfl (hb hby at_103) rfl ?_
    show oS pP eE below T_2 (mkF mM 105 (lc68 p1 p2 p3 p4 r sv mv rv vv) [(.double (FP.dneg (FP.l2d vv))), (.double (FP.dneg (FP.l2d vv)))]) _
    refine XS.dcmpS X_2.here hx rfl (hb hby at_105) rfl rfl ?_
    refine XS.ifNo X_2.here hx rfl (hb hby at_106) rfl (XT.i0_ne_f (dcmpV_self hnn .l)) ?_
    refine XS.iconst X_2.here hx rfl (hb hby at_109) ?_
    refine XS.goto X_2.here hx rfl (pc0 := 110) (pc' := 114) rfl (hb hby at_110) (by decide) (by decide) ?_
    show oS pP eE below T_2 (mkF mM 114 (lc68 p1 p2 p3 p4 r sv mv rv vv) [(.int (1 : Int32))]) _
    exact retN X_2 hx (t := .boolean) Bd.returns (by simp) (hb hby at_114) hr
  · show Q_law31 Z p1 p2 p3 p4 sv mv rv vv r fl h0 n0 _ T_2.heap _
    exact ⟨rfl, N_2⟩
abbrev lc69 (p1 : Int32) (p2 : Int32) (p3 : Int32) (p4 : Int64) : Array Slot := #[.val (.int p1), .val (.int p2), .val (.int p3), .val (.long p4), .second, .val (.int (4 : Int32)), .unset, .unset, .unset, .unset, .unset, .unset, .unset, .unset, .unset, .unset, .unset, .unset, .unset, .unset, .unset, .unset, .unset, .unset, .unset]
abbrev lc70 (p1 : Int32) (p2 : Int32) (p3 : Int32) (p4 : Int64) : Array Slot := #[.val (.int p1), .val (.int p2), .val (.int p3), .val (.long p4), .second, .val (.int (4 : Int32)), .val (.int (0 : Int32)), .unset, .unset, .unset, .unset, .unset, .unset, .unset, .unset, .unset, .unset, .unset, .unset, .unset, .unset, .unset, .unset, .unset, .unset]
abbrev lc71 (p1 : Int32) (p2 : Int32) (p3 : Int32) (p4 : Int64) (r : Addr) : Array Slot := #[.val (.int p1), .val (.int p2), .val (.int p3), .val (.long p4), .second, .val (.int (4 : Int32)), .val (.int (0 : Int32)), .val (.ref r), .unset, .unset, .unset, .unset, .unset, .unset, .unset, .unset, .unset, .unset, .unset, .unset, .unset, .unset, .unset, .unset, .unset]
abbrev lc72 (p1 : Int32) (p2 : Int32) (p3 : Int32) (p4 : Int64) (r : Addr) (sv : Int32) : Array Slot := #[.val (.int p1), .val (.int p2), .val (.int p3), .val (.long p4), .second, .val (.int (4 : Int32)), .val (.int (0 : Int32)), .val (.ref r), .val (.int sv), .unset, .unset, .unset, .unset, .unset, .unset, .unset, .unset, .unset, .unset, .unset, .unset, .unset, .unset, .unset, .unset]
abbrev lc73 (p1 : Int32) (p2 : Int32) (p3 : Int32) (p4 : Int64) (r : Addr) (sv : Int32) (mv : Int64) : Array Slot := #[.val (.int p1), .val (.int p2), .val (.int p3), .val (.long p4), .second, .val (.int (4 : Int32)), .val (.int (0 : Int32)), .val (.ref r), .val (.int sv), .val (.long mv), .second, .unset, .unset, .unset, .unset, .unset, .unset, .unset, .unset, .unset, .unset, .unset, .unset, .unset, .unset]
abbrev lc74 (p1 : Int32) (p2 : Int32) (p3 : Int32) (p4 : Int64) (r : Addr) (sv : Int32) (mv : Int64) (rv : Int64) : Array Slot := #[.val (.int p1), .val (.int p2), .val (.int p3), .val (.long p4), .second, .val (.int (4 : Int32)), .val (.int (0 : Int32)), .val (.ref r), .val (.int sv), .val (.long mv), .second, .val (.long rv), .second, .unset, .unset, .unset, .unset, .unset, .unset, .unset, .unset, .unset, .unset, .unset, .unset]
abbrev lc75 (p1 : Int32) (p2 : Int32) (p3 : Int32) (p4 : Int64) (r : Addr) (sv : Int32) (mv : Int64) (rv : Int64) (vv : Int64) : Array Slot := #[.val (.int p1), .val (.int p2), .val (.int p3), .val (.long p4), .second, .val (.int (4 : Int32)), .val (.int (0 : Int32)), .val (.ref r), .val (.int sv), .val (.long mv), .second, .val (.long rv), .second, .val (.long vv), .second, .unset, .unset, .unset, .unset, .unset, .unset, .unset, .unset, .unset, .unset]
abbrev lc76 (p1 : Int32) (p2 : Int32) (p3 : Int32) (p4 : Int64) (r : Addr) (sv : Int32) (mv : Int64) (rv : Int64) (vv : Int64) : Array Slot := #[.val (.int p1), .val (.int p2), .val (.int p3), .val (.long p4), .second, .val (.int (4 : Int32)), .val (.int (0 : Int32)), .val (.ref r), .val (.int sv), .val (.long mv), .second, .val (.long rv), .second, .val (.long vv), .second, .val (.double (FP.l2d vv)), .second, .unset, .unset, .unset, .unset, .unset, .unset, .unset, .unset]
abbrev lc77 (p1 : Int32) (p2 : Int32) (p3 : Int32) (p4 : Int64) (r : Addr) (sv : Int32) (mv : Int64) (rv : Int64) (vv : Int64) : Array Slot := #[.val (.int p1), .val (.int p2), .val (.int p3), .val (.long p4), .second, .val (.int (4 : Int32)), .val (.int (0 : Int32)), .val (.ref r), .val (.int sv), .val (.long mv), .second, .val (.long rv), .second, .val (.long vv), .second, .val (.double (FP.l2d vv)), .second, .val (.double (FP.l2d vv)), .second, .unset, .unset, .unset, .unset, .unset, .unset]
theorem ef_law40 (mM : MethodId) (x0 : Int32) (x1 : Int32) (x2 : Int32) (x3 : Int64) : entryFrame mM #[(.int x0), (.int x1), (.int x2), (.long x3)] maxLocals = mkF mM 0 #[.val (.int x0), .val (.int x1), .val (.int x2), .val (.long x3), .second, .unset, .unset, .unset, .unset, .unset, .unset, .unset, .unset, .unset, .unset, .unset, .unset, .unset, .unset, .unset, .unset, .unset, .unset, .unset, .unset] [] := by first | (simp [entryFrame, mkF, argsToLocals, Value.category, maxLocals]; done) | rfl
def Q_law40 (Z : State) (p1 : Int32) (p2 : Int32) (p3 : Int32) (p4 : Int64) (sv : Int32) (mv : Int64) (rv : Int64) (vv : Int64) (r : Addr) (fl : Addr) (h0 : Heap) (n0 : Nat) (v_ : Option Value) (h_ : Heap) (L_ : List Loc) : Prop := v_ = some (.int (1 : Int32)) ∧ Fr n0 L_
set_option maxRecDepth 65536 in
set_option maxHeartbeats 40000000 in
theorem rm_law40 (l : Launch) (Z : State) (a0 : Array Value) (hw : ∀ d ∈ tables_1, d.before a0 Z = true) (ws : List Jvm.Cond) (p1 : Int32) (p2 : Int32) (p3 : Int32) (p4 : Int64) (sv : Int32) (mv : Int64) (rv : Int64) (vv : Int64) (r : Addr) (fl : Addr) (h0 : Heap) (n0 : Nat) (Z0 : n0 ≤ h0.size) (hk : (p1 &&& (7 : Int32)) = (4 : Int32)) (hg : ((p1 >>> ((3 : Int32) &&& 31)) &&& (1 : Int32)) = 0) (hsv : ((p3 &&& (31 : Int32)) % (30 : Int32)) = sv) (hmv : ((8388608 : Int64) + ((p2 &&& (8388607 : Int32)).toInt64)) = mv) (hrv : (p4 &&& (((1 : Int64) <<< (sv.toInt64 &&& 63)) - (1 : Int64))) = rv) (hvv : ((mv <<< (sv.toInt64 &&& 63)) + rv) = vv) (hnn : Jvm.Free.Fl.NoNaN64 (FP.l2d vv)) (S_SampleType_UINT32 : Sta Z h0 "com/example/greenweft/greenweft/map/SampleType" "UINT32" "Lcom/example/greenweft/greenweft/map/SampleType;" (.ref r)) (S_SampleType_FLOAT32 : Sta Z h0 "com/example/greenweft/greenweft/map/SampleType" "FLOAT32" "Lcom/example/greenweft/greenweft/map/SampleType;" (.ref fl)) (n1 : r ≠ fl) (E_r : Exa Z h0 r "com/example/greenweft/greenweft/map/SampleType") :
    MetFree l x (head1 (Jvm.Cond.code x code maxLocals ret :: ws) room_1) (fun aa_ U_ => aa_ = #[(.int p1), (.int p2), (.int p3), (.long p4)] ∧ Z.Warmed39 U_.vm ∧ U_.heap = h0) (fun _ _ _ _ _ => True) (fun _ U_ o_ U'_ => ∃ v_ L_, o_ = .returned v_ ∧ Q_law40 Z p1 p2 p3 p4 sv mv rv vv r fl h0 n0 v_ U'_.heap L_ ∧ FrameEnd U_ o_ U'_ L_ 0 0) := by
  refine MetFree.of_bodySF (plainFor_of_name pn_0) hisR ?_
  intro pP eE sS mM argsA below meth cC s₁ Bd hml0 hP hK
  obtain ⟨rfl, hZ, hh⟩ := hP
  have hx := Bd.exec
  have hby := Bd.bytes
  have hml : cC.maxLocals = 25 := hml0
  have hown : sS.vm.findClass "com/example/greenweft/greenweft/map/SampleTypeStoredPinLaw" = some mM.cls := findClass_of_methodNamed Bd.named
  have hnm := (name_of_methodNamed Bd.named Bd.method).1
  have X0 : Stand pP l eE room_1 sS mM #[(.int p1), (.int p2), (.int p3), (.long p4)] below meth cC s₁ [] 0 0 := Stand.of_body Bd
  have e0 : s₁.heap = h0 := by rw [← hh, Bd.state]; rfl
  have N0 := Fr.nil n0
  have pre0 : ∀ t_, Steps pP.tables eE below (s₁.setTop (mkF mM 0 #[.val (.int p1), .val (.int p2), .val (.int p3), .val (.long p4), .second, .unset, .unset, .unset, .unset, .unset, .unset, .unset, .unset, .unset, .unset, .unset, .unset, .unset, .unset, .unset, .unset, .unset, .unset, .unset, .unset] [])) t_ → Steps pP.tables eE below (s₁.setTop (entryFrame mM #[(.int p1), (.int p2), (.int p3), (.long p4)] maxLocals)) t_ := fun t_ k_ => castTop (ef_law40 mM p1 p2 p3 p4) k_
  obtain ⟨_, _, ⟨T_1, L_1, k_1, n_1⟩, -, X_1, ⟨Lc_1, hQ_1, l_1, y_1, z_1⟩, st_1⟩ := Jvm.LawKit.callS X0 hx (y := MN0) hown (mvT hZ (ow hw 0 rfl)) (mvT hZ (ow hw 1 rfl)) (mvT hZ (ow hw 2 rfl)) (mvT hZ (ow hw 3 rfl)) (by decide) (backOf (W := 0) (rm_pick4 l Z a0 hw [] r h0 n0 Z0 S_SampleType_UINT32) hZ (ow hw 3 rfl) (ow hw 2 rfl) (by decide) (by decide)) (g := (mkF mM 23 (lc70 p1 p2 p3 p4) [(.int (4 : Int32))])) rfl (by rw [hml]; rfl) (argsL := [(.int (4 : Int32))]) (rest := []) (lenOf pd_0 rfl) rfl (by show 2 * 0 + _ ≤ _; exact Nat.le_of_eq rfl) (hb hby at_23) (fun _ _ => ⟨rfl, e0, (by decide : 0 + 0 ≤ _), (by decide : 0 + 0 ≤ _)⟩)
  dsimp only [Pt.U, Pt.locs, Pt.cells, Pt.slots] at X_1 l_1 y_1 z_1 st_1 hQ_1
  subst l_1 y_1 z_1
  obtain ⟨rfl, N_1q, eh_1⟩ := hQ_1
  have N_1 := Fr.app N0 N_1q
  obtain ⟨cq_2, kq_2, q_2a, q_2b, q_2c⟩ := isOf hZ eh_1 E_r
  obtain ⟨_, _, ⟨T_2, L_2, k_2, n_2⟩, -, X_2, ⟨Lc_2, hQ_2, l_2, y_2, z_2⟩, st_2⟩ := X_1.virtualBack hx (y := MN1) (z := MN1) hown (mvT hZ (ow hw 9 rfl)) (mvT hZ (ow hw 10 rfl)) (notFace_of_selects (args := #[]) (mvT hZ (ow hw 12 rfl))) (mvT hZ (ow hw 12 rfl)) (mvT hZ (ow hw 11 rfl)) (by decide) (backOf (W := 0) (rm_sto l Z a0 hw [] r fl (FP.l2d vv) h0 n0 Z0 S_SampleType_FLOAT32 n1) hZ (ow hw 13 rfl) (ow hw 5 rfl) (by decide) (by decide)) q_2a q_2c (g := (mkF mM 89 (lc76 p1 p2 p3 p4 r sv mv rv vv) [(.double (FP.l2d vv)), (.ref r)])) rfl (by rw [hml]; rfl) (Steps.refl _) (argsL := [(.double (FP.l2d vv))]) (rest := []) (lenOf pd_1 rfl) rfl (by show 2 * 0 + _ ≤ _; exact Nat.le_of_eq rfl) (hb hby at_89) (fun _ _ => ⟨rfl, eh_1, (by decide : 0 + 0 ≤ _), (by decide : 0 + 0 ≤ _)⟩)
  dsimp only [Pt.U, Pt.locs, Pt.cells, Pt.slots] at X_2 l_2 y_2 z_2 st_2 hQ_2
  subst l_2 y_2 z_2
  obtain ⟨rfl, N_2q, eh_2⟩ := hQ_2
  have N_2 := Fr.app N_1 N_2q
  obtain ⟨fs, hr, hrun, hended, hW, hsame⟩ := X_2.leave (v := some (.int (1 : Int32))) (fun h => by rw [Bd.returns] at h; cases h)
  refine ⟨_, _, pre0 _ ?_, hrun, hended, _, _, rfl, ?_, ⟨_, rfl⟩, hW, hsame.mono (by decide) (by decide)⟩
  · show oS pP eE below s₁ (mkF mM 0 (lc0 p1 p2 p3 p4) []) _
    refine XS.iloadN X0.here hx rfl (hb hby at_0) rfl ?_
    refine XS.bipush X0.here hx rfl (hb hby at_1) ?_
    show oS pP eE below s₁ (mkF mM 3 (lc0 p1 p2 p3 p4) [(.int (7 : Int32)), (.int p1)]) _
    refine XS.iand X0.here hx rfl (hb hby at_3) rfl ?_
    show Steps pP.tables eE below (s₁.setTop (mkF mM 4 (lc0 p1 p2 p3 p4) [(.int (p1 &&& (7 : Int32)))])) _
    rw [hk]
    refine XS.istore X0.here hx rfl (hb hby at_4) rfl (l' := (lc69 p1 p2 p3 p4)) rfl ?_
    refine XS.iloadN X0.here hx rfl (hb hby at_6) rfl ?_
    refine XS.iconst X0.here hx rfl (hb hby at_7) ?_
    show oS pP eE below s₁ (mkF mM 8 (lc69 p1 p2 p3 p4) [(.int (3 : Int32)), (.int p1)]) _
    refine XT.ishr X0.here hx rfl (hb hby at_8) rfl ?_
    refine XS.iconst X0.here hx rfl (hb hby at_9) ?_
    show oS pP eE below s₁ (mkF mM 10 (lc69 p1 p2 p3 p4) [(.int (1 : Int32)), (.int (p1 >>> ((3 : Int32) &&& 31)))]) _
    refine XS.iand X0.here hx rfl (hb hby at_10) rfl ?_
    refine XS.ifYes X0.here hx rfl (pc0 := 11) (pc' := 18) rfl (hb hby at_11) rfl (XT.i0_eq_t hg) (by decide) (by decide) ?_
    refine XS.iconst X0.here hx rfl (hb hby at_18) ?_
    refine XS.istore X0.here hx rfl (hb hby at_19) rfl (l' := (lc70 p1 p2 p3 p4)) rfl ?_
    refine XS.iload X0.here hx rfl (hb hby at_21) rfl ?_
    show oS pP eE below s₁ (mkF mM 23 (lc70 p1 p2 p3 p4) [(.int (4 : Int32))]) _
    refine st_1 _ ?_
    show oS pP eE below T_1 (mkF mM 26 (lc70 p1 p2 p3 p4) [(.ref r)]) _
    refine XS.astore X_1.here hx rfl (hb hby at_26) rfl rfl (l' := (lc71 p1 p2 p3 p4 r)) rfl ?_
    refine XS.iloadN X_1.here hx rfl (hb hby at_28) rfl ?_
    refine XS.bipush X_1.here hx rfl (hb hby at_29) ?_
    show oS pP eE below T_1 (mkF mM 31 (lc71 p1 p2 p3 p4 r) [(.int (31 : Int32)), (.int p3)]) _
    refine XS.iand X_1.here hx rfl (hb hby at_31) rfl ?_
    refine XS.bipush X_1.here hx rfl (hb hby at_32) ?_
    show oS pP eE below T_1 (mkF mM 34 (lc71 p1 p2 p3 p4 r) [(.int (30 : Int32)), (.int (p3 &&& (31 : Int32)))]) _
    refine iremM X_1 hx rfl (hb hby at_34) rfl (by decide) ?_
    show Steps pP.tables eE below (T_1.setTop (mkF mM 35 (lc71 p1 p2 p3 p4 r) [(.int ((p3 &&& (31 : Int32)) % (30 : Int32)))])) _
    rw [hsv]
    refine XS.istore X_1.here hx rfl (hb hby at_35) rfl (l' := (lc72 p1 p2 p3 p4 r sv)) rfl ?_
    show oS pP eE below T_1 (mkF mM 37 (lc72 p1 p2 p3 p4 r sv) []) _
    refine X_1.ldc2J hx hown (mvT hZ (ow hw 7 rfl)) (g := (mkF mM 37 (lc72 p1 p2 p3 p4 r sv) [])) rfl (hb hby at_37) ?_
    refine XS.iloadN X_1.here hx rfl (hb hby at_40) rfl ?_
    show oS pP eE below T_1 (mkF mM 41 (lc72 p1 p2 p3 p4 r sv) [(.int p2), (.long (8388608 : Int64))]) _
    refine X_1.ldcI hx hown (mvT hZ (ow hw 8 rfl)) (g := (mkF mM 41 (lc72 p1 p2 p3 p4 r sv) [(.int p2), (.long (8388608 : Int64))])) rfl (hb hby at_41) ?_
    show oS pP eE below T_1 (mkF mM 43 (lc72 p1 p2 p3 p4 r sv) [(.int (8388607 : Int32)), (.int p2), (.long (8388608 : Int64))]) _
    refine XS.iand X_1.here hx rfl (hb hby at_43) rfl ?_
    show oS pP eE below T_1 (mkF mM 44 (lc72 p1 p2 p3 p4 r sv) [(.int (p2 &&& (8388607 : Int32))), (.long (8388608 : Int64))]) _
    refine XT.i2l X_1.here hx rfl (hb hby at_44) rfl ?_
    show oS pP eE below T_1 (mkF mM 45 (lc72 p1 p2 p3 p4 r sv) [(.long ((p2 &&& (8388607 : Int32)).toInt64)), (.long (8388608 : Int64))]) _
    refine XT.ladd X_1.here hx rfl (hb hby at_45) rfl ?_
    show Steps pP.tables eE below (T_1.setTop (mkF mM 46 (lc72 p1 p2 p3 p4 r sv) [(.long ((8388608 : Int64) + ((p2 &&& (8388607 : Int32)).toInt64)))])) _
    rw [hmv]
    refine XT.lstore X_1.here hx rfl (hb hby at_46) rfl (l' := (lc73 p1 p2 p3 p4 r sv mv)) rfl ?_
    refine XT.lloadN X_1.here hx rfl (hb hby at_48) rfl ?_
    refine XT.lconst X_1.here hx rfl (hb hby at_49) ?_
    refine XS.iload X_1.here hx rfl (hb hby at_50) rfl ?_
    show oS pP eE below T_1 (mkF mM 52 (lc73 p1 p2 p3 p4 r sv mv) [(.int sv), (.long (1 : Int64)), (.long p4)]) _
    refine XT.lshl X_1.here hx rfl (hb hby at_52) rfl ?_
    refine XT.lconst X_1.here hx rfl (hb hby at_53) ?_
    show oS pP eE below T_1 (mkF mM 54 (lc73 p1 p2 p3 p4 r sv mv) [(.long (1 : Int64)), (.long ((1 : Int64) <<< (sv.toInt64 &&& 63))), (.long p4)]) _
    refine XT.lsub X_1.here hx rfl (hb hby at_54) rfl ?_
    show oS pP eE below T_1 (mkF mM 55 (lc73 p1 p2 p3 p4 r sv mv) [(.long (((1 : Int64) <<< (sv.toInt64 &&& 63)) - (1 : Int64))), (.long p4)]) _
    refine XT.land X_1.here hx rfl (hb hby at_55) rfl ?_
    show Steps pP.tables eE below (T_1.setTop (mkF mM 56 (lc73 p1 p2 p3 p4 r sv mv) [(.long (p4 &&& (((1 : Int64) <<< (sv.toInt64 &&& 63)) - (1 : Int64))))])) _
    rw [hrv]
    refine XT.lstore X_1.here hx rfl (hb hby at_56) rfl (l' := (lc74 p1 p2 p3 p4 r sv mv rv)) rfl ?_
    refine XT.lload X_1.here hx rfl (hb hby at_58) rfl ?_
    refine XS.iload X_1.here hx rfl (hb hby at_60) rfl ?_
    show oS pP eE below T_1 (mkF mM 62 (lc74 p1 p2 p3 p4 r sv mv rv) [(.int sv), (.long mv)]) _
    refine XT.lshl X_1.here hx rfl (hb hby at_62) rfl ?_
    refine XT.lload X_1.here hx rfl (hb hby at_63) rfl ?_
    show oS pP eE below T_1 (mkF mM 65 (lc74 p1 p2 p3 p4 r sv mv rv) [(.long rv), (.long (mv <<< (sv.toInt64 &&& 63)))]) _
    refine XT.ladd X_1.here hx rfl (hb hby at_65) rfl ?_
    show Steps pP.tables eE below (T_1.setTop (mkF mM 66 (lc74 p1 p2 p3 p4 r sv mv rv) [(.long ((mv <<< (sv.toInt64 &&& 63)) + rv))])) _
    rw [hvv]
    refine XT.lstore X_1.here hx rfl (hb hby at_66) rfl (l' := (lc75 p1 p2 p3 p4 r sv mv rv vv)) rfl ?_
    refine XS.iload X_1.here hx rfl (hb hby at_68) rfl ?_
    refine XS.ifYes X_1.here hx rfl (pc0 := 70) (pc' := 80) rfl (hb hby at_70) rfl (by decide) (by decide) (by decide) ?_
    refine XT.lload X_1.here hx rfl (hb hby at_80) rfl ?_
    show oS pP eE below T_1 (mkF mM 82 (lc75 p1 p2 p3 p4 r sv mv rv vv) [(.long vv)]) _
    refine XS.l2dS X_1.here hx rfl (hb hby at_82) rfl rfl ?_
    show oS pP eE below T_1 (mkF mM 83 (lc75 p1 p2 p3 p4 r sv mv rv vv) [(.double (FP.l2d vv))]) _
    refine XS.dstore X_1.here hx rfl (hb hby at_83) rfl (l' := (lc76 p1 p2 p3 p4 r sv mv rv vv)) rfl ?_
    refine XS.aload X_1.here hx rfl (hb hby at_85) rfl rfl ?_
    show oS pP eE below T_1 (mkF mM 87 (lc76 p1 p2 p3 p4 r sv mv rv vv) [(.ref r)]) _
    refine XS.dload X_1.here hx rfl (hb hby at_87) rfl ?_
    show oS pP eE below T_1 (mkF mM 89 (lc76 p1 p2 p3 p4 r sv mv rv vv) [(.double (FP.l2d vv)), (.ref r)]) _
    refine st_2.trans ?_
    show oS pP eE below T_2 (mkF mM 92 (lc76 p1 p2 p3 p4 r sv mv rv vv) [(.double (FP.l2d vv))]) _
    refine XS.dstore X_2.here hx rfl (hb hby at_92) rfl (l' := (lc77 p1 p2 p3 p4 r sv mv rv vv)) rfl ?_
    refine XS.iload X_2.here hx rfl (hb hby at_94) rfl ?_
    refine XS.bipush X_2.here hx rfl (hb hby at_96) ?_
    refine XS.icmpNo X_2.here hx rfl (hb hby at_98) rfl (by decide) ?_
    show oS pP eE below T_2 (mkF mM 101 (lc77 p1 p2 p3 p4 r sv mv rv vv) []) _
    refine XS.dload X_2.here hx rfl (hb hby at_101) rfl ?_
    show oS pP eE below T_2 (mkF mM 103 (lc77 p1 p2 p3 p4 r sv mv rv vv) [(.double (FP.l2d vv))]) _
    refine XS.dload X_2.here hx rfl (hb hby at_103) rfl ?_
    show oS pP eE below T_2 (mkF mM 105 (lc77 p1 p2 p3 p4 r sv mv rv vv) [(.double (FP.l2d vv)), (.double (FP.l2d vv))]) _
    refine XS.dcmpS X_2.here hx rfl (hb hby at_105) rfl rfl ?_
    refine XS.ifNo X_2.here hx rfl (hb hby at_106) rfl (XT.i0_ne_f (dcmpV_self hnn .l)) ?_
    refine XS.iconst X_2.here hx rfl (hb hby at_109) ?_
    refine XS.goto X_2.here hx rfl (pc0 := 110) (pc' := 114) rfl (hb hby at_110) (by decide) (by decide) ?_
    show oS pP eE below T_2 (mkF mM 114 (lc77 p1 p2 p3 p4 r sv mv rv vv) [(.int (1 : Int32))]) _
    exact retN X_2 hx (t := .boolean) Bd.returns (by simp) (hb hby at_114) hr
  · show Q_law40 Z p1 p2 p3 p4 sv mv rv vv r fl h0 n0 _ T_2.heap _
    exact ⟨rfl, N_2⟩
abbrev lc78 (p1 : Int32) (p2 : Int32) (p3 : Int32) (p4 : Int64) : Array Slot := #[.val (.int p1), .val (.int p2), .val (.int p3), .val (.long p4), .second, .val (.int (4 : Int32)), .val (.int (1 : Int32)), .unset, .unset, .unset, .unset, .unset, .unset, .unset, .unset, .unset, .unset, .unset, .unset, .unset, .unset, .unset, .unset, .unset, .unset]
abbrev lc79 (p1 : Int32) (p2 : Int32) (p3 : Int32) (p4 : Int64) (r : Addr) : Array Slot := #[.val (.int p1), .val (.int p2), .val (.int p3), .val (.long p4), .second, .val (.int (4 : Int32)), .val (.int (1 : Int32)), .val (.ref r), .unset, .unset, .unset, .unset, .unset, .unset, .unset, .unset, .unset, .unset, .unset, .unset, .unset, .unset, .unset, .unset, .unset]
abbrev lc80 (p1 : Int32) (p2 : Int32) (p3 : Int32) (p4 : Int64) (r : Addr) (sv : Int32) : Array Slot := #[.val (.int p1), .val (.int p2), .val (.int p3), .val (.long p4), .second, .val (.int (4 : Int32)), .val (.int (1 : Int32)), .val (.ref r), .val (.int sv), .unset, .unset, .unset, .unset, .unset, .unset, .unset, .unset, .unset, .unset, .unset, .unset, .unset, .unset, .unset, .unset]
abbrev lc81 (p1 : Int32) (p2 : Int32) (p3 : Int32) (p4 : Int64) (r : Addr) (sv : Int32) (mv : Int64) : Array Slot := #[.val (.int p1), .val (.int p2), .val (.int p3), .val (.long p4), .second, .val (.int (4 : Int32)), .val (.int (1 : Int32)), .val (.ref r), .val (.int sv), .val (.long mv), .second, .unset, .unset, .unset, .unset, .unset, .unset, .unset, .unset, .unset, .unset, .unset, .unset, .unset, .unset]
abbrev lc82 (p1 : Int32) (p2 : Int32) (p3 : Int32) (p4 : Int64) (r : Addr) (sv : Int32) (mv : Int64) (rv : Int64) : Array Slot := #[.val (.int p1), .val (.int p2), .val (.int p3), .val (.long p4), .second, .val (.int (4 : Int32)), .val (.int (1 : Int32)), .val (.ref r), .val (.int sv), .val (.long mv), .second, .val (.long rv), .second, .unset, .unset, .unset, .unset, .unset, .unset, .unset, .unset, .unset, .unset, .unset, .unset]
abbrev lc83 (p1 : Int32) (p2 : Int32) (p3 : Int32) (p4 : Int64) (r : Addr) (sv : Int32) (mv : Int64) (rv : Int64) (vv : Int64) : Array Slot := #[.val (.int p1), .val (.int p2), .val (.int p3), .val (.long p4), .second, .val (.int (4 : Int32)), .val (.int (1 : Int32)), .val (.ref r), .val (.int sv), .val (.long mv), .second, .val (.long rv), .second, .val (.long vv), .second, .unset, .unset, .unset, .unset, .unset, .unset, .unset, .unset, .unset, .unset]
abbrev lc84 (p1 : Int32) (p2 : Int32) (p3 : Int32) (p4 : Int64) (r : Addr) (sv : Int32) (mv : Int64) (rv : Int64) (vv : Int64) : Array Slot := #[.val (.int p1), .val (.int p2), .val (.int p3), .val (.long p4), .second, .val (.int (4 : Int32)), .val (.int (1 : Int32)), .val (.ref r), .val (.int sv), .val (.long mv), .second, .val (.long rv), .second, .val (.long vv), .second, .val (.double (FP.dneg (FP.l2d vv))), .second, .unset, .unset, .unset, .unset, .unset, .unset, .unset, .unset]
abbrev lc85 (p1 : Int32) (p2 : Int32) (p3 : Int32) (p4 : Int64) (r : Addr) (sv : Int32) (mv : Int64) (rv : Int64) (vv : Int64) : Array Slot := #[.val (.int p1), .val (.int p2), .val (.int p3), .val (.long p4), .second, .val (.int (4 : Int32)), .val (.int (1 : Int32)), .val (.ref r), .val (.int sv), .val (.long mv), .second, .val (.long rv), .second, .val (.long vv), .second, .val (.double (FP.dneg (FP.l2d vv))), .second, .val (.double (FP.dneg (FP.l2d vv))), .second, .unset, .unset, .unset, .unset, .unset, .unset]
theorem ef_law41 (mM : MethodId) (x0 : Int32) (x1 : Int32) (x2 : Int32) (x3 : Int64) : entryFrame mM #[(.int x0), (.int x1), (.int x2), (.long x3)] maxLocals = mkF mM 0 #[.val (.int x0), .val (.int x1), .val (.int x2), .val (.long x3), .second, .unset, .unset, .unset, .unset, .unset, .unset, .unset, .unset, .unset, .unset, .unset, .unset, .unset, .unset, .unset, .unset, .unset, .unset, .unset, .unset] [] := by first | (simp [entryFrame, mkF, argsToLocals, Value.category, maxLocals]; done) | rfl
def Q_law41 (Z : State) (p1 : Int32) (p2 : Int32) (p3 : Int32) (p4 : Int64) (sv : Int32) (mv : Int64) (rv : Int64) (vv : Int64) (r : Addr) (fl : Addr) (h0 : Heap) (n0 : Nat) (v_ : Option Value) (h_ : Heap) (L_ : List Loc) : Prop := v_ = some (.int (1 : Int32)) ∧ Fr n0 L_
set_option maxRecDepth 65536 in
set_option maxHeartbeats 40000000 in
theorem rm_law41 (l : Launch) (Z : State) (a0 : Array Value) (hw : ∀ d ∈ tables_1, d.before a0 Z = true) (ws : List Jvm.Cond) (p1 : Int32) (p2 : Int32) (p3 : Int32) (p4 : Int64) (sv : Int32) (mv : Int64) (rv : Int64) (vv : Int64) (r : Addr) (fl : Addr) (h0 : Heap) (n0 : Nat) (Z0 : n0 ≤ h0.size) (hk : (p1 &&& (7 : Int32)) = (4 : Int32)) (hg : ¬ ((p1 >>> ((3 : Int32) &&& 31)) &&& (1 : Int32)) = 0) (hsv : ((p3 &&& (31 : Int32)) % (30 : Int32)) = sv) (hmv : ((8388608 : Int64) + ((p2 &&& (8388607 : Int32)).toInt64)) = mv) (hrv : (p4 &&& (((1 : Int64) <<< (sv.toInt64 &&& 63)) - (1 : Int64))) = rv) (hvv : ((mv <<< (sv.toInt64 &&& 63)) + rv) = vv) (hnn : Jvm.Free.Fl.NoNaN64 (FP.dneg (FP.l2d vv))) (S_SampleType_UINT32 : Sta Z h0 "com/example/greenweft/greenweft/map/SampleType" "UINT32" "Lcom/example/greenweft/greenweft/map/SampleType;" (.ref r)) (S_SampleType_FLOAT32 : Sta Z h0 "com/example/greenweft/greenweft/map/SampleType" "FLOAT32" "Lcom/example/greenweft/greenweft/map/SampleType;" (.ref fl)) (n1 : r ≠ fl) (E_r : Exa Z h0 r "com/example/greenweft/greenweft/map/SampleType") :
    MetFree l x (head1 (Jvm.Cond.code x code maxLocals ret :: ws) room_1) (fun aa_ U_ => aa_ = #[(.int p1), (.int p2), (.int p3), (.long p4)] ∧ Z.Warmed39 U_.vm ∧ U_.heap = h0) (fun _ _ _ _ _ => True) (fun _ U_ o_ U'_ => ∃ v_ L_, o_ = .returned v_ ∧ Q_law41 Z p1 p2 p3 p4 sv mv rv vv r fl h0 n0 v_ U'_.heap L_ ∧ FrameEnd U_ o_ U'_ L_ 0 0) := by
  refine MetFree.of_bodySF (plainFor_of_name pn_0) hisR ?_
  intro pP eE sS mM argsA below meth cC s₁ Bd hml0 hP hK
  obtain ⟨rfl, hZ, hh⟩ := hP
  have hx := Bd.exec
  have hby := Bd.bytes
  have hml : cC.maxLocals = 25 := hml0
  have hown : sS.vm.findClass "com/example/greenweft/greenweft/map/SampleTypeStoredPinLaw" = some mM.cls := findClass_of_methodNamed Bd.named
  have hnm := (name_of_methodNamed Bd.named Bd.method).1
  have X0 : Stand pP l eE room_1 sS mM #[(.int p1), (.int p2), (.int p3), (.long p4)] below meth cC s₁ [] 0 0 := Stand.of_body Bd
  have e0 : s₁.heap = h0 := by rw [← hh, Bd.state]; rfl
  have N0 := Fr.nil n0
  have pre0 : ∀ t_, Steps pP.tables eE below (s₁.setTop (mkF mM 0 #[.val (.int p1), .val (.int p2), .val (.int p3), .val (.long p4), .second, .unset, .unset, .unset, .unset, .unset, .unset, .unset, .unset, .unset, .unset, .unset, .unset, .unset, .unset, .unset, .unset, .unset, .unset, .unset, .unset] [])) t_ → Steps pP.tables eE below (s₁.setTop (entryFrame mM #[(.int p1), (.int p2), (.int p3), (.long p4)] maxLocals)) t_ := fun t_ k_ => castTop (ef_law41 mM p1 p2 p3 p4) k_
  obtain ⟨_, _, ⟨T_1, L_1, k_1, n_1⟩, -, X_1, ⟨Lc_1, hQ_1, l_1, y_1, z_1⟩, st_1⟩ := Jvm.LawKit.callS X0 hx (y := MN0) hown (mvT hZ (ow hw 0 rfl)) (mvT hZ (ow hw 1 rfl)) (mvT hZ (ow hw 2 rfl)) (mvT hZ (ow hw 3 rfl)) (by decide) (backOf (W := 0) (rm_pick4 l Z a0 hw [] r h0 n0 Z0 S_SampleType_UINT32) hZ (ow hw 3 rfl) (ow hw 2 rfl) (by decide) (by decide)) (g := (mkF mM 23 (lc78 p1 p2 p3 p4) [(.int (4 : Int32))])) rfl (by rw [hml]; rfl) (argsL := [(.int (4 : Int32))]) (rest := []) (lenOf pd_0 rfl) rfl (by show 2 * 0 + _ ≤ _; exact Nat.le_of_eq rfl) (hb hby at_23) (fun _ _ => ⟨rfl, e0, (by decide : 0 + 0 ≤ _), (by decide : 0 + 0 ≤ _)⟩)
  dsimp only [Pt.U, Pt.locs, Pt.cells, Pt.slots] at X_1 l_1 y_1 z_1 st_1 hQ_1
  subst l_1 y_1 z_1
  obtain ⟨rfl, N_1q, eh_1⟩ := hQ_1
  have N_1 := Fr.app N0 N_1q
  obtain ⟨cq_2, kq_2, q_2a, q_2b, q_2c⟩ := isOf hZ eh_1 E_r
  obtain ⟨_, _, ⟨T_2, L_2, k_2, n_2⟩, -, X_2, ⟨Lc_2, hQ_2, l_2, y_2, z_2⟩, st_2⟩ := X_1.virtualBack hx (y := MN1) (z := MN1) hown (mvT hZ (ow hw 9 rfl)) (mvT hZ (ow hw 10 rfl)) (notFace_of_selects (args := #[]) (mvT hZ (ow hw 12 rfl))) (mvT hZ (ow hw 12 rfl)) (mvT hZ (ow hw 11 rfl)) (by decide) (backOf (W := 0) (rm_sto l Z a0 hw [] r fl (FP.dneg (FP.l2d vv)) h0 n0 Z0 S_SampleType_FLOAT32 n1) hZ (ow hw 13 rfl) (ow hw 5 rfl) (by decide) (by decide)) q_2a q_2c (g := (mkF mM 89 (lc84 p1 p2 p3 p4 r sv mv rv vv) [(.double (FP.dneg (FP.l2d vv))), (.ref r)])) rfl (by rw [hml]; rfl) (Steps.refl _) (argsL := [(.double (FP.dneg (FP.l2d vv)))]) (rest := []) (lenOf pd_1 rfl) rfl (by show 2 * 0 + _ ≤ _; exact Nat.le_of_eq rfl) (hb hby at_89) (fun _ _ => ⟨rfl, eh_1, (by decide : 0 + 0 ≤ _), (by decide : 0 + 0 ≤ _)⟩)
  dsimp only [Pt.U, Pt.locs, Pt.cells, Pt.slots] at X_2 l_2 y_2 z_2 st_2 hQ_2
  subst l_2 y_2 z_2
  obtain ⟨rfl, N_2q, eh_2⟩ := hQ_2
  have N_2 := Fr.app N_1 N_2q
  obtain ⟨fs, hr, hrun, hended, hW, hsame⟩ := X_2.leave (v := some (.int (1 : Int32))) (fun h => by rw [Bd.returns] at h; cases h)
  refine ⟨_, _, pre0 _ ?_, hrun, hended, _, _, rfl, ?_, ⟨_, rfl⟩, hW, hsame.mono (by decide) (by decide)⟩
  · show oS pP eE below s₁ (mkF mM 0 (lc0 p1 p2 p3 p4) []) _
    refine XS.iloadN X0.here hx rfl (hb hby at_0) rfl ?_
    refine XS.bipush X0.here hx rfl (hb hby at_1) ?_
    show oS pP eE below s₁ (mkF mM 3 (lc0 p1 p2 p3 p4) [(.int (7 : Int32)), (.int p1)]) _
    refine XS.iand X0.here hx rfl (hb hby at_3) rfl ?_
    show Steps pP.tables eE below (s₁.setTop (mkF mM 4 (lc0 p1 p2 p3 p4) [(.int (p1 &&& (7 : Int32)))])) _
    rw [hk]
    refine XS.istore X0.here hx rfl (hb hby at_4) rfl (l' := (lc69 p1 p2 p3 p4)) rfl ?_
    refine XS.iloadN X0.here hx rfl (hb hby at_6) rfl ?_
    refine XS.iconst X0.here hx rfl (hb hby at_7) ?_
    show oS pP eE below s₁ (mkF mM 8 (lc69 p1 p2 p3 p4) [(.int (3 : Int32)), (.int p1)]) _
    refine XT.ishr X0.here hx rfl (hb hby at_8) rfl ?_
    refine XS.iconst X0.here hx rfl (hb hby at_9) ?_
    show oS pP eE below s₁ (mkF mM 10 (lc69 p1 p2 p3 p4) [(.int (1 : Int32)), (.int (p1 >>> ((3 : Int32) &&& 31)))]) _
    refine XS.iand X0.here hx rfl (hb hby at_10) rfl ?_
    refine XS.ifNo X0.here hx rfl (hb hby at_11) rfl (XT.i0_eq_f hg) ?_
    refine XS.iconst X0.here hx rfl (hb hby at_14) ?_
    refine XS.goto X0.here hx rfl (pc0 := 15) (pc' := 19) rfl (hb hby at_15) (by decide) (by decide) ?_
    refine XS.istore X0.here hx rfl (hb hby at_19) rfl (l' := (lc78 p1 p2 p3 p4)) rfl ?_
    refine XS.iload X0.here hx rfl (hb hby at_21) rfl ?_
    show oS pP eE below s₁ (mkF mM 23 (lc78 p1 p2 p3 p4) [(.int (4 : Int32))]) _
    refine st_1 _ ?_
    show oS pP eE below T_1 (mkF mM 26 (lc78 p1 p2 p3 p4) [(.ref r)]) _
    refine XS.astore X_1.here hx rfl (hb hby at_26) rfl rfl (l' := (lc79 p1 p2 p3 p4 r)) rfl ?_
    refine XS.iloadN X_1.here hx rfl (hb hby at_28) rfl ?_
    refine XS.bipush X_1.here hx rfl (hb hby at_29) ?_
    show oS pP eE below T_1 (mkF mM 31 (lc79 p1 p2 p3 p4 r) [(.int (31 : Int32)), (.int p3)]) _
    refine XS.iand X_1.here hx rfl (hb hby at_31) rfl ?_
    refine XS.bipush X_1.here hx rfl (hb hby at_32) ?_
    show oS pP eE below T_1 (mkF mM 34 (lc79 p1 p2 p3 p4 r) [(.int (30 : Int32)), (.int (p3 &&& (31 : Int32)))]) _
    refine iremM X_1 hx rfl (hb hby at_34) rfl (by decide) ?_
    show Steps pP.tables eE below (T_1.setTop (mkF mM 35 (lc79 p1 p2 p3 p4 r) [(.int ((p3 &&& (31 : Int32)) % (30 : Int32)))])) _
    rw [hsv]
    refine XS.istore X_1.here hx rfl (hb hby at_35) rfl (l' := (lc80 p1 p2 p3 p4 r sv)) rfl ?_
    show oS pP eE below T_1 (mkF mM 37 (lc80 p1 p2 p3 p4 r sv) []) _
    refine X_1.ldc2J hx hown (mvT hZ (ow hw 7 rfl)) (g := (mkF mM 37 (lc80 p1 p2 p3 p4 r sv) [])) rfl (hb hby at_37) ?_
    refine XS.iloadN X_1.here hx rfl (hb hby at_40) rfl ?_
    show oS pP eE below T_1 (mkF mM 41 (lc80 p1 p2 p3 p4 r sv) [(.int p2), (.long (8388608 : Int64))]) _
    refine X_1.ldcI hx hown (mvT hZ (ow hw 8 rfl)) (g := (mkF mM 41 (lc80 p1 p2 p3 p4 r sv) [(.int p2), (.long (8388608 : Int64))])) rfl (hb hby at_41) ?_
    show oS pP eE below T_1 (mkF mM 43 (lc80 p1 p2 p3 p4 r sv) [(.int (8388607 : Int32)), (.int p2), (.long (8388608 : Int64))]) _
    refine XS.iand X_1.here hx rfl (hb hby at_43) rfl ?_
    show oS pP eE below T_1 (mkF mM 44 (lc80 p1 p2 p3 p4 r sv) [(.int (p2 &&& (8388607 : Int32))), (.long (8388608 : Int64))]) _
    refine XT.i2l X_1.here hx rfl (hb hby at_44) rfl ?_
    show oS pP eE below T_1 (mkF mM 45 (lc80 p1 p2 p3 p4 r sv) [(.long ((p2 &&& (8388607 : Int32)).toInt64)), (.long (8388608 : Int64))]) _
    refine XT.ladd X_1.here hx rfl (hb hby at_45) rfl ?_
    show Steps pP.tables eE below (T_1.setTop (mkF mM 46 (lc80 p1 p2 p3 p4 r sv) [(.long ((8388608 : Int64) + ((p2 &&& (8388607 : Int32)).toInt64)))])) _
    rw [hmv]
    refine XT.lstore X_1.here hx rfl (hb hby at_46) rfl (l' := (lc81 p1 p2 p3 p4 r sv mv)) rfl ?_
    refine XT.lloadN X_1.here hx rfl (hb hby at_48) rfl ?_
    refine XT.lconst X_1.here hx rfl (hb hby at_49) ?_
    refine XS.iload X_1.here hx rfl (hb hby at_50) rfl ?_
    show oS pP eE below T_1 (mkF mM 52 (lc81 p1 p2 p3 p4 r sv mv) [(.int sv), (.long (1 : Int64)), (.long p4)]) _
    refine XT.lshl X_1.here hx rfl (hb hby at_52) rfl ?_
    refine XT.lconst X_1.here hx rfl (hb hby at_53) ?_
    show oS pP eE below T_1 (mkF mM 54 (lc81 p1 p2 p3 p4 r sv mv) [(.long (1 : Int64)), (.long ((1 : Int64) <<< (sv.toInt64 &&& 63))), (.long p4)]) _
    refine XT.lsub X_1.here hx rfl (hb hby at_54) rfl ?_
    show oS pP eE below T_1 (mkF mM 55 (lc81 p1 p2 p3 p4 r sv mv) [(.long (((1 : Int64) <<< (sv.toInt64 &&& 63)) - (1 : Int64))), (.long p4)]) _
    refine XT.land X_1.here hx rfl (hb hby at_55) rfl ?_
    show Steps pP.tables eE below (T_1.setTop (mkF mM 56 (lc81 p1 p2 p3 p4 r sv mv) [(.long (p4 &&& (((1 : Int64) <<< (sv.toInt64 &&& 63)) - (1 : Int64))))])) _
    rw [hrv]
    refine XT.lstore X_1.here hx rfl (hb hby at_56) rfl (l' := (lc82 p1 p2 p3 p4 r sv mv rv)) rfl ?_
    refine XT.lload X_1.here hx rfl (hb hby at_58) rfl ?_
    refine XS.iload X_1.here hx rfl (hb hby at_60) rfl ?_
    show oS pP eE below T_1 (mkF mM 62 (lc82 p1 p2 p3 p4 r sv mv rv) [(.int sv), (.long mv)]) _
    refine XT.lshl X_1.here hx rfl (hb hby at_62) rfl ?_
    refine XT.lload X_1.here hx rfl (hb hby at_63) rfl ?_
    show oS pP eE below T_1 (mkF mM 65 (lc82 p1 p2 p3 p4 r sv mv rv) [(.long rv), (.long (mv <<< (sv.toInt64 &&& 63)))]) _
    refine XT.ladd X_1.here hx rfl (hb hby at_65) rfl ?_
    show Steps pP.tables eE below (T_1.setTop (mkF mM 66 (lc82 p1 p2 p3 p4 r sv mv rv) [(.long ((mv <<< (sv.toInt64 &&& 63)) + rv))])) _
    rw [hvv]
    refine XT.lstore X_1.here hx rfl (hb hby at_66) rfl (l' := (lc83 p1 p2 p3 p4 r sv mv rv vv)) rfl ?_
    refine XS.iload X_1.here hx rfl (hb hby at_68) rfl ?_
    refine XS.ifNo X_1.here hx rfl (hb hby at_70) rfl (by decide) ?_
    refine XT.lload X_1.here hx rfl (hb hby at_73) rfl ?_
    show oS pP eE below T_1 (mkF mM 75 (lc83 p1 p2 p3 p4 r sv mv rv vv) [(.long vv)]) _
    refine XS.l2dS X_1.here hx rfl (hb hby at_75) rfl rfl ?_
    show oS pP eE below T_1 (mkF mM 76 (lc83 p1 p2 p3 p4 r sv mv rv vv) [(.double (FP.l2d vv))]) _
    refine XS.dnegS X_1.here hx rfl (hb hby at_76) rfl rfl ?_
    refine XS.goto X_1.here hx rfl (pc0 := 77) (pc' := 83) rfl (hb hby at_77) (by decide) (by decide) ?_
    show oS pP eE below T_1 (mkF mM 83 (lc83 p1 p2 p3 p4 r sv mv rv vv) [(.double (FP.dneg (FP.l2d vv)))]) _
    refine XS.dstore X_1.here hx rfl (hb hby at_83) rfl (l' := (lc84 p1 p2 p3 p4 r sv mv rv vv)) rfl ?_
    refine XS.aload X_1.here hx rfl (hb hby at_85) rfl rfl ?_
    show oS pP eE below T_1 (mkF mM 87 (lc84 p1 p2 p3 p4 r sv mv rv vv) [(.ref r)]) _
    refine XS.dload X_1.here hx rfl (hb hby at_87) rfl ?_
    show oS pP eE below T_1 (mkF mM 89 (lc84 p1 p2 p3 p4 r sv mv rv vv) [(.double (FP.dneg (FP.l2d vv))), (.ref r)]) _
    refine st_2.trans ?_
    show oS pP eE below T_2 (mkF mM 92 (lc84 p1 p2 p3 p4 r sv mv rv vv) [(.double (FP.dneg (FP.l2d vv)))]) _
    refine XS.dstore X_2.here hx rfl (hb hby at_92) rfl (l' := (lc85 p1 p2 p3 p4 r sv mv rv vv)) rfl ?_
    refine XS.iload X_2.here hx rfl (hb hby at_94) rfl ?_
    refine XS.bipush X_2.here hx rfl (hb hby at_96) ?_
    refine XS.icmpNo X_2.here hx rfl (hb hby at_98) rfl (by decide) ?_
    show oS pP eE below T_2 (mkF mM 101 (lc85 p1 p2 p3 p4 r sv mv rv vv) []) _
    refine XS.dload X_2.here hx rfl (hb hby at_101) rfl ?_
    show oS pP eE below T_2 (mkF mM 103 (lc85 p1 p2 p3 p4 r sv mv rv vv) [(.double (FP.dneg (FP.l2d vv)))]) _
    refine XS.dload X_2.here hx rfl (hb hby at_103) rfl ?_
    show oS pP eE below T_2 (mkF mM 105 (lc85 p1 p2 p3 p4 r sv mv rv vv) [(.double (FP.dneg (FP.l2d vv))), (.double (FP.dneg (FP.l2d vv)))]) _
    refine XS.dcmpS X_2.here hx rfl (hb hby at_105) rfl rfl ?_
    refine XS.ifNo X_2.here hx rfl (hb hby at_106) rfl (XT.i0_ne_f (dcmpV_self hnn .l)) ?_
    refine XS.iconst X_2.here hx rfl (hb hby at_109) ?_
    refine XS.goto X_2.here hx rfl (pc0 := 110) (pc' := 114) rfl (hb hby at_110) (by decide) (by decide) ?_
    show oS pP eE below T_2 (mkF mM 114 (lc85 p1 p2 p3 p4 r sv mv rv vv) [(.int (1 : Int32))]) _
    exact retN X_2 hx (t := .boolean) Bd.returns (by simp) (hb hby at_114) hr
  · show Q_law41 Z p1 p2 p3 p4 sv mv rv vv r fl h0 n0 _ T_2.heap _
    exact ⟨rfl, N_2⟩
abbrev lc86 (p1 : Int32) (p2 : Int32) (p3 : Int32) (p4 : Int64) : Array Slot := #[.val (.int p1), .val (.int p2), .val (.int p3), .val (.long p4), .second, .val (.int (5 : Int32)), .unset, .unset, .unset, .unset, .unset, .unset, .unset, .unset, .unset, .unset, .unset, .unset, .unset, .unset, .unset, .unset, .unset, .unset, .unset]
abbrev lc87 (p1 : Int32) (p2 : Int32) (p3 : Int32) (p4 : Int64) : Array Slot := #[.val (.int p1), .val (.int p2), .val (.int p3), .val (.long p4), .second, .val (.int (5 : Int32)), .val (.int (0 : Int32)), .unset, .unset, .unset, .unset, .unset, .unset, .unset, .unset, .unset, .unset, .unset, .unset, .unset, .unset, .unset, .unset, .unset, .unset]
abbrev lc88 (p1 : Int32) (p2 : Int32) (p3 : Int32) (p4 : Int64) (r : Addr) : Array Slot := #[.val (.int p1), .val (.int p2), .val (.int p3), .val (.long p4), .second, .val (.int (5 : Int32)), .val (.int (0 : Int32)), .val (.ref r), .unset, .unset, .unset, .unset, .unset, .unset, .unset, .unset, .unset, .unset, .unset, .unset, .unset, .unset, .unset, .unset, .unset]
abbrev lc89 (p1 : Int32) (p2 : Int32) (p3 : Int32) (p4 : Int64) (r : Addr) (sv : Int32) : Array Slot := #[.val (.int p1), .val (.int p2), .val (.int p3), .val (.long p4), .second, .val (.int (5 : Int32)), .val (.int (0 : Int32)), .val (.ref r), .val (.int sv), .unset, .unset, .unset, .unset, .unset, .unset, .unset, .unset, .unset, .unset, .unset, .unset, .unset, .unset, .unset, .unset]
abbrev lc90 (p1 : Int32) (p2 : Int32) (p3 : Int32) (p4 : Int64) (r : Addr) (sv : Int32) (mv : Int64) : Array Slot := #[.val (.int p1), .val (.int p2), .val (.int p3), .val (.long p4), .second, .val (.int (5 : Int32)), .val (.int (0 : Int32)), .val (.ref r), .val (.int sv), .val (.long mv), .second, .unset, .unset, .unset, .unset, .unset, .unset, .unset, .unset, .unset, .unset, .unset, .unset, .unset, .unset]
abbrev lc91 (p1 : Int32) (p2 : Int32) (p3 : Int32) (p4 : Int64) (r : Addr) (sv : Int32) (mv : Int64) (rv : Int64) : Array Slot := #[.val (.int p1), .val (.int p2), .val (.int p3), .val (.long p4), .second, .val (.int (5 : Int32)), .val (.int (0 : Int32)), .val (.ref r), .val (.int sv), .val (.long mv), .second, .val (.long rv), .second, .unset, .unset, .unset, .unset, .unset, .unset, .unset, .unset, .unset, .unset, .unset, .unset]
abbrev lc92 (p1 : Int32) (p2 : Int32) (p3 : Int32) (p4 : Int64) (r : Addr) (sv : Int32) (mv : Int64) (rv : Int64) (vv : Int64) : Array Slot := #[.val (.int p1), .val (.int p2), .val (.int p3), .val (.long p4), .second, .val (.int (5 : Int32)), .val (.int (0 : Int32)), .val (.ref r), .val (.int sv), .val (.long mv), .second, .val (.long rv), .second, .val (.long vv), .second, .unset, .unset, .unset, .unset, .unset, .unset, .unset, .unset, .unset, .unset]
abbrev lc93 (p1 : Int32) (p2 : Int32) (p3 : Int32) (p4 : Int64) (r : Addr) (sv : Int32) (mv : Int64) (rv : Int64) (vv : Int64) : Array Slot := #[.val (.int p1), .val (.int p2), .val (.int p3), .val (.long p4), .second, .val (.int (5 : Int32)), .val (.int (0 : Int32)), .val (.ref r), .val (.int sv), .val (.long mv), .second, .val (.long rv), .second, .val (.long vv), .second, .val (.double (FP.l2d vv)), .second, .unset, .unset, .unset, .unset, .unset, .unset, .unset, .unset]
abbrev lc94 (p1 : Int32) (p2 : Int32) (p3 : Int32) (p4 : Int64) (r : Addr) (sv : Int32) (mv : Int64) (rv : Int64) (vv : Int64) : Array Slot := #[.val (.int p1), .val (.int p2), .val (.int p3), .val (.long p4), .second, .val (.int (5 : Int32)), .val (.int (0 : Int32)), .val (.ref r), .val (.int sv), .val (.long mv), .second, .val (.long rv), .second, .val (.long vv), .second, .val (.double (FP.l2d vv)), .second, .val (.double (FP.l2d vv)), .second, .unset, .unset, .unset, .unset, .unset, .unset]
theorem ef_law50 (mM : MethodId) (x0 : Int32) (x1 : Int32) (x2 : Int32) (x3 : Int64) : entryFrame mM #[(.int x0), (.int x1), (.int x2), (.long x3)] maxLocals = mkF mM 0 #[.val (.int x0), .val (.int x1), .val (.int x2), .val (.long x3), .second, .unset, .unset, .unset, .unset, .unset, .unset, .unset, .unset, .unset, .unset, .unset, .unset, .unset, .unset, .unset, .unset, .unset, .unset, .unset, .unset] [] := by first | (simp [entryFrame, mkF, argsToLocals, Value.category, maxLocals]; done) | rfl
def Q_law50 (Z : State) (p1 : Int32) (p2 : Int32) (p3 : Int32) (p4 : Int64) (sv : Int32) (mv : Int64) (rv : Int64) (vv : Int64) (r : Addr) (fl : Addr) (h0 : Heap) (n0 : Nat) (v_ : Option Value) (h_ : Heap) (L_ : List Loc) : Prop := v_ = some (.int (1 : Int32)) ∧ Fr n0 L_
set_option maxRecDepth 65536 in
set_option maxHeartbeats 40000000 in
theorem rm_law50 (l : Launch) (Z : State) (a0 : Array Value) (hw : ∀ d ∈ tables_1, d.before a0 Z = true) (ws : List Jvm.Cond) (p1 : Int32) (p2 : Int32) (p3 : Int32) (p4 : Int64) (sv : Int32) (mv : Int64) (rv : Int64) (vv : Int64) (r : Addr) (fl : Addr) (h0 : Heap) (n0 : Nat) (Z0 : n0 ≤ h0.size) (hk : (p1 &&& (7 : Int32)) = (5 : Int32)) (hg : ((p1 >>> ((3 : Int32) &&& 31)) &&& (1 : Int32)) = 0) (hsv : ((p3 &&& (31 : Int32)) % (30 : Int32)) = sv) (hmv : ((8388608 : Int64) + ((p2 &&& (8388607 : Int32)).toInt64)) = mv) (hrv : (p4 &&& (((1 : Int64) <<< (sv.toInt64 &&& 63)) - (1 : Int64))) = rv) (hvv : ((mv <<< (sv.toInt64 &&& 63)) + rv) = vv) (hnn : Jvm.Free.Fl.NoNaN64 (FP.l2d vv)) (S_SampleType_INT32 : Sta Z h0 "com/example/greenweft/greenweft/map/SampleType" "INT32" "Lcom/example/greenweft/greenweft/map/SampleType;" (.ref r)) (S_SampleType_FLOAT32 : Sta Z h0 "com/example/greenweft/greenweft/map/SampleType" "FLOAT32" "Lcom/example/greenweft/greenweft/map/SampleType;" (.ref fl)) (n1 : r ≠ fl) (E_r : Exa Z h0 r "com/example/greenweft/greenweft/map/SampleType") :
    MetFree l x (head1 (Jvm.Cond.code x code maxLocals ret :: ws) room_1) (fun aa_ U_ => aa_ = #[(.int p1), (.int p2), (.int p3), (.long p4)] ∧ Z.Warmed39 U_.vm ∧ U_.heap = h0) (fun _ _ _ _ _ => True) (fun _ U_ o_ U'_ => ∃ v_ L_, o_ = .returned v_ ∧ Q_law50 Z p1 p2 p3 p4 sv mv rv vv r fl h0 n0 v_ U'_.heap L_ ∧ FrameEnd U_ o_ U'_ L_ 0 0) := by
  refine MetFree.of_bodySF (plainFor_of_name pn_0) hisR ?_
  intro pP eE sS mM argsA below meth cC s₁ Bd hml0 hP hK
  obtain ⟨rfl, hZ, hh⟩ := hP
  have hx := Bd.exec
  have hby := Bd.bytes
  have hml : cC.maxLocals = 25 := hml0
  have hown : sS.vm.findClass "com/example/greenweft/greenweft/map/SampleTypeStoredPinLaw" = some mM.cls := findClass_of_methodNamed Bd.named
  have hnm := (name_of_methodNamed Bd.named Bd.method).1
  have X0 : Stand pP l eE room_1 sS mM #[(.int p1), (.int p2), (.int p3), (.long p4)] below meth cC s₁ [] 0 0 := Stand.of_body Bd
  have e0 : s₁.heap = h0 := by rw [← hh, Bd.state]; rfl
  have N0 := Fr.nil n0
  have pre0 : ∀ t_, Steps pP.tables eE below (s₁.setTop (mkF mM 0 #[.val (.int p1), .val (.int p2), .val (.int p3), .val (.long p4), .second, .unset, .unset, .unset, .unset, .unset, .unset, .unset, .unset, .unset, .unset, .unset, .unset, .unset, .unset, .unset, .unset, .unset, .unset, .unset, .unset] [])) t_ → Steps pP.tables eE below (s₁.setTop (entryFrame mM #[(.int p1), (.int p2), (.int p3), (.long p4)] maxLocals)) t_ := fun t_ k_ => castTop (ef_law50 mM p1 p2 p3 p4) k_
  obtain ⟨_, _, ⟨T_1, L_1, k_1, n_1⟩, -, X_1, ⟨Lc_1, hQ_1, l_1, y_1, z_1⟩, st_1⟩ := Jvm.LawKit.callS X0 hx (y := MN0) hown (mvT hZ (ow hw 0 rfl)) (mvT hZ (ow hw 1 rfl)) (mvT hZ (ow hw 2 rfl)) (mvT hZ (ow hw 3 rfl)) (by decide) (backOf (W := 0) (rm_pick5 l Z a0 hw [] r h0 n0 Z0 S_SampleType_INT32) hZ (ow hw 3 rfl) (ow hw 2 rfl) (by decide) (by decide)) (g := (mkF mM 23 (lc87 p1 p2 p3 p4) [(.int (5 : Int32))])) rfl (by rw [hml]; rfl) (argsL := [(.int (5 : Int32))]) (rest := []) (lenOf pd_0 rfl) rfl (by show 2 * 0 + _ ≤ _; exact Nat.le_of_eq rfl) (hb hby at_23) (fun _ _ => ⟨rfl, e0, (by decide : 0 + 0 ≤ _), (by decide : 0 + 0 ≤ _)⟩)
  dsimp only [Pt.U, Pt.locs, Pt.cells, Pt.slots] at X_1 l_1 y_1 z_1 st_1 hQ_1
  subst l_1 y_1 z_1
  obtain ⟨rfl, N_1q, eh_1⟩ := hQ_1
  have N_1 := Fr.app N0 N_1q
  obtain ⟨cq_2, kq_2, q_2a, q_2b, q_2c⟩ := isOf hZ eh_1 E_r
  obtain ⟨_, _, ⟨T_2, L_2, k_2, n_2⟩, -, X_2, ⟨Lc_2, hQ_2, l_2, y_2, z_2⟩, st_2⟩ := X_1.virtualBack hx (y := MN1) (z := MN1) hown (mvT hZ (ow hw 9 rfl)) (mvT hZ (ow hw 10 rfl)) (notFace_of_selects (args := #[]) (mvT hZ (ow hw 12 rfl))) (mvT hZ (ow hw 12 rfl)) (mvT hZ (ow hw 11 rfl)) (by decide) (backOf (W := 0) (rm_sto l Z a0 hw [] r fl (FP.l2d vv) h0 n0 Z0 S_SampleType_FLOAT32 n1) hZ (ow hw 13 rfl) (ow hw 5 rfl) (by decide) (by decide)) q_2a q_2c (g := (mkF mM 89 (lc93 p1 p2 p3 p4 r sv mv rv vv) [(.double (FP.l2d vv)), (.ref r)])) rfl (by rw [hml]; rfl) (Steps.refl _) (argsL := [(.double (FP.l2d vv))]) (rest := []) (lenOf pd_1 rfl) rfl (by show 2 * 0 + _ ≤ _; exact Nat.le_of_eq rfl) (hb hby at_89) (fun _ _ => ⟨rfl, eh_1, (by decide : 0 + 0 ≤ _), (by decide : 0 + 0 ≤ _)⟩)
  dsimp only [Pt.U, Pt.locs, Pt.cells, Pt.slots] at X_2 l_2 y_2 z_2 st_2 hQ_2
  subst l_2 y_2 z_2
  obtain ⟨rfl, N_2q, eh_2⟩ := hQ_2
  have N_2 := Fr.app N_1 N_2q
  obtain ⟨fs, hr, hrun, hended, hW, hsame⟩ := X_2.leave (v := some (.int (1 : Int32))) (fun h => by rw [Bd.returns] at h; cases h)
  refine ⟨_, _, pre0 _ ?_, hrun, hended, _, _, rfl, ?_, ⟨_, rfl⟩, hW, hsame.mono (by decide) (by decide)⟩
  · show oS pP eE below s₁ (mkF mM 0 (lc0 p1 p2 p3 p4) []) _
    refine XS.iloadN X0.here hx rfl (hb hby at_0) rfl ?_
    refine XS.bipush X0.here hx rfl (hb hby at_1) ?_
    show oS pP eE below s₁ (mkF mM 3 (lc0 p1 p2 p3 p4) [(.int (7 : Int32)), (.int p1)]) _
    refine XS.iand X0.here hx rfl (hb hby at_3) rfl ?_
    show Steps pP.tables eE below (s₁.setTop (mkF mM 4 (lc0 p1 p2 p3 p4) [(.int (p1 &&& (7 : Int32)))])) _
    rw [hk]
    refine XS.istore X0.here hx rfl (hb hby at_4) rfl (l' := (lc86 p1 p2 p3 p4)) rfl ?_
    refine XS.iloadN X0.here hx rfl (hb hby at_6) rfl ?_
    refine XS.iconst X0.here hx rfl (hb hby at_7) ?_
    show oS pP eE below s₁ (mkF mM 8 (lc86 p1 p2 p3 p4) [(.int (3 : Int32)), (.int p1)]) _
    refine XT.ishr X0.here hx rfl (hb hby at_8) rfl ?_
    refine XS.iconst X0.here hx rfl (hb hby at_9) ?_
    show oS pP eE below s₁ (mkF mM 10 (lc86 p1 p2 p3 p4) [(.int (1 : Int32)), (.int (p1 >>> ((3 : Int32) &&& 31)))]) _
    refine XS.iand X0.here hx rfl (hb hby at_10) rfl ?_
    refine XS.ifYes X0.here hx rfl (pc0 := 11) (pc' := 18) rfl (hb hby at_11) rfl (XT.i0_eq_t hg) (by decide) (by decide) ?_
    refine XS.iconst X0.here hx rfl (hb hby at_18) ?_
    refine XS.istore X0.here hx rfl (hb hby at_19) rfl (l' := (lc87 p1 p2 p3 p4)) rfl ?_
    refine XS.iload X0.here hx rfl (hb hby at_21) rfl ?_
    show oS pP eE below s₁ (mkF mM 23 (lc87 p1 p2 p3 p4) [(.int (5 : Int32))]) _
    refine st_1 _ ?_
    show oS pP eE below T_1 (mkF mM 26 (lc87 p1 p2 p3 p4) [(.ref r)]) _
    refine XS.astore X_1.here hx rfl (hb hby at_26) rfl rfl (l' := (lc88 p1 p2 p3 p4 r)) rfl ?_
    refine XS.iloadN X_1.here hx rfl (hb hby at_28) rfl ?_
    refine XS.bipush X_1.here hx rfl (hb hby at_29) ?_
    show oS pP eE below T_1 (mkF mM 31 (lc88 p1 p2 p3 p4 r) [(.int (31 : Int32)), (.int p3)]) _
    refine XS.iand X_1.here hx rfl (hb hby at_31) rfl ?_
    refine XS.bipush X_1.here hx rfl (hb hby at_32) ?_
    show oS pP eE below T_1 (mkF mM 34 (lc88 p1 p2 p3 p4 r) [(.int (30 : Int32)), (.int (p3 &&& (31 : Int32)))]) _
    refine iremM X_1 hx rfl (hb hby at_34) rfl (by decide) ?_
    show Steps pP.tables eE below (T_1.setTop (mkF mM 35 (lc88 p1 p2 p3 p4 r) [(.int ((p3 &&& (31 : Int32)) % (30 : Int32)))])) _
    rw [hsv]
    refine XS.istore X_1.here hx rfl (hb hby at_35) rfl (l' := (lc89 p1 p2 p3 p4 r sv)) rfl ?_
    show oS pP eE below T_1 (mkF mM 37 (lc89 p1 p2 p3 p4 r sv) []) _
    refine X_1.ldc2J hx hown (mvT hZ (ow hw 7 rfl)) (g := (mkF mM 37 (lc89 p1 p2 p3 p4 r sv) [])) rfl (hb hby at_37) ?_
    refine XS.iloadN X_1.here hx rfl (hb hby at_40) rfl ?_
    show oS pP eE below T_1 (mkF mM 41 (lc89 p1 p2 p3 p4 r sv) [(.int p2), (.long (8388608 : Int64))]) _
    refine X_1.ldcI hx hown (mvT hZ (ow hw 8 rfl)) (g := (mkF mM 41 (lc89 p1 p2 p3 p4 r sv) [(.int p2), (.long (8388608 : Int64))])) rfl (hb hby at_41) ?_
    show oS pP eE below T_1 (mkF mM 43 (lc89 p1 p2 p3 p4 r sv) [(.int (8388607 : Int32)), (.int p2), (.long (8388608 : Int64))]) _
    refine XS.iand X_1.here hx rfl (hb hby at_43) rfl ?_
    show oS pP eE below T_1 (mkF mM 44 (lc89 p1 p2 p3 p4 r sv) [(.int (p2 &&& (8388607 : Int32))), (.long (8388608 : Int64))]) _
    refine XT.i2l X_1.here hx rfl (hb hby at_44) rfl ?_
    show oS pP eE below T_1 (mkF mM 45 (lc89 p1 p2 p3 p4 r sv) [(.long ((p2 &&& (8388607 : Int32)).toInt64)), (.long (8388608 : Int64))]) _
    refine XT.ladd X_1.here hx rfl (hb hby at_45) rfl ?_
    show Steps pP.tables eE below (T_1.setTop (mkF mM 46 (lc89 p1 p2 p3 p4 r sv) [(.long ((8388608 : Int64) + ((p2 &&& (8388607 : Int32)).toInt64)))])) _
    rw [hmv]
    refine XT.lstore X_1.here hx rfl (hb hby at_46) rfl (l' := (lc90 p1 p2 p3 p4 r sv mv)) rfl ?_
    refine XT.lloadN X_1.here hx rfl (hb hby at_48) rfl ?_
    refine XT.lconst X_1.here hx rfl (hb hby at_49) ?_
    refine XS.iload X_1.here hx rfl (hb hby at_50) rfl ?_
    show oS pP eE below T_1 (mkF mM 52 (lc90 p1 p2 p3 p4 r sv mv) [(.int sv), (.long (1 : Int64)), (.long p4)]) _
    refine XT.lshl X_1.here hx rfl (hb hby at_52) rfl ?_
    refine XT.lconst X_1.here hx rfl (hb hby at_53) ?_
    show oS pP eE below T_1 (mkF mM 54 (lc90 p1 p2 p3 p4 r sv mv) [(.long (1 : Int64)), (.long ((1 : Int64) <<< (sv.toInt64 &&& 63))), (.long p4)]) _
    refine XT.lsub X_1.here hx rfl (hb hby at_54) rfl ?_
    show oS pP eE below T_1 (mkF mM 55 (lc90 p1 p2 p3 p4 r sv mv) [(.long (((1 : Int64) <<< (sv.toInt64 &&& 63)) - (1 : Int64))), (.long p4)]) _
    refine XT.land X_1.here hx rfl (hb hby at_55) rfl ?_
    show Steps pP.tables eE below (T_1.setTop (mkF mM 56 (lc90 p1 p2 p3 p4 r sv mv) [(.long (p4 &&& (((1 : Int64) <<< (sv.toInt64 &&& 63)) - (1 : Int64))))])) _
    rw [hrv]
    refine XT.lstore X_1.here hx rfl (hb hby at_56) rfl (l' := (lc91 p1 p2 p3 p4 r sv mv rv)) rfl ?_
    refine XT.lload X_1.here hx rfl (hb hby at_58) rfl ?_
    refine XS.iload X_1.here hx rfl (hb hby at_60) rfl ?_
    show oS pP eE below T_1 (mkF mM 62 (lc91 p1 p2 p3 p4 r sv mv rv) [(.int sv), (.long mv)]) _
    refine XT.lshl X_1.here hx rfl (hb hby at_62) rfl ?_
    refine XT.lload X_1.here hx rfl (hb hby at_63) rfl ?_
    show oS pP eE below T_1 (mkF mM 65 (lc91 p1 p2 p3 p4 r sv mv rv) [(.long rv), (.long (mv <<< (sv.toInt64 &&& 63)))]) _
    refine XT.ladd X_1.here hx rfl (hb hby at_65) rfl ?_
    show Steps pP.tables eE below (T_1.setTop (mkF mM 66 (lc91 p1 p2 p3 p4 r sv mv rv) [(.long ((mv <<< (sv.toInt64 &&& 63)) + rv))])) _
    rw [hvv]
    refine XT.lstore X_1.here hx rfl (hb hby at_66) rfl (l' := (lc92 p1 p2 p3 p4 r sv mv rv vv)) rfl ?_
    refine XS.iload X_1.here hx rfl (hb hby at_68) rfl ?_
    refine XS.ifYes X_1.here hx rfl (pc0 := 70) (pc' := 80) rfl (hb hby at_70) rfl (by decide) (by decide) (by decide) ?_
    refine XT.lload X_1.here hx rfl (hb hby at_80) rfl ?_
    show oS pP eE below T_1 (mkF mM 82 (lc92 p1 p2 p3 p4 r sv mv rv vv) [(.long vv)]) _
    refine XS.l2dS X_1.here hx rfl (hb hby at_82) rfl rfl ?_
    show oS pP eE below T_1 (mkF mM 83 (lc92 p1 p2 p3 p4 r sv mv rv vv) [(.double (FP.l2d vv))]) _
    refine XS.dstore X_1.here hx rfl (hb hby at_83) rfl (l' := (lc93 p1 p2 p3 p4 r sv mv rv vv)) rfl ?_
    refine XS.aload X_1.here hx rfl (hb hby at_85) rfl rfl ?_
    show oS pP eE below T_1 (mkF mM 87 (lc93 p1 p2 p3 p4 r sv mv rv vv) [(.ref r)]) _
    refine XS.dload X_1.here hx rfl (hb hby at_87) rfl ?_
    show oS pP eE below T_1 (mkF mM 89 (lc93 p1 p2 p3 p4 r sv mv rv vv) [(.double (FP.l2d vv)), (.ref r)]) _
    refine st_2.trans ?_
    show oS pP eE below T_2 (mkF mM 92 (lc93 p1 p2 p3 p4 r sv mv rv vv) [(.double (FP.l2d vv))]) _
    refine XS.dstore X_2.here hx rfl (hb hby at_92) rfl (l' := (lc94 p1 p2 p3 p4 r sv mv rv vv)) rfl ?_
    refine XS.iload X_2.here hx rfl (hb hby at_94) rfl ?_
    refine XS.bipush X_2.here hx rfl (hb hby at_96) ?_
    refine XS.icmpNo X_2.here hx rfl (hb hby at_98) rfl (by decide) ?_
    show oS pP eE below T_2 (mkF mM 101 (lc94 p1 p2 p3 p4 r sv mv rv vv) []) _
    refine XS.dload X_2.here hx rfl (hb hby at_101) rfl ?_
    show oS pP eE below T_2 (mkF mM 103 (lc94 p1 p2 p3 p4 r sv mv rv vv) [(.double (FP.l2d vv))]) _
    refine XS.dload X_2.here hx rfl (hb hby at_103) rfl ?_
    show oS pP eE below T_2 (mkF mM 105 (lc94 p1 p2 p3 p4 r sv mv rv vv) [(.double (FP.l2d vv)), (.double (FP.l2d vv))]) _
    refine XS.dcmpS X_2.here hx rfl (hb hby at_105) rfl rfl ?_
    refine XS.ifNo X_2.here hx rfl (hb hby at_106) rfl (XT.i0_ne_f (dcmpV_self hnn .l)) ?_
    refine XS.iconst X_2.here hx rfl (hb hby at_109) ?_
    refine XS.goto X_2.here hx rfl (pc0 := 110) (pc' := 114) rfl (hb hby at_110) (by decide) (by decide) ?_
    show oS pP eE below T_2 (mkF mM 114 (lc94 p1 p2 p3 p4 r sv mv rv vv) [(.int (1 : Int32))]) _
    exact retN X_2 hx (t := .boolean) Bd.returns (by simp) (hb hby at_114) hr
  · show Q_law50 Z p1 p2 p3 p4 sv mv rv vv r fl h0 n0 _ T_2.heap _
    exact ⟨rfl, N_2⟩
abbrev lc95 (p1 : Int32) (p2 : Int32) (p3 : Int32) (p4 : Int64) : Array Slot := #[.val (.int p1), .val (.int p2), .val (.int p3), .val (.long p4), .second, .val (.int (5 : Int32)), .val (.int (1 : Int32)), .unset, .unset, .unset, .unset, .unset, .unset, .unset, .unset, .unset, .unset, .unset, .unset, .unset, .unset, .unset, .unset, .unset, .unset]
abbrev lc96 (p1 : Int32) (p2 : Int32) (p3 : Int32) (p4 : Int64) (r : Addr) : Array Slot := #[.val (.int p1), .val (.int p2), .val (.int p3), .val (.long p4), .second, .val (.int (5 : Int32)), .val (.int (1 : Int32)), .val (.ref r), .unset, .unset, .unset, .unset, .unset, .unset, .unset, .unset, .unset, .unset, .unset, .unset, .unset, .unset, .unset, .unset, .unset]
abbrev lc97 (p1 : Int32) (p2 : Int32) (p3 : Int32) (p4 : Int64) (r : Addr) (sv : Int32) : Array Slot := #[.val (.int p1), .val (.int p2), .val (.int p3), .val (.long p4), .second, .val (.int (5 : Int32)), .val (.int (1 : Int32)), .val (.ref r), .val (.int sv), .unset, .unset, .unset, .unset, .unset, .unset, .unset, .unset, .unset, .unset, .unset, .unset, .unset, .unset, .unset, .unset]
abbrev lc98 (p1 : Int32) (p2 : Int32) (p3 : Int32) (p4 : Int64) (r : Addr) (sv : Int32) (mv : Int64) : Array Slot := #[.val (.int p1), .val (.int p2), .val (.int p3), .val (.long p4), .second, .val (.int (5 : Int32)), .val (.int (1 : Int32)), .val (.ref r), .val (.int sv), .val (.long mv), .second, .unset, .unset, .unset, .unset, .unset, .unset, .unset, .unset, .unset, .unset, .unset, .unset, .unset, .unset]
abbrev lc99 (p1 : Int32) (p2 : Int32) (p3 : Int32) (p4 : Int64) (r : Addr) (sv : Int32) (mv : Int64) (rv : Int64) : Array Slot := #[.val (.int p1), .val (.int p2), .val (.int p3), .val (.long p4), .second, .val (.int (5 : Int32)), .val (.int (1 : Int32)), .val (.ref r), .val (.int sv), .val (.long mv), .second, .val (.long rv), .second, .unset, .unset, .unset, .unset, .unset, .unset, .unset, .unset, .unset, .unset, .unset, .unset]
abbrev lc100 (p1 : Int32) (p2 : Int32) (p3 : Int32) (p4 : Int64) (r : Addr) (sv : Int32) (mv : Int64) (rv : Int64) (vv : Int64) : Array Slot := #[.val (.int p1), .val (.int p2), .val (.int p3), .val (.long p4), .second, .val (.int (5 : Int32)), .val (.int (1 : Int32)), .val (.ref r), .val (.int sv), .val (.long mv), .second, .val (.long rv), .second, .val (.long vv), .second, .unset, .unset, .unset, .unset, .unset, .unset, .unset, .unset, .unset, .unset]
abbrev lc101 (p1 : Int32) (p2 : Int32) (p3 : Int32) (p4 : Int64) (r : Addr) (sv : Int32) (mv : Int64) (rv : Int64) (vv : Int64) : Array Slot := #[.val (.int p1), .val (.int p2), .val (.int p3), .val (.long p4), .second, .val (.int (5 : Int32)), .val (.int (1 : Int32)), .val (.ref r), .val (.int sv), .val (.long mv), .second, .val (.long rv), .second, .val (.long vv), .second, .val (.double (FP.dneg (FP.l2d vv))), .second, .unset, .unset, .unset, .unset, .unset, .unset, .unset, .unset]
abbrev lc102 (p1 : Int32) (p2 : Int32) (p3 : Int32) (p4 : Int64) (r : Addr) (sv : Int32) (mv : Int64) (rv : Int64) (vv : Int64) : Array Slot := #[.val (.int p1), .val (.int p2), .val (.int p3), .val (.long p4), .second, .val (.int (5 : Int32)), .val (.int (1 : Int32)), .val (.ref r), .val (.int sv), .val (.long mv), .second, .val (.long rv), .second, .val (.long vv), .second, .val (.double (FP.dneg (FP.l2d vv))), .second, .val (.double (FP.dneg (FP.l2d vv))), .second, .unset, .unset, .unset, .unset, .unset, .unset]
theorem ef_law51 (mM : MethodId) (x0 : Int32) (x1 : Int32) (x2 : Int32) (x3 : Int64) : entryFrame mM #[(.int x0), (.int x1), (.int x2), (.long x3)] maxLocals = mkF mM 0 #[.val (.int x0), .val (.int x1), .val (.int x2), .val (.long x3), .second, .unset, .unset, .unset, .unset, .unset, .unset, .unset, .unset, .unset, .unset, .unset, .unset, .unset, .unset, .unset, .unset, .unset, .unset, .unset, .unset] [] := by first | (simp [entryFrame, mkF, argsToLocals, Value.category, maxLocals]; done) | rfl
def Q_law51 (Z : State) (p1 : Int32) (p2 : Int32) (p3 : Int32) (p4 : Int64) (sv : Int32) (mv : Int64) (rv : Int64) (vv : Int64) (r : Addr) (fl : Addr) (h0 : Heap) (n0 : Nat) (v_ : Option Value) (h_ : Heap) (L_ : List Loc) : Prop := v_ = some (.int (1 : Int32)) ∧ Fr n0 L_
set_option maxRecDepth 65536 in
set_option maxHeartbeats 40000000 in
theorem rm_law51 (l : Launch) (Z : State) (a0 : Array Value) (hw : ∀ d ∈ tables_1, d.before a0 Z = true) (ws : List Jvm.Cond) (p1 : Int32) (p2 : Int32) (p3 : Int32) (p4 : Int64) (sv : Int32) (mv : Int64) (rv : Int64) (vv : Int64) (r : Addr) (fl : Addr) (h0 : Heap) (n0 : Nat) (Z0 : n0 ≤ h0.size) (hk : (p1 &&& (7 : Int32)) = (5 : Int32)) (hg : ¬ ((p1 >>> ((3 : Int32) &&& 31)) &&& (1 : Int32)) = 0) (hsv : ((p3 &&& (31 : Int32)) % (30 : Int32)) = sv) (hmv : ((8388608 : Int64) + ((p2 &&& (8388607 : Int32)).toInt64)) = mv) (hrv : (p4 &&& (((1 : Int64) <<< (sv.toInt64 &&& 63)) - (1 : Int64))) = rv) (hvv : ((mv <<< (sv.toInt64 &&& 63)) + rv) = vv) (hnn : Jvm.Free.Fl.NoNaN64 (FP.dneg (FP.l2d vv))) (S_SampleType_INT32 : Sta Z h0 "com/example/greenweft/greenweft/map/SampleType" "INT32" "Lcom/example/greenweft/greenweft/map/SampleType;" (.ref r)) (S_SampleType_FLOAT32 : Sta Z h0 "com/example/greenweft/greenweft/map/SampleType" "FLOAT32" "Lcom/example/greenweft/greenweft/map/SampleType;" (.ref fl)) (n1 : r ≠ fl) (E_r : Exa Z h0 r "com/example/greenweft/greenweft/map/SampleType") :
    MetFree l x (head1 (Jvm.Cond.code x code maxLocals ret :: ws) room_1) (fun aa_ U_ => aa_ = #[(.int p1), (.int p2), (.int p3), (.long p4)] ∧ Z.Warmed39 U_.vm ∧ U_.heap = h0) (fun _ _ _ _ _ => True) (fun _ U_ o_ U'_ => ∃ v_ L_, o_ = .returned v_ ∧ Q_law51 Z p1 p2 p3 p4 sv mv rv vv r fl h0 n0 v_ U'_.heap L_ ∧ FrameEnd U_ o_ U'_ L_ 0 0) := by
  refine MetFree.of_bodySF (plainFor_of_name pn_0) hisR ?_
  intro pP eE sS mM argsA below meth cC s₁ Bd hml0 hP hK
  obtain ⟨rfl, hZ, hh⟩ := hP
  have hx := Bd.exec
  have hby := Bd.bytes
  have hml : cC.maxLocals = 25 := hml0
  have hown : sS.vm.findClass "com/example/greenweft/greenweft/map/SampleTypeStoredPinLaw" = some mM.cls := findClass_of_methodNamed Bd.named
  have hnm := (name_of_methodNamed Bd.named Bd.method).1
  have X0 : Stand pP l eE room_1 sS mM #[(.int p1), (.int p2), (.int p3), (.long p4)] below meth cC s₁ [] 0 0 := Stand.of_body Bd
  have e0 : s₁.heap = h0 := by rw [← hh, Bd.state]; rfl
  have N0 := Fr.nil n0
  have pre0 : ∀ t_, Steps pP.tables eE below (s₁.setTop (mkF mM 0 #[.val (.int p1), .val (.int p2), .val (.int p3), .val (.long p4), .second, .unset, .unset, .unset, .unset, .unset, .unset, .unset, .unset, .unset, .unset, .unset, .unset, .unset, .unset, .unset, .unset, .unset, .unset, .unset, .unset] [])) t_ → Steps pP.tables eE below (s₁.setTop (entryFrame mM #[(.int p1), (.int p2), (.int p3), (.long p4)] maxLocals)) t_ := fun t_ k_ => castTop (ef_law51 mM p1 p2 p3 p4) k_
  obtain ⟨_, _, ⟨T_1, L_1, k_1, n_1⟩, -, X_1, ⟨Lc_1, hQ_1, l_1, y_1, z_1⟩, st_1⟩ := Jvm.LawKit.callS X0 hx (y := MN0) hown (mvT hZ (ow hw 0 rfl)) (mvT hZ (ow hw 1 rfl)) (mvT hZ (ow hw 2 rfl)) (mvT hZ (ow hw 3 rfl)) (by decide) (backOf (W := 0) (rm_pick5 l Z a0 hw [] r h0 n0 Z0 S_SampleType_INT32) hZ (ow hw 3 rfl) (ow hw 2 rfl) (by decide) (by decide)) (g := (mkF mM 23 (lc95 p1 p2 p3 p4) [(.int (5 : Int32))])) rfl (by rw [hml]; rfl) (argsL := [(.int (5 : Int32))]) (rest := []) (lenOf pd_0 rfl) rfl (by show 2 * 0 + _ ≤ _; exact Nat.le_of_eq rfl) (hb hby at_23) (fun _ _ => ⟨rfl, e0, (by decide : 0 + 0 ≤ _), (by decide : 0 + 0 ≤ _)⟩)
  dsimp only [Pt.U, Pt.locs, Pt.cells, Pt.slots] at X_1 l_1 y_1 z_1 st_1 hQ_1
  subst l_1 y_1 z_1
  obtain ⟨rfl, N_1q, eh_1⟩ := hQ_1
  have N_1 := Fr.app N0 N_1q
  obtain ⟨cq_2, kq_2, q_2a, q_2b, q_2c⟩ := isOf hZ eh_1 E_r
  obtain ⟨_, _, ⟨T_2, L_2, k_2, n_2⟩, -, X_2, ⟨Lc_2, hQ_2, l_2, y_2, z_2⟩, st_2⟩ := X_1.virtualBack hx (y := MN1) (z := MN1) hown (mvT hZ (ow hw 9 rfl)) (mvT hZ (ow hw 10 rfl)) (notFace_of_selects (args := #[]) (mvT hZ (ow hw 12 rfl))) (mvT hZ (ow hw 12 rfl)) (mvT hZ (ow hw 11 rfl)) (by decide) (backOf (W := 0) (rm_sto l Z a0 hw [] r fl (FP.dneg (FP.l2d vv)) h0 n0 Z0 S_SampleType_FLOAT32 n1) hZ (ow hw 13 rfl) (ow hw 5 rfl) (by decide) (by decide)) q_2a q_2c (g := (mkF mM 89 (lc101 p1 p2 p3 p4 r sv mv rv vv) [(.double (FP.dneg (FP.l2d vv))), (.ref r)])) rfl (by rw [hml]; rfl) (Steps.refl _) (argsL := [(.double (FP.dneg (FP.l2d vv)))]) (rest := []) (lenOf pd_1 rfl) rfl (by show 2 * 0 + _ ≤ _; exact Nat.le_of_eq rfl) (hb hby at_89) (fun _ _ => ⟨rfl, eh_1, (by decide : 0 + 0 ≤ _), (by decide : 0 + 0 ≤ _)⟩)
  dsimp only [Pt.U, Pt.locs, Pt.cells, Pt.slots] at X_2 l_2 y_2 z_2 st_2 hQ_2
  subst l_2 y_2 z_2
  obtain ⟨rfl, N_2q, eh_2⟩ := hQ_2
  have N_2 := Fr.app N_1 N_2q
  obtain ⟨fs, hr, hrun, hended, hW, hsame⟩ := X_2.leave (v := some (.int (1 : Int32))) (fun h => by rw [Bd.returns] at h; cases h)
  refine ⟨_, _, pre0 _ ?_, hrun, hended, _, _, rfl, ?_, ⟨_, rfl⟩, hW, hsame.mono (by decide) (by decide)⟩
  · show oS pP eE below s₁ (mkF mM 0 (lc0 p1 p2 p3 p4) []) _
    refine XS.iloadN X0.here hx rfl (hb hby at_0) rfl ?_
    refine XS.bipush X0.here hx rfl (hb hby at_1) ?_
    show oS pP eE below s₁ (mkF mM 3 (lc0 p1 p2 p3 p4) [(.int (7 : Int32)), (.int p1)]) _
    refine XS.iand X0.here hx rfl (hb hby at_3) rfl ?_
    show Steps pP.tables eE below (s₁.setTop (mkF mM 4 (lc0 p1 p2 p3 p4) [(.int (p1 &&& (7 : Int32)))])) _
    rw [hk]
    refine XS.istore X0.here hx rfl (hb hby at_4) rfl (l' := (lc86 p1 p2 p3 p4)) rfl ?_
    refine XS.iloadN X0.here hx rfl (hb hby at_6) rfl ?_
    refine XS.iconst X0.here hx rfl (hb hby at_7) ?_
    show oS pP eE below s₁ (mkF mM 8 (lc86 p1 p2 p3 p4) [(.int (3 : Int32)), (.int p1)]) _
    refine XT.ishr X0.here hx rfl (hb hby at_8) rfl ?_
    refine XS.iconst X0.here hx rfl (hb hby at_9) ?_
    show oS pP eE below s₁ (mkF mM 10 (lc86 p1 p2 p3 p4) [(.int (1 : Int32)), (.int (p1 >>> ((3 : Int32) &&& 31)))]) _
    refine XS.iand X0.here hx rfl (hb hby at_10) rfl ?_
    refine XS.ifNo X0.here hx rfl (hb hby at_11) rfl (XT.i0_eq_f hg) ?_
    refine XS.iconst X0.here hx rfl (hb hby at_14) ?_
    refine XS.goto X0.here hx rfl (pc0 := 15) (pc' := 19) rfl (hb hby at_15) (by decide) (by decide) ?_
    refine XS.istore X0.here hx rfl (hb hby at_19) rfl (l' := (lc95 p1 p2 p3 p4)) rfl ?_
    refine XS.iload X0.here hx rfl (hb hby at_21) rfl ?_
    show oS pP eE below s₁ (mkF mM 23 (lc95 p1 p2 p3 p4) [(.int (5 : Int32))]) _
    refine st_1 _ ?_
    show oS pP eE below T_1 (mkF mM 26 (lc95 p1 p2 p3 p4) [(.ref r)]) _
    refine XS.astore X_1.here hx rfl (hb hby at_26) rfl rfl (l' := (lc96 p1 p2 p3 p4 r)) rfl ?_
    refine XS.iloadN X_1.here hx rfl (hb hby at_28) rfl ?_
    refine XS.bipush X_1.here hx rfl (hb hby at_29) ?_
    show oS pP eE below T_1 (mkF mM 31 (lc96 p1 p2 p3 p4 r) [(.int (31 : Int32)), (.int p3)]) _
    refine XS.iand X_1.here hx rfl (hb hby at_31) rfl ?_
    refine XS.bipush X_1.here hx rfl (hb hby at_32) ?_
    show oS pP eE below T_1 (mkF mM 34 (lc96 p1 p2 p3 p4 r) [(.int (30 : Int32)), (.int (p3 &&& (31 : Int32)))]) _
    refine iremM X_1 hx rfl (hb hby at_34) rfl (by decide) ?_
    show Steps pP.tables eE below (T_1.setTop (mkF mM 35 (lc96 p1 p2 p3 p4 r) [(.int ((p3 &&& (31 : Int32)) % (30 : Int32)))])) _
    rw [hsv]
    refine XS.istore X_1.here hx rfl (hb hby at_35) rfl (l' := (lc97 p1 p2 p3 p4 r sv)) rfl ?_
    show oS pP eE below T_1 (mkF mM 37 (lc97 p1 p2 p3 p4 r sv) []) _
    refine X_1.ldc2J hx hown (mvT hZ (ow hw 7 rfl)) (g := (mkF mM 37 (lc97 p1 p2 p3 p4 r sv) [])) rfl (hb hby at_37) ?_
    refine XS.iloadN X_1.here hx rfl (hb hby at_40) rfl ?_
    show oS pP eE below T_1 (mkF mM 41 (lc97 p1 p2 p3 p4 r sv) [(.int p2), (.long (8388608 : Int64))]) _
    refine X_1.ldcI hx hown (mvT hZ (ow hw 8 rfl)) (g := (mkF mM 41 (lc97 p1 p2 p3 p4 r sv) [(.int p2), (.long (8388608 : Int64))])) rfl (hb hby at_41) ?_
    show oS pP eE below T_1 (mkF mM 43 (lc97 p1 p2 p3 p4 r sv) [(.int (8388607 : Int32)), (.int p2), (.long (8388608 : Int64))]) _
    refine XS.iand X_1.here hx rfl (hb hby at_43) rfl ?_
    show oS pP eE below T_1 (mkF mM 44 (lc97 p1 p2 p3 p4 r sv) [(.int (p2 &&& (8388607 : Int32))), (.long (8388608 : Int64))]) _
    refine XT.i2l X_1.here hx rfl (hb hby at_44) rfl ?_
    show oS pP eE below T_1 (mkF mM 45 (lc97 p1 p2 p3 p4 r sv) [(.long ((p2 &&& (8388607 : Int32)).toInt64)), (.long (8388608 : Int64))]) _
    refine XT.ladd X_1.here hx rfl (hb hby at_45) rfl ?_
    show Steps pP.tables eE below (T_1.setTop (mkF mM 46 (lc97 p1 p2 p3 p4 r sv) [(.long ((8388608 : Int64) + ((p2 &&& (8388607 : Int32)).toInt64)))])) _
    rw [hmv]
    refine XT.lstore X_1.here hx rfl (hb hby at_46) rfl (l' := (lc98 p1 p2 p3 p4 r sv mv)) rfl ?_
    refine XT.lloadN X_1.here hx rfl (hb hby at_48) rfl ?_
    refine XT.lconst X_1.here hx rfl (hb hby at_49) ?_
    refine XS.iload X_1.here hx rfl (hb hby at_50) rfl ?_
    show oS pP eE below T_1 (mkF mM 52 (lc98 p1 p2 p3 p4 r sv mv) [(.int sv), (.long (1 : Int64)), (.long p4)]) _
    refine XT.lshl X_1.here hx rfl (hb hby at_52) rfl ?_
    refine XT.lconst X_1.here hx rfl (hb hby at_53) ?_
    show oS pP eE below T_1 (mkF mM 54 (lc98 p1 p2 p3 p4 r sv mv) [(.long (1 : Int64)), (.long ((1 : Int64) <<< (sv.toInt64 &&& 63))), (.long p4)]) _
    refine XT.lsub X_1.here hx rfl (hb hby at_54) rfl ?_
    show oS pP eE below T_1 (mkF mM 55 (lc98 p1 p2 p3 p4 r sv mv) [(.long (((1 : Int64) <<< (sv.toInt64 &&& 63)) - (1 : Int64))), (.long p4)]) _
    refine XT.land X_1.here hx rfl (hb hby at_55) rfl ?_
    show Steps pP.tables eE below (T_1.setTop (mkF mM 56 (lc98 p1 p2 p3 p4 r sv mv) [(.long (p4 &&& (((1 : Int64) <<< (sv.toInt64 &&& 63)) - (1 : Int64))))])) _
    rw [hrv]
    refine XT.lstore X_1.here hx rfl (hb hby at_56) rfl (l' := (lc99 p1 p2 p3 p4 r sv mv rv)) rfl ?_
    refine XT.lload X_1.here hx rfl (hb hby at_58) rfl ?_
    refine XS.iload X_1.here hx rfl (hb hby at_60) rfl ?_
    show oS pP eE below T_1 (mkF mM 62 (lc99 p1 p2 p3 p4 r sv mv rv) [(.int sv), (.long mv)]) _
    refine XT.lshl X_1.here hx rfl (hb hby at_62) rfl ?_
    refine XT.lload X_1.here hx rfl (hb hby at_63) rfl ?_
    show oS pP eE below T_1 (mkF mM 65 (lc99 p1 p2 p3 p4 r sv mv rv) [(.long rv), (.long (mv <<< (sv.toInt64 &&& 63)))]) _
    refine XT.ladd X_1.here hx rfl (hb hby at_65) rfl ?_
    show Steps pP.tables eE below (T_1.setTop (mkF mM 66 (lc99 p1 p2 p3 p4 r sv mv rv) [(.long ((mv <<< (sv.toInt64 &&& 63)) + rv))])) _
    rw [hvv]
    refine XT.lstore X_1.here hx rfl (hb hby at_66) rfl (l' := (lc100 p1 p2 p3 p4 r sv mv rv vv)) rfl ?_
    refine XS.iload X_1.here hx rfl (hb hby at_68) rfl ?_
    refine XS.ifNo X_1.here hx rfl (hb hby at_70) rfl (by decide) ?_
    refine XT.lload X_1.here hx rfl (hb hby at_73) rfl ?_
    show oS pP eE below T_1 (mkF mM 75 (lc100 p1 p2 p3 p4 r sv mv rv vv) [(.long vv)]) _
    refine XS.l2dS X_1.here hx rfl (hb hby at_75) rfl rfl ?_
    show oS pP eE below T_1 (mkF mM 76 (lc100 p1 p2 p3 p4 r sv mv rv vv) [(.double (FP.l2d vv))]) _
    refine XS.dnegS X_1.here hx rfl (hb hby at_76) rfl rfl ?_
    refine XS.goto X_1.here hx rfl (pc0 := 77) (pc' := 83) rfl (hb hby at_77) (by decide) (by decide) ?_
    show oS pP eE below T_1 (mkF mM 83 (lc100 p1 p2 p3 p4 r sv mv rv vv) [(.double (FP.dneg (FP.l2d vv)))]) _
    refine XS.dstore X_1.here hx rfl (hb hby at_83) rfl (l' := (lc101 p1 p2 p3 p4 r sv mv rv vv)) rfl ?_
    refine XS.aload X_1.here hx rfl (hb hby at_85) rfl rfl ?_
    show oS pP eE below T_1 (mkF mM 87 (lc101 p1 p2 p3 p4 r sv mv rv vv) [(.ref r)]) _
    refine XS.dload X_1.here hx rfl (hb hby at_87) rfl ?_
    show oS pP eE below T_1 (mkF mM 89 (lc101 p1 p2 p3 p4 r sv mv rv vv) [(.double (FP.dneg (FP.l2d vv))), (.ref r)]) _
    refine st_2.trans ?_
    show oS pP eE below T_2 (mkF mM 92 (lc101 p1 p2 p3 p4 r sv mv rv vv) [(.double (FP.dneg (FP.l2d vv)))]) _
    refine XS.dstore X_2.here hx rfl (hb hby at_92) rfl (l' := (lc102 p1 p2 p3 p4 r sv mv rv vv)) rfl ?_
    refine XS.iload X_2.here hx rfl (hb hby at_94) rfl ?_
    refine XS.bipush X_2.here hx rfl (hb hby at_96) ?_
    refine XS.icmpNo X_2.here hx rfl (hb hby at_98) rfl (by decide) ?_
    show oS pP eE below T_2 (mkF mM 101 (lc102 p1 p2 p3 p4 r sv mv rv vv) []) _
    refine XS.dload X_2.here hx rfl (hb hby at_101) rfl ?_
    show oS pP eE below T_2 (mkF mM 103 (lc102 p1 p2 p3 p4 r sv mv rv vv) [(.double (FP.dneg (FP.l2d vv)))]) _
    refine XS.dload X_2.here hx rfl (hb hby at_103) rfl ?_
    show oS pP eE below T_2 (mkF mM 105 (lc102 p1 p2 p3 p4 r sv mv rv vv) [(.double (FP.dneg (FP.l2d vv))), (.double (FP.dneg (FP.l2d vv)))]) _
    refine XS.dcmpS X_2.here hx rfl (hb hby at_105) rfl rfl ?_
    refine XS.ifNo X_2.here hx rfl (hb hby at_106) rfl (XT.i0_ne_f (dcmpV_self hnn .l)) ?_
    refine XS.iconst X_2.here hx rfl (hb hby at_109) ?_
    refine XS.goto X_2.here hx rfl (pc0 := 110) (pc' := 114) rfl (hb hby at_110) (by decide) (by decide) ?_
    show oS pP eE below T_2 (mkF mM 114 (lc102 p1 p2 p3 p4 r sv mv rv vv) [(.int (1 : Int32))]) _
    exact retN X_2 hx (t := .boolean) Bd.returns (by simp) (hb hby at_114) hr
  · show Q_law51 Z p1 p2 p3 p4 sv mv rv vv r fl h0 n0 _ T_2.heap _
    exact ⟨rfl, N_2⟩
abbrev lc103 (p1 : Int32) (p2 : Int32) (p3 : Int32) (p4 : Int64) : Array Slot := #[.val (.int p1), .val (.int p2), .val (.int p3), .val (.long p4), .second, .val (.int (6 : Int32)), .unset, .unset, .unset, .unset, .unset, .unset, .unset, .unset, .unset, .unset, .unset, .unset, .unset, .unset, .unset, .unset, .unset, .unset, .unset]
abbrev lc104 (p1 : Int32) (p2 : Int32) (p3 : Int32) (p4 : Int64) : Array Slot := #[.val (.int p1), .val (.int p2), .val (.int p3), .val (.long p4), .second, .val (.int (6 : Int32)), .val (.int (0 : Int32)), .unset, .unset, .unset, .unset, .unset, .unset, .unset, .unset, .unset, .unset, .unset, .unset, .unset, .unset, .unset, .unset, .unset, .unset]
abbrev lc105 (p1 : Int32) (p2 : Int32) (p3 : Int32) (p4 : Int64) (fl : Addr) : Array Slot := #[.val (.int p1), .val (.int p2), .val (.int p3), .val (.long p4), .second, .val (.int (6 : Int32)), .val (.int (0 : Int32)), .val (.ref fl), .unset, .unset, .unset, .unset, .unset, .unset, .unset, .unset, .unset, .unset, .unset, .unset, .unset, .unset, .unset, .unset, .unset]
abbrev lc106 (p1 : Int32) (p2 : Int32) (p3 : Int32) (p4 : Int64) (fl : Addr) (sv : Int32) : Array Slot := #[.val (.int p1), .val (.int p2), .val (.int p3), .val (.long p4), .second, .val (.int (6 : Int32)), .val (.int (0 : Int32)), .val (.ref fl), .val (.int sv), .unset, .unset, .unset, .unset, .unset, .unset, .unset, .unset, .unset, .unset, .unset, .unset, .unset, .unset, .unset, .unset]
abbrev lc107 (p1 : Int32) (p2 : Int32) (p3 : Int32) (p4 : Int64) (fl : Addr) (sv : Int32) (mv : Int64) : Array Slot := #[.val (.int p1), .val (.int p2), .val (.int p3), .val (.long p4), .second, .val (.int (6 : Int32)), .val (.int (0 : Int32)), .val (.ref fl), .val (.int sv), .val (.long mv), .second, .unset, .unset, .unset, .unset, .unset, .unset, .unset, .unset, .unset, .unset, .unset, .unset, .unset, .unset]
abbrev lc108 (p1 : Int32) (p2 : Int32) (p3 : Int32) (p4 : Int64) (fl : Addr) (sv : Int32) (mv : Int64) (rv : Int64) : Array Slot := #[.val (.int p1), .val (.int p2), .val (.int p3), .val (.long p4), .second, .val (.int (6 : Int32)), .val (.int (0 : Int32)), .val (.ref fl), .val (.int sv), .val (.long mv), .second, .val (.long rv), .second, .unset, .unset, .unset, .unset, .unset, .unset, .unset, .unset, .unset, .unset, .unset, .unset]
abbrev lc109 (p1 : Int32) (p2 : Int32) (p3 : Int32) (p4 : Int64) (fl : Addr) (sv : Int32) (mv : Int64) (rv : Int64) (vv : Int64) : Array Slot := #[.val (.int p1), .val (.int p2), .val (.int p3), .val (.long p4), .second, .val (.int (6 : Int32)), .val (.int (0 : Int32)), .val (.ref fl), .val (.int sv), .val (.long mv), .second, .val (.long rv), .second, .val (.long vv), .second, .unset, .unset, .unset, .unset, .unset, .unset, .unset, .unset, .unset, .unset]
abbrev lc110 (p1 : Int32) (p2 : Int32) (p3 : Int32) (p4 : Int64) (fl : Addr) (sv : Int32) (mv : Int64) (rv : Int64) (vv : Int64) : Array Slot := #[.val (.int p1), .val (.int p2), .val (.int p3), .val (.long p4), .second, .val (.int (6 : Int32)), .val (.int (0 : Int32)), .val (.ref fl), .val (.int sv), .val (.long mv), .second, .val (.long rv), .second, .val (.long vv), .second, .val (.double (FP.l2d vv)), .second, .unset, .unset, .unset, .unset, .unset, .unset, .unset, .unset]
abbrev lc111 (p1 : Int32) (p2 : Int32) (p3 : Int32) (p4 : Int64) (fl : Addr) (sv : Int32) (mv : Int64) (rv : Int64) (vv : Int64) : Array Slot := #[.val (.int p1), .val (.int p2), .val (.int p3), .val (.long p4), .second, .val (.int (6 : Int32)), .val (.int (0 : Int32)), .val (.ref fl), .val (.int sv), .val (.long mv), .second, .val (.long rv), .second, .val (.long vv), .second, .val (.double (FP.l2d vv)), .second, .val (.double (FP.f2d (FP.d2f (FP.l2d vv)))), .second, .unset, .unset, .unset, .unset, .unset, .unset]
abbrev lc112 (p1 : Int32) (p2 : Int32) (p3 : Int32) (p4 : Int64) (fl : Addr) (sv : Int32) (mv : Int64) (rv : Int64) (vv : Int64) : Array Slot := #[.val (.int p1), .val (.int p2), .val (.int p3), .val (.long p4), .second, .val (.int (6 : Int32)), .val (.int (0 : Int32)), .val (.ref fl), .val (.int sv), .val (.long mv), .second, .val (.long rv), .second, .val (.long vv), .second, .val (.double (FP.l2d vv)), .second, .val (.double (FP.f2d (FP.d2f (FP.l2d vv)))), .second, .val (.long mv), .second, .unset, .unset, .unset, .unset]
abbrev lc113 (p1 : Int32) (p2 : Int32) (p3 : Int32) (p4 : Int64) (fl : Addr) (sv : Int32) (mv : Int64) (rv : Int64) (vv : Int64) : Array Slot := #[.val (.int p1), .val (.int p2), .val (.int p3), .val (.long p4), .second, .val (.int (6 : Int32)), .val (.int (0 : Int32)), .val (.ref fl), .val (.int sv), .val (.long mv), .second, .val (.long rv), .second, .val (.long vv), .second, .val (.double (FP.l2d vv)), .second, .val (.double (FP.f2d (FP.d2f (FP.l2d vv)))), .second, .val (.long mv), .second, .val (.long (mv <<< (sv.toInt64 &&& 63))), .second, .unset, .unset]
abbrev lc114 (p1 : Int32) (p2 : Int32) (p3 : Int32) (p4 : Int64) (fl : Addr) (sv : Int32) (mv : Int64) (rv : Int64) (vv : Int64) : Array Slot := #[.val (.int p1), .val (.int p2), .val (.int p3), .val (.long p4), .second, .val (.int (6 : Int32)), .val (.int (0 : Int32)), .val (.ref fl), .val (.int sv), .val (.long mv), .second, .val (.long rv), .second, .val (.long vv), .second, .val (.double (FP.l2d vv)), .second, .val (.double (FP.f2d (FP.d2f (FP.l2d vv)))), .second, .val (.long mv), .second, .val (.long (mv <<< (sv.toInt64 &&& 63))), .second, .val (.double (FP.l2d (mv <<< (sv.toInt64 &&& 63)))), .second]
theorem ef_law60z (mM : MethodId) (x0 : Int32) (x1 : Int32) (x2 : Int32) (x3 : Int64) : entryFrame mM #[(.int x0), (.int x1), (.int x2), (.long x3)] maxLocals = mkF mM 0 #[.val (.int x0), .val (.int x1), .val (.int x2), .val (.long x3), .second, .unset, .unset, .unset, .unset, .unset, .unset, .unset, .unset, .unset, .unset, .unset, .unset, .unset, .unset, .unset, .unset, .unset, .unset, .unset, .unset] [] := by first | (simp [entryFrame, mkF, argsToLocals, Value.category, maxLocals]; done) | rfl
def Q_law60z (Z : State) (p1 : Int32) (p2 : Int32) (p3 : Int32) (p4 : Int64) (sv : Int32) (mv : Int64) (rv : Int64) (vv : Int64) (fl : Addr) (h0 : Heap) (n0 : Nat) (v_ : Option Value) (h_ : Heap) (L_ : List Loc) : Prop := v_ = some (.int (1 : Int32)) ∧ Fr n0 L_
set_option maxRecDepth 65536 in
set_option maxHeartbeats 40000000 in
theorem rm_law60z (l : Launch) (Z : State) (a0 : Array Value) (hw : ∀ d ∈ tables_1, d.before a0 Z = true) (ws : List Jvm.Cond) (p1 : Int32) (p2 : Int32) (p3 : Int32) (p4 : Int64) (sv : Int32) (mv : Int64) (rv : Int64) (vv : Int64) (fl : Addr) (h0 : Heap) (n0 : Nat) (Z0 : n0 ≤ h0.size) (hk : (p1 &&& (7 : Int32)) = (6 : Int32)) (hg : ((p1 >>> ((3 : Int32) &&& 31)) &&& (1 : Int32)) = 0) (hsv : ((p3 &&& (31 : Int32)) % (30 : Int32)) = sv) (hmv : ((8388608 : Int64) + ((p2 &&& (8388607 : Int32)).toInt64)) = mv) (hrv : (p4 &&& (((1 : Int64) <<< (sv.toInt64 &&& 63)) - (1 : Int64))) = rv) (hvv : ((mv <<< (sv.toInt64 &&& 63)) + rv) = vv) (hnn : Jvm.Free.Fl.NoNaN64 (FP.l2d vv)) (S_SampleType_FLOAT32 : Sta Z h0 "com/example/greenweft/greenweft/map/SampleType" "FLOAT32" "Lcom/example/greenweft/greenweft/map/SampleType;" (.ref fl)) (E_fl : Exa Z h0 fl "com/example/greenweft/greenweft/map/SampleType") (hs0 : sv = 0) (hfin : cmpValue (FP.dcmp (FP.f2d (FP.d2f (FP.l2d vv))) (FP.l2d (mv <<< (sv.toInt64 &&& 63)))) .l = 0) :
    MetFree l x (head1 (Jvm.Cond.code x code maxLocals ret :: ws) room_1) (fun aa_ U_ => aa_ = #[(.int p1), (.int p2), (.int p3), (.long p4)] ∧ Z.Warmed39 U_.vm ∧ U_.heap = h0) (fun _ _ _ _ _ => True) (fun _ U_ o_ U'_ => ∃ v_ L_, o_ = .returned v_ ∧ Q_law60z Z p1 p2 p3 p4 sv mv rv vv fl h0 n0 v_ U'_.heap L_ ∧ FrameEnd U_ o_ U'_ L_ 0 0) := by
  refine MetFree.of_bodySF (plainFor_of_name pn_0) hisR ?_
  intro pP eE sS mM argsA below meth cC s₁ Bd hml0 hP hK
  obtain ⟨rfl, hZ, hh⟩ := hP
  have hx := Bd.exec
  have hby := Bd.bytes
  have hml : cC.maxLocals = 25 := hml0
  have hown : sS.vm.findClass "com/example/greenweft/greenweft/map/SampleTypeStoredPinLaw" = some mM.cls := findClass_of_methodNamed Bd.named
  have hnm := (name_of_methodNamed Bd.named Bd.method).1
  have X0 : Stand pP l eE room_1 sS mM #[(.int p1), (.int p2), (.int p3), (.long p4)] below meth cC s₁ [] 0 0 := Stand.of_body Bd
  have e0 : s₁.heap = h0 := by rw [← hh, Bd.state]; rfl
  have N0 := Fr.nil n0
  have pre0 : ∀ t_, Steps pP.tables eE below (s₁.setTop (mkF mM 0 #[.val (.int p1), .val (.int p2), .val (.int p3), .val (.long p4), .second, .unset, .unset, .unset, .unset, .unset, .unset, .unset, .unset, .unset, .unset, .unset, .unset, .unset, .unset, .unset, .unset, .unset, .unset, .unset, .unset] [])) t_ → Steps pP.tables eE below (s₁.setTop (entryFrame mM #[(.int p1), (.int p2), (.int p3), (.long p4)] maxLocals)) t_ := fun t_ k_ => castTop (ef_law60z mM p1 p2 p3 p4) k_
  obtain ⟨_, _, ⟨T_1, L_1, k_1, n_1⟩, -, X_1, ⟨Lc_1, hQ_1, l_1, y_1, z_1⟩, st_1⟩ := Jvm.LawKit.callS X0 hx (y := MN0) hown (mvT hZ (ow hw 0 rfl)) (mvT hZ (ow hw 1 rfl)) (mvT hZ (ow hw 2 rfl)) (mvT hZ (ow hw 3 rfl)) (by decide) (backOf (W := 0) (rm_pick6 l Z a0 hw [] fl h0 n0 Z0 S_SampleType_FLOAT32) hZ (ow hw 3 rfl) (ow hw 2 rfl) (by decide) (by decide)) (g := (mkF mM 23 (lc104 p1 p2 p3 p4) [(.int (6 : Int32))])) rfl (by rw [hml]; rfl) (argsL := [(.int (6 : Int32))]) (rest := []) (lenOf pd_0 rfl) rfl (by show 2 * 0 + _ ≤ _; exact Nat.le_of_eq rfl) (hb hby at_23) (fun _ _ => ⟨rfl, e0, (by decide : 0 + 0 ≤ _), (by decide : 0 + 0 ≤ _)⟩)
  dsimp only [Pt.U, Pt.locs, Pt.cells, Pt.slots] at X_1 l_1 y_1 z_1 st_1 hQ_1
  subst l_1 y_1 z_1
  obtain ⟨rfl, N_1q, eh_1⟩ := hQ_1
  have N_1 := Fr.app N0 N_1q
  obtain ⟨cq_2, kq_2, q_2a, q_2b, q_2c⟩ := isOf hZ eh_1 E_fl
  obtain ⟨_, _, ⟨T_2, L_2, k_2, n_2⟩, -, X_2, ⟨Lc_2, hQ_2, l_2, y_2, z_2⟩, st_2⟩ := X_1.virtualBack hx (y := MN1) (z := MN1) hown (mvT hZ (ow hw 9 rfl)) (mvT hZ (ow hw 10 rfl)) (notFace_of_selects (args := #[]) (mvT hZ (ow hw 12 rfl))) (mvT hZ (ow hw 12 rfl)) (mvT hZ (ow hw 11 rfl)) (by decide) (backOf (W := 0) (rm_stf l Z a0 hw [] fl (FP.l2d vv) h0 n0 Z0 S_SampleType_FLOAT32 hnn) hZ (ow hw 13 rfl) (ow hw 5 rfl) (by decide) (by decide)) q_2a q_2c (g := (mkF mM 89 (lc110 p1 p2 p3 p4 fl sv mv rv vv) [(.double (FP.l2d vv)), (.ref fl)])) rfl (by rw [hml]; rfl) (Steps.refl _) (argsL := [(.double (FP.l2d vv))]) (rest := []) (lenOf pd_1 rfl) rfl (by show 2 * 0 + _ ≤ _; exact Nat.le_of_eq rfl) (hb hby at_89) (fun _ _ => ⟨rfl, eh_1, (by decide : 0 + 0 ≤ _), (by decide : 0 + 0 ≤ _)⟩)
  dsimp only [Pt.U, Pt.locs, Pt.cells, Pt.slots] at X_2 l_2 y_2 z_2 st_2 hQ_2
  subst l_2 y_2 z_2
  obtain ⟨rfl, N_2q, eh_2⟩ := hQ_2
  have N_2 := Fr.app N_1 N_2q
  obtain ⟨fs, hr, hrun, hended, hW, hsame⟩ := X_2.leave (v := some (.int (1 : Int32))) (fun h => by rw [Bd.returns] at h; cases h)
  refine ⟨_, _, pre0 _ ?_, hrun, hended, _, _, rfl, ?_, ⟨_, rfl⟩, hW, hsame.mono (by decide) (by decide)⟩
  · show oS pP eE below s₁ (mkF mM 0 (lc0 p1 p2 p3 p4) []) _
    refine XS.iloadN X0.here hx rfl (hb hby at_0) rfl ?_
    refine XS.bipush X0.here hx rfl (hb hby at_1) ?_
    show oS pP eE below s₁ (mkF mM 3 (lc0 p1 p2 p3 p4) [(.int (7 : Int32)), (.int p1)]) _
    refine XS.iand X0.here hx rfl (hb hby at_3) rfl ?_
    show Steps pP.tables eE below (s₁.setTop (mkF mM 4 (lc0 p1 p2 p3 p4) [(.int (p1 &&& (7 : Int32)))])) _
    rw [hk]
    refine XS.istore X0.here hx rfl (hb hby at_4) rfl (l' := (lc103 p1 p2 p3 p4)) rfl ?_
    refine XS.iloadN X0.here hx rfl (hb hby at_6) rfl ?_
    refine XS.iconst X0.here hx rfl (hb hby at_7) ?_
    show oS pP eE below s₁ (mkF mM 8 (lc103 p1 p2 p3 p4) [(.int (3 : Int32)), (.int p1)]) _
    refine XT.ishr X0.here hx rfl (hb hby at_8) rfl ?_
    refine XS.iconst X0.here hx rfl (hb hby at_9) ?_
    show oS pP eE below s₁ (mkF mM 10 (lc103 p1 p2 p3 p4) [(.int (1 : Int32)), (.int (p1 >>> ((3 : Int32) &&& 31)))]) _
    refine XS.iand X0.here hx rfl (hb hby at_10) rfl ?_
    refine XS.ifYes X0.here hx rfl (pc0 := 11) (pc' := 18) rfl (hb hby at_11) rfl (XT.i0_eq_t hg) (by decide) (by decide) ?_
    refine XS.iconst X0.here hx rfl (hb hby at_18) ?_
    refine XS.istore X0.here hx rfl (hb hby at_19) rfl (l' := (lc104 p1 p2 p3 p4)) rfl ?_
    refine XS.iload X0.here hx rfl (hb hby at_21) rfl ?_
    show oS pP eE below s₁ (mkF mM 23 (lc104 p1 p2 p3 p4) [(.int (6 : Int32))]) _
    refine st_1 _ ?_
    show oS pP eE below T_1 (mkF mM 26 (lc104 p1 p2 p3 p4) [(.ref fl)]) _
    refine XS.astore X_1.here hx rfl (hb hby at_26) rfl rfl (l' := (lc105 p1 p2 p3 p4 fl)) rfl ?_
    refine XS.iloadN X_1.here hx rfl (hb hby at_28) rfl ?_
    refine XS.bipush X_1.here hx rfl (hb hby at_29) ?_
    show oS pP eE below T_1 (mkF mM 31 (lc105 p1 p2 p3 p4 fl) [(.int (31 : Int32)), (.int p3)]) _
    refine XS.iand X_1.here hx rfl (hb hby at_31) rfl ?_
    refine XS.bipush X_1.here hx rfl (hb hby at_32) ?_
    show oS pP eE below T_1 (mkF mM 34 (lc105 p1 p2 p3 p4 fl) [(.int (30 : Int32)), (.int (p3 &&& (31 : Int32)))]) _
    refine iremM X_1 hx rfl (hb hby at_34) rfl (by decide) ?_
    show Steps pP.tables eE below (T_1.setTop (mkF mM 35 (lc105 p1 p2 p3 p4 fl) [(.int ((p3 &&& (31 : Int32)) % (30 : Int32)))])) _
    rw [hsv]
    refine XS.istore X_1.here hx rfl (hb hby at_35) rfl (l' := (lc106 p1 p2 p3 p4 fl sv)) rfl ?_
    show oS pP eE below T_1 (mkF mM 37 (lc106 p1 p2 p3 p4 fl sv) []) _
    refine X_1.ldc2J hx hown (mvT hZ (ow hw 7 rfl)) (g := (mkF mM 37 (lc106 p1 p2 p3 p4 fl sv) [])) rfl (hb hby at_37) ?_
    refine XS.iloadN X_1.here hx rfl (hb hby at_40) rfl ?_
    show oS pP eE below T_1 (mkF mM 41 (lc106 p1 p2 p3 p4 fl sv) [(.int p2), (.long (8388608 : Int64))]) _
    refine X_1.ldcI hx hown (mvT hZ (ow hw 8 rfl)) (g := (mkF mM 41 (lc106 p1 p2 p3 p4 fl sv) [(.int p2), (.long (8388608 : Int64))])) rfl (hb hby at_41) ?_
    show oS pP eE below T_1 (mkF mM 43 (lc106 p1 p2 p3 p4 fl sv) [(.int (8388607 : Int32)), (.int p2), (.long (8388608 : Int64))]) _
    refine XS.iand X_1.here hx rfl (hb hby at_43) rfl ?_
    show oS pP eE below T_1 (mkF mM 44 (lc106 p1 p2 p3 p4 fl sv) [(.int (p2 &&& (8388607 : Int32))), (.long (8388608 : Int64))]) _
    refine XT.i2l X_1.here hx rfl (hb hby at_44) rfl ?_
    show oS pP eE below T_1 (mkF mM 45 (lc106 p1 p2 p3 p4 fl sv) [(.long ((p2 &&& (8388607 : Int32)).toInt64)), (.long (8388608 : Int64))]) _
    refine XT.ladd X_1.here hx rfl (hb hby at_45) rfl ?_
    show Steps pP.tables eE below (T_1.setTop (mkF mM 46 (lc106 p1 p2 p3 p4 fl sv) [(.long ((8388608 : Int64) + ((p2 &&& (8388607 : Int32)).toInt64)))])) _
    rw [hmv]
    refine XT.lstore X_1.here hx rfl (hb hby at_46) rfl (l' := (lc107 p1 p2 p3 p4 fl sv mv)) rfl ?_
    refine XT.lloadN X_1.here hx rfl (hb hby at_48) rfl ?_
    refine XT.lconst X_1.here hx rfl (hb hby at_49) ?_
    refine XS.iload X_1.here hx rfl (hb hby at_50) rfl ?_
    show oS pP eE below T_1 (mkF mM 52 (lc107 p1 p2 p3 p4 fl sv mv) [(.int sv), (.long (1 : Int64)), (.long p4)]) _
    refine XT.lshl X_1.here hx rfl (hb hby at_52) rfl ?_
    refine XT.lconst X_1.here hx rfl (hb hby at_53) ?_
    show oS pP eE below T_1 (mkF mM 54 (lc107 p1 p2 p3 p4 fl sv mv) [(.long (1 : Int64)), (.long ((1 : Int64) <<< (sv.toInt64 &&& 63))), (.long p4)]) _
    refine XT.lsub X_1.here hx rfl (hb hby at_54) rfl ?_
    show oS pP eE below T_1 (mkF mM 55 (lc107 p1 p2 p3 p4 fl sv mv) [(.long (((1 : Int64) <<< (sv.toInt64 &&& 63)) - (1 : Int64))), (.long p4)]) _
    refine XT.land X_1.here hx rfl (hb hby at_55) rfl ?_
    show Steps pP.tables eE below (T_1.setTop (mkF mM 56 (lc107 p1 p2 p3 p4 fl sv mv) [(.long (p4 &&& (((1 : Int64) <<< (sv.toInt64 &&& 63)) - (1 : Int64))))])) _
    rw [hrv]
    refine XT.lstore X_1.here hx rfl (hb hby at_56) rfl (l' := (lc108 p1 p2 p3 p4 fl sv mv rv)) rfl ?_
    refine XT.lload X_1.here hx rfl (hb hby at_58) rfl ?_
    refine XS.iload X_1.here hx rfl (hb hby at_60) rfl ?_
    show oS pP eE below T_1 (mkF mM 62 (lc108 p1 p2 p3 p4 fl sv mv rv) [(.int sv), (.long mv)]) _
    refine XT.lshl X_1.here hx rfl (hb hby at_62) rfl ?_
    refine XT.lload X_1.here hx rfl (hb hby at_63) rfl ?_
    show oS pP eE below T_1 (mkF mM 65 (lc108 p1 p2 p3 p4 fl sv mv rv) [(.long rv), (.long (mv <<< (sv.toInt64 &&& 63)))]) _
    refine XT.ladd X_1.here hx rfl (hb hby at_65) rfl ?_
    show Steps pP.tables eE below (T_1.setTop (mkF mM 66 (lc108 p1 p2 p3 p4 fl sv mv rv) [(.long ((mv <<< (sv.toInt64 &&& 63)) + rv))])) _
    rw [hvv]
    refine XT.lstore X_1.here hx rfl (hb hby at_66) rfl (l' := (lc109 p1 p2 p3 p4 fl sv mv rv vv)) rfl ?_
    refine XS.iload X_1.here hx rfl (hb hby at_68) rfl ?_
    refine XS.ifYes X_1.here hx rfl (pc0 := 70) (pc' := 80) rfl (hb hby at_70) rfl (by decide) (by decide) (by decide) ?_
    refine XT.lload X_1.here hx rfl (hb hby at_80) rfl ?_
    show oS pP eE below T_1 (mkF mM 82 (lc109 p1 p2 p3 p4 fl sv mv rv vv) [(.long vv)]) _
    refine XS.l2dS X_1.here hx rfl (hb hby at_82) rfl rfl ?_
    show oS pP eE below T_1 (mkF mM 83 (lc109 p1 p2 p3 p4 fl sv mv rv vv) [(.double (FP.l2d vv))]) _
    refine XS.dstore X_1.here hx rfl (hb hby at_83) rfl (l' := (lc110 p1 p2 p3 p4 fl sv mv rv vv)) rfl ?_
    refine XS.aload X_1.here hx rfl (hb hby at_85) rfl rfl ?_
    show oS pP eE below T_1 (mkF mM 87 (lc110 p1 p2 p3 p4 fl sv mv rv vv) [(.ref fl)]) _
    refine XS.dload X_1.here hx rfl (hb hby at_87) rfl ?_
    show oS pP eE below T_1 (mkF mM 89 (lc110 p1 p2 p3 p4 fl sv mv rv vv) [(.double (FP.l2d vv)), (.ref fl)]) _
    refine st_2.trans ?_
    show oS pP eE below T_2 (mkF mM 92 (lc110 p1 p2 p3 p4 fl sv mv rv vv) [(.double (FP.f2d (FP.d2f (FP.l2d vv))))]) _
    refine XS.dstore X_2.here hx rfl (hb hby at_92) rfl (l' := (lc111 p1 p2 p3 p4 fl sv mv rv vv)) rfl ?_
    refine XS.iload X_2.here hx rfl (hb hby at_94) rfl ?_
    refine XS.bipush X_2.here hx rfl (hb hby at_96) ?_
    refine XS.icmpYes X_2.here hx rfl (pc0 := 98) (pc' := 115) rfl (hb hby at_98) rfl (by decide) (by decide) (by decide) ?_
    refine XS.iload X_2.here hx rfl (hb hby at_115) rfl ?_
    refine XS.ifNo X_2.here hx rfl (hb hby at_117) rfl (XT.i0_ne_f hs0) ?_
    refine XT.lload X_2.here hx rfl (hb hby at_120) rfl ?_
    refine XT.lstore X_2.here hx rfl (hb hby at_122) rfl (l' := (lc112 p1 p2 p3 p4 fl sv mv rv vv)) rfl ?_
    show oS pP eE below T_2 (mkF mM 124 (lc112 p1 p2 p3 p4 fl sv mv rv vv) []) _
    refine XS.goto X_2.here hx rfl (pc0 := 124) (pc' := 187) rfl (hb hby at_124) (by decide) (by decide) ?_
    refine XT.lload X_2.here hx rfl (hb hby at_187) rfl ?_
    refine XS.iload X_2.here hx rfl (hb hby at_189) rfl ?_
    show oS pP eE below T_2 (mkF mM 191 (lc112 p1 p2 p3 p4 fl sv mv rv vv) [(.int sv), (.long mv)]) _
    refine XT.lshl X_2.here hx rfl (hb hby at_191) rfl ?_
    refine XT.lstore X_2.here hx rfl (hb hby at_192) rfl (l' := (lc113 p1 p2 p3 p4 fl sv mv rv vv)) rfl ?_
    refine XS.iload X_2.here hx rfl (hb hby at_194) rfl ?_
    refine XS.ifYes X_2.here hx rfl (pc0 := 196) (pc' := 206) rfl (hb hby at_196) rfl (by decide) (by decide) (by decide) ?_
    refine XT.lload X_2.here hx rfl (hb hby at_206) rfl ?_
    show oS pP eE below T_2 (mkF mM 208 (lc113 p1 p2 p3 p4 fl sv mv rv vv) [(.long (mv <<< (sv.toInt64 &&& 63)))]) _
    refine XS.l2dS X_2.here hx rfl (hb hby at_208) rfl rfl ?_
    show oS pP eE below T_2 (mkF mM 209 (lc113 p1 p2 p3 p4 fl sv mv rv vv) [(.double (FP.l2d (mv <<< (sv.toInt64 &&& 63))))]) _
    refine XS.dstore X_2.here hx rfl (hb hby at_209) rfl (l' := (lc114 p1 p2 p3 p4 fl sv mv rv vv)) rfl ?_
    show oS pP eE below T_2 (mkF mM 211 (lc114 p1 p2 p3 p4 fl sv mv rv vv) []) _
    refine XS.dload X_2.here hx rfl (hb hby at_211) rfl ?_
    show oS pP eE below T_2 (mkF mM 213 (lc114 p1 p2 p3 p4 fl sv mv rv vv) [(.double (FP.f2d (FP.d2f (FP.l2d vv))))]) _
    refine XS.dload X_2.here hx rfl (hb hby at_213) rfl ?_
    show oS pP eE below T_2 (mkF mM 215 (lc114 p1 p2 p3 p4 fl sv mv rv vv) [(.double (FP.l2d (mv <<< (sv.toInt64 &&& 63)))), (.double (FP.f2d (FP.d2f (FP.l2d vv))))]) _
    refine XS.dcmpS X_2.here hx rfl (hb hby at_215) rfl rfl ?_
    refine XS.ifNo X_2.here hx rfl (hb hby at_216) rfl (XT.i0_ne_f hfin) ?_
    refine XS.iconst X_2.here hx rfl (hb hby at_219) ?_
    refine XS.goto X_2.here hx rfl (pc0 := 220) (pc' := 224) rfl (hb hby at_220) (by decide) (by decide) ?_
    show oS pP eE below T_2 (mkF mM 224 (lc114 p1 p2 p3 p4 fl sv mv rv vv) [(.int (1 : Int32))]) _
    exact retN X_2 hx (t := .boolean) Bd.returns (by simp) (hb hby at_224) hr
  · show Q_law60z Z p1 p2 p3 p4 sv mv rv vv fl h0 n0 _ T_2.heap _
    exact ⟨rfl, N_2⟩
abbrev lc115 (p1 : Int32) (p2 : Int32) (p3 : Int32) (p4 : Int64) (fl : Addr) (sv : Int32) (mv : Int64) (rv : Int64) (vv : Int64) : Array Slot := #[.val (.int p1), .val (.int p2), .val (.int p3), .val (.long p4), .second, .val (.int (6 : Int32)), .val (.int (0 : Int32)), .val (.ref fl), .val (.int sv), .val (.long mv), .second, .val (.long rv), .second, .val (.long vv), .second, .val (.double (FP.l2d vv)), .second, .val (.double (FP.f2d (FP.d2f (FP.l2d vv)))), .second, .unset, .unset, .val (.long ((1 : Int64) <<< ((sv - (1 : Int32)).toInt64 &&& 63))), .second, .unset, .unset]
abbrev lc116 (p1 : Int32) (p2 : Int32) (p3 : Int32) (p4 : Int64) (fl : Addr) (sv : Int32) (mv : Int64) (rv : Int64) (vv : Int64) : Array Slot := #[.val (.int p1), .val (.int p2), .val (.int p3), .val (.long p4), .second, .val (.int (6 : Int32)), .val (.int (0 : Int32)), .val (.ref fl), .val (.int sv), .val (.long mv), .second, .val (.long rv), .second, .val (.long vv), .second, .val (.double (FP.l2d vv)), .second, .val (.double (FP.f2d (FP.d2f (FP.l2d vv)))), .second, .val (.long mv), .second, .val (.long ((1 : Int64) <<< ((sv - (1 : Int32)).toInt64 &&& 63))), .second, .unset, .unset]
theorem ef_law60l (mM : MethodId) (x0 : Int32) (x1 : Int32) (x2 : Int32) (x3 : Int64) : entryFrame mM #[(.int x0), (.int x1), (.int x2), (.long x3)] maxLocals = mkF mM 0 #[.val (.int x0), .val (.int x1), .val (.int x2), .val (.long x3), .second, .unset, .unset, .unset, .unset, .unset, .unset, .unset, .unset, .unset, .unset, .unset, .unset, .unset, .unset, .unset, .unset, .unset, .unset, .unset, .unset] [] := by first | (simp [entryFrame, mkF, argsToLocals, Value.category, maxLocals]; done) | rfl
def Q_law60l (Z : State) (p1 : Int32) (p2 : Int32) (p3 : Int32) (p4 : Int64) (sv : Int32) (mv : Int64) (rv : Int64) (vv : Int64) (fl : Addr) (h0 : Heap) (n0 : Nat) (v_ : Option Value) (h_ : Heap) (L_ : List Loc) : Prop := v_ = some (.int (1 : Int32)) ∧ Fr n0 L_
set_option maxRecDepth 65536 in
set_option maxHeartbeats 40000000 in
theorem rm_law60l (l : Launch) (Z : State) (a0 : Array Value) (hw : ∀ d ∈ tables_1, d.before a0 Z = true) (ws : List Jvm.Cond) (p1 : Int32) (p2 : Int32) (p3 : Int32) (p4 : Int64) (sv : Int32) (mv : Int64) (rv : Int64) (vv : Int64) (fl : Addr) (h0 : Heap) (n0 : Nat) (Z0 : n0 ≤ h0.size) (hk : (p1 &&& (7 : Int32)) = (6 : Int32)) (hg : ((p1 >>> ((3 : Int32) &&& 31)) &&& (1 : Int32)) = 0) (hsv : ((p3 &&& (31 : Int32)) % (30 : Int32)) = sv) (hmv : ((8388608 : Int64) + ((p2 &&& (8388607 : Int32)).toInt64)) = mv) (hrv : (p4 &&& (((1 : Int64) <<< (sv.toInt64 &&& 63)) - (1 : Int64))) = rv) (hvv : ((mv <<< (sv.toInt64 &&& 63)) + rv) = vv) (hnn : Jvm.Free.Fl.NoNaN64 (FP.l2d vv)) (S_SampleType_FLOAT32 : Sta Z h0 "com/example/greenweft/greenweft/map/SampleType" "FLOAT32" "Lcom/example/greenweft/greenweft/map/SampleType;" (.ref fl)) (E_fl : Exa Z h0 fl "com/example/greenweft/greenweft/map/SampleType") (hs0 : ¬ sv = 0) (hb1 : rv < ((1 : Int64) <<< ((sv - (1 : Int32)).toInt64 &&& 63))) (hfin : cmpValue (FP.dcmp (FP.f2d (FP.d2f (FP.l2d vv))) (FP.l2d (mv <<< (sv.toInt64 &&& 63)))) .l = 0) :
    MetFree l x (head1 (Jvm.Cond.code x code maxLocals ret :: ws) room_1) (fun aa_ U_ => aa_ = #[(.int p1), (.int p2), (.int p3), (.long p4)] ∧ Z.Warmed39 U_.vm ∧ U_.heap = h0) (fun _ _ _ _ _ => True) (fun _ U_ o_ U'_ => ∃ v_ L_, o_ = .returned v_ ∧ Q_law60l Z p1 p2 p3 p4 sv mv rv vv fl h0 n0 v_ U'_.heap L_ ∧ FrameEnd U_ o_ U'_ L_ 0 0) := by
  refine MetFree.of_bodySF (plainFor_of_name pn_0) hisR ?_
  intro pP eE sS mM argsA below meth cC s₁ Bd hml0 hP hK
  obtain ⟨rfl, hZ, hh⟩ := hP
  have hx := Bd.exec
  have hby := Bd.bytes
  have hml : cC.maxLocals = 25 := hml0
  have hown : sS.vm.findClass "com/example/greenweft/greenweft/map/SampleTypeStoredPinLaw" = some mM.cls := findClass_of_methodNamed Bd.named
  have hnm := (name_of_methodNamed Bd.named Bd.method).1
  have X0 : Stand pP l eE room_1 sS mM #[(.int p1), (.int p2), (.int p3), (.long p4)] below meth cC s₁ [] 0 0 := Stand.of_body Bd
  have e0 : s₁.heap = h0 := by rw [← hh, Bd.state]; rfl
  have N0 := Fr.nil n0
  have pre0 : ∀ t_, Steps pP.tables eE below (s₁.setTop (mkF mM 0 #[.val (.int p1), .val (.int p2), .val (.int p3), .val (.long p4), .second, .unset, .unset, .unset, .unset, .unset, .unset, .unset, .unset, .unset, .unset, .unset, .unset, .unset, .unset, .unset, .unset, .unset, .unset, .unset, .unset] [])) t_ → Steps pP.tables eE below (s₁.setTop (entryFrame mM #[(.int p1), (.int p2), (.int p3), (.long p4)] maxLocals)) t_ := fun t_ k_ => castTop (ef_law60l mM p1 p2 p3 p4) k_
  obtain ⟨_, _, ⟨T_1, L_1, k_1, n_1⟩, -, X_1, ⟨Lc_1, hQ_1, l_1, y_1, z_1⟩, st_1⟩ := Jvm.LawKit.callS X0 hx (y := MN0) hown (mvT hZ (ow hw 0 rfl)) (mvT hZ (ow hw 1 rfl)) (mvT hZ (ow hw 2 rfl)) (mvT hZ (ow hw 3 rfl)) (by decide) (backOf (W := 0) (rm_pick6 l Z a0 hw [] fl h0 n0 Z0 S_SampleType_FLOAT32) hZ (ow hw 3 rfl) (ow hw 2 rfl) (by decide) (by decide)) (g := (mkF mM 23 (lc104 p1 p2 p3 p4) [(.int (6 : Int32))])) rfl (by rw [hml]; rfl) (argsL := [(.int (6 : Int32))]) (rest := []) (lenOf pd_0 rfl) rfl (by show 2 * 0 + _ ≤ _; exact Nat.le_of_eq rfl) (hb hby at_23) (fun _ _ => ⟨rfl, e0, (by decide : 0 + 0 ≤ _), (by decide : 0 + 0 ≤ _)⟩)
  dsimp only [Pt.U, Pt.locs, Pt.cells, Pt.slots] at X_1 l_1 y_1 z_1 st_1 hQ_1
  subst l_1 y_1 z_1
  obtain ⟨rfl, N_1q, eh_1⟩ := hQ_1
  have N_1 := Fr.app N0 N_1q
  obtain ⟨cq_2, kq_2, q_2a, q_2b, q_2c⟩ := isOf hZ eh_1 E_fl
  obtain ⟨_, _, ⟨T_2, L_2, k_2, n_2⟩, -, X_2, ⟨Lc_2, hQ_2, l_2, y_2, z_2⟩, st_2⟩ := X_1.virtualBack hx (y := MN1) (z := MN1) hown (mvT hZ (ow hw 9 rfl)) (mvT hZ (ow hw 10 rfl)) (notFace_of_selects (args := #[]) (mvT hZ (ow hw 12 rfl))) (mvT hZ (ow hw 12 rfl)) (mvT hZ (ow hw 11 rfl)) (by decide) (backOf (W := 0) (rm_stf l Z a0 hw [] fl (FP.l2d vv) h0 n0 Z0 S_SampleType_FLOAT32 hnn) hZ (ow hw 13 rfl) (ow hw 5 rfl) (by decide) (by decide)) q_2a q_2c (g := (mkF mM 89 (lc110 p1 p2 p3 p4 fl sv mv rv vv) [(.double (FP.l2d vv)), (.ref fl)])) rfl (by rw [hml]; rfl) (Steps.refl _) (argsL := [(.double (FP.l2d vv))]) (rest := []) (lenOf pd_1 rfl) rfl (by show 2 * 0 + _ ≤ _; exact Nat.le_of_eq rfl) (hb hby at_89) (fun _ _ => ⟨rfl, eh_1, (by decide : 0 + 0 ≤ _), (by decide : 0 + 0 ≤ _)⟩)
  dsimp only [Pt.U, Pt.locs, Pt.cells, Pt.slots] at X_2 l_2 y_2 z_2 st_2 hQ_2
  subst l_2 y_2 z_2
  obtain ⟨rfl, N_2q, eh_2⟩ := hQ_2
  have N_2 := Fr.app N_1 N_2q
  obtain ⟨fs, hr, hrun, hended, hW, hsame⟩ := X_2.leave (v := some (.int (1 : Int32))) (fun h => by rw [Bd.returns] at h; cases h)
  refine ⟨_, _, pre0 _ ?_, hrun, hended, _, _, rfl, ?_, ⟨_, rfl⟩, hW, hsame.mono (by decide) (by decide)⟩
  · show oS pP eE below s₁ (mkF mM 0 (lc0 p1 p2 p3 p4) []) _
    refine XS.iloadN X0.here hx rfl (hb hby at_0) rfl ?_
    refine XS.bipush X0.here hx rfl (hb hby at_1) ?_
    show oS pP eE below s₁ (mkF mM 3 (lc0 p1 p2 p3 p4) [(.int (7 : Int32)), (.int p1)]) _
    refine XS.iand X0.here hx rfl (hb hby at_3) rfl ?_
    show Steps pP.tables eE below (s₁.setTop (mkF mM 4 (lc0 p1 p2 p3 p4) [(.int (p1 &&& (7 : Int32)))])) _
    rw [hk]
    refine XS.istore X0.here hx rfl (hb hby at_4) rfl (l' := (lc103 p1 p2 p3 p4)) rfl ?_
    refine XS.iloadN X0.here hx rfl (hb hby at_6) rfl ?_
    refine XS.iconst X0.here hx rfl (hb hby at_7) ?_
    show oS pP eE below s₁ (mkF mM 8 (lc103 p1 p2 p3 p4) [(.int (3 : Int32)), (.int p1)]) _
    refine XT.ishr X0.here hx rfl (hb hby at_8) rfl ?_
    refine XS.iconst X0.here hx rfl (hb hby at_9) ?_
    show oS pP eE below s₁ (mkF mM 10 (lc103 p1 p2 p3 p4) [(.int (1 : Int32)), (.int (p1 >>> ((3 : Int32) &&& 31)))]) _
    refine XS.iand X0.here hx rfl (hb hby at_10) rfl ?_
    refine XS.ifYes X0.here hx rfl (pc0 := 11) (pc' := 18) rfl (hb hby at_11) rfl (XT.i0_eq_t hg) (by decide) (by decide) ?_
    refine XS.iconst X0.here hx rfl (hb hby at_18) ?_
    refine XS.istore X0.here hx rfl (hb hby at_19) rfl (l' := (lc104 p1 p2 p3 p4)) rfl ?_
    refine XS.iload X0.here hx rfl (hb hby at_21) rfl ?_
    show oS pP eE below s₁ (mkF mM 23 (lc104 p1 p2 p3 p4) [(.int (6 : Int32))]) _
    refine st_1 _ ?_
    show oS pP eE below T_1 (mkF mM 26 (lc104 p1 p2 p3 p4) [(.ref fl)]) _
    refine XS.astore X_1.here hx rfl (hb hby at_26) rfl rfl (l' := (lc105 p1 p2 p3 p4 fl)) rfl ?_
    refine XS.iloadN X_1.here hx rfl (hb hby at_28) rfl ?_
    refine XS.bipush X_1.here hx rfl (hb hby at_29) ?_
    show oS pP eE below T_1 (mkF mM 31 (lc105 p1 p2 p3 p4 fl) [(.int (31 : Int32)), (.int p3)]) _
    refine XS.iand X_1.here hx rfl (hb hby at_31) rfl ?_
    refine XS.bipush X_1.here hx rfl (hb hby at_32) ?_
    show oS pP eE below T_1 (mkF mM 34 (lc105 p1 p2 p3 p4 fl) [(.int (30 : Int32)), (.int (p3 &&& (31 : Int32)))]) _
    refine iremM X_1 hx rfl (hb hby at_34) rfl (by decide) ?_
    show Steps pP.tables eE below (T_1.setTop (mkF mM 35 (lc105 p1 p2 p3 p4 fl) [(.int ((p3 &&& (31 : Int32)) % (30 : Int32)))])) _
    rw [hsv]
    refine XS.istore X_1.here hx rfl (hb hby at_35) rfl (l' := (lc106 p1 p2 p3 p4 fl sv)) rfl ?_
    show oS pP eE below T_1 (mkF mM 37 (lc106 p1 p2 p3 p4 fl sv) []) _
    refine X_1.ldc2J hx hown (mvT hZ (ow hw 7 rfl)) (g := (mkF mM 37 (lc106 p1 p2 p3 p4 fl sv) [])) rfl (hb hby at_37) ?_
    refine XS.iloadN X_1.here hx rfl (hb hby at_40) rfl ?_
    show oS pP eE below T_1 (mkF mM 41 (lc106 p1 p2 p3 p4 fl sv) [(.int p2), (.long (8388608 : Int64))]) _
    refine X_1.ldcI hx hown (mvT hZ (ow hw 8 rfl)) (g := (mkF mM 41 (lc106 p1 p2 p3 p4 fl sv) [(.int p2), (.long (8388608 : Int64))])) rfl (hb hby at_41) ?_
    show oS pP eE below T_1 (mkF mM 43 (lc106 p1 p2 p3 p4 fl sv) [(.int (8388607 : Int32)), (.int p2), (.long (8388608 : Int64))]) _
    refine XS.iand X_1.here hx rfl (hb hby at_43) rfl ?_
    show oS pP eE below T_1 (mkF mM 44 (lc106 p1 p2 p3 p4 fl sv) [(.int (p2 &&& (8388607 : Int32))), (.long (8388608 : Int64))]) _
    refine XT.i2l X_1.here hx rfl (hb hby at_44) rfl ?_
    show oS pP eE below T_1 (mkF mM 45 (lc106 p1 p2 p3 p4 fl sv) [(.long ((p2 &&& (8388607 : Int32)).toInt64)), (.long (8388608 : Int64))]) _
    refine XT.ladd X_1.here hx rfl (hb hby at_45) rfl ?_
    show Steps pP.tables eE below (T_1.setTop (mkF mM 46 (lc106 p1 p2 p3 p4 fl sv) [(.long ((8388608 : Int64) + ((p2 &&& (8388607 : Int32)).toInt64)))])) _
    rw [hmv]
    refine XT.lstore X_1.here hx rfl (hb hby at_46) rfl (l' := (lc107 p1 p2 p3 p4 fl sv mv)) rfl ?_
    refine XT.lloadN X_1.here hx rfl (hb hby at_48) rfl ?_
    refine XT.lconst X_1.here hx rfl (hb hby at_49) ?_
    refine XS.iload X_1.here hx rfl (hb hby at_50) rfl ?_
    show oS pP eE below T_1 (mkF mM 52 (lc107 p1 p2 p3 p4 fl sv mv) [(.int sv), (.long (1 : Int64)), (.long p4)]) _
    refine XT.lshl X_1.here hx rfl (hb hby at_52) rfl ?_
    refine XT.lconst X_1.here hx rfl (hb hby at_53) ?_
    show oS pP eE below T_1 (mkF mM 54 (lc107 p1 p2 p3 p4 fl sv mv) [(.long (1 : Int64)), (.long ((1 : Int64) <<< (sv.toInt64 &&& 63))), (.long p4)]) _
    refine XT.lsub X_1.here hx rfl (hb hby at_54) rfl ?_
    show oS pP eE below T_1 (mkF mM 55 (lc107 p1 p2 p3 p4 fl sv mv) [(.long (((1 : Int64) <<< (sv.toInt64 &&& 63)) - (1 : Int64))), (.long p4)]) _
    refine XT.land X_1.here hx rfl (hb hby at_55) rfl ?_
    show Steps pP.tables eE below (T_1.setTop (mkF mM 56 (lc107 p1 p2 p3 p4 fl sv mv) [(.long (p4 &&& (((1 : Int64) <<< (sv.toInt64 &&& 63)) - (1 : Int64))))])) _
    rw [hrv]
    refine XT.lstore X_1.here hx rfl (hb hby at_56) rfl (l' := (lc108 p1 p2 p3 p4 fl sv mv rv)) rfl ?_
    refine XT.lload X_1.here hx rfl (hb hby at_58) rfl ?_
    refine XS.iload X_1.here hx rfl (hb hby at_60) rfl ?_
    show oS pP eE below T_1 (mkF mM 62 (lc108 p1 p2 p3 p4 fl sv mv rv) [(.int sv), (.long mv)]) _
    refine XT.lshl X_1.here hx rfl (hb hby at_62) rfl ?_
    refine XT.lload X_1.here hx rfl (hb hby at_63) rfl ?_
    show oS pP eE below T_1 (mkF mM 65 (lc108 p1 p2 p3 p4 fl sv mv rv) [(.long rv), (.long (mv <<< (sv.toInt64 &&& 63)))]) _
    refine XT.ladd X_1.here hx rfl (hb hby at_65) rfl ?_
    show Steps pP.tables eE below (T_1.setTop (mkF mM 66 (lc108 p1 p2 p3 p4 fl sv mv rv) [(.long ((mv <<< (sv.toInt64 &&& 63)) + rv))])) _
    rw [hvv]
    refine XT.lstore X_1.here hx rfl (hb hby at_66) rfl (l' := (lc109 p1 p2 p3 p4 fl sv mv rv vv)) rfl ?_
    refine XS.iload X_1.here hx rfl (hb hby at_68) rfl ?_
    refine XS.ifYes X_1.here hx rfl (pc0 := 70) (pc' := 80) rfl (hb hby at_70) rfl (by decide) (by decide) (by decide) ?_
    refine XT.lload X_1.here hx rfl (hb hby at_80) rfl ?_
    show oS pP eE below T_1 (mkF mM 82 (lc109 p1 p2 p3 p4 fl sv mv rv vv) [(.long vv)]) _
    refine XS.l2dS X_1.here hx rfl (hb hby at_82) rfl rfl ?_
    show oS pP eE below T_1 (mkF mM 83 (lc109 p1 p2 p3 p4 fl sv mv rv vv) [(.double (FP.l2d vv))]) _
    refine XS.dstore X_1.here hx rfl (hb hby at_83) rfl (l' := (lc110 p1 p2 p3 p4 fl sv mv rv vv)) rfl ?_
    refine XS.aload X_1.here hx rfl (hb hby at_85) rfl rfl ?_
    show oS pP eE below T_1 (mkF mM 87 (lc110 p1 p2 p3 p4 fl sv mv rv vv) [(.ref fl)]) _
    refine XS.dload X_1.here hx rfl (hb hby at_87) rfl ?_
    show oS pP eE below T_1 (mkF mM 89 (lc110 p1 p2 p3 p4 fl sv mv rv vv) [(.double (FP.l2d vv)), (.ref fl)]) _
    refine st_2.trans ?_
    show oS pP eE below T_2 (mkF mM 92 (lc110 p1 p2 p3 p4 fl sv mv rv vv) [(.double (FP.f2d (FP.d2f (FP.l2d vv))))]) _
    refine XS.dstore X_2.here hx rfl (hb hby at_92) rfl (l' := (lc111 p1 p2 p3 p4 fl sv mv rv vv)) rfl ?_
    refine XS.iload X_2.here hx rfl (hb hby at_94) rfl ?_
    refine XS.bipush X_2.here hx rfl (hb hby at_96) ?_
    refine XS.icmpYes X_2.here hx rfl (pc0 := 98) (pc' := 115) rfl (hb hby at_98) rfl (by decide) (by decide) (by decide) ?_
    refine XS.iload X_2.here hx rfl (hb hby at_115) rfl ?_
    refine XS.ifYes X_2.here hx rfl (pc0 := 117) (pc' := 127) rfl (hb hby at_117) rfl (XT.i0_ne_t hs0) (by decide) (by decide) ?_
    refine XT.lconst X_2.here hx rfl (hb hby at_127) ?_
    refine XS.iload X_2.here hx rfl (hb hby at_128) rfl ?_
    show oS pP eE below T_2 (mkF mM 130 (lc111 p1 p2 p3 p4 fl sv mv rv vv) [(.int sv), (.long (1 : Int64))]) _
    refine XS.iconst X_2.here hx rfl (hb hby at_130) ?_
    show oS pP eE below T_2 (mkF mM 131 (lc111 p1 p2 p3 p4 fl sv mv rv vv) [(.int (1 : Int32)), (.int sv), (.long (1 : Int64))]) _
    refine XS.isub X_2.here hx rfl (hb hby at_131) rfl ?_
    show oS pP eE below T_2 (mkF mM 132 (lc111 p1 p2 p3 p4 fl sv mv rv vv) [(.int (sv - (1 : Int32))), (.long (1 : Int64))]) _
    refine XT.lshl X_2.here hx rfl (hb hby at_132) rfl ?_
    refine XT.lstore X_2.here hx rfl (hb hby at_133) rfl (l' := (lc115 p1 p2 p3 p4 fl sv mv rv vv)) rfl ?_
    refine XT.lload X_2.here hx rfl (hb hby at_135) rfl ?_
    refine XT.lload X_2.here hx rfl (hb hby at_137) rfl ?_
    show oS pP eE below T_2 (mkF mM 139 (lc115 p1 p2 p3 p4 fl sv mv rv vv) [(.long ((1 : Int64) <<< ((sv - (1 : Int32)).toInt64 &&& 63))), (.long rv)]) _
    refine XT.lcmp X_2.here hx rfl (hb hby at_139) rfl ?_
    refine XS.ifNo X_2.here hx rfl (hb hby at_140) rfl (XT.ll_ge_f hb1) ?_
    refine XT.lload X_2.here hx rfl (hb hby at_143) rfl ?_
    refine XT.lstore X_2.here hx rfl (hb hby at_145) rfl (l' := (lc116 p1 p2 p3 p4 fl sv mv rv vv)) rfl ?_
    refine XS.goto X_2.here hx rfl (pc0 := 147) (pc' := 187) rfl (hb hby at_147) (by decide) (by decide) ?_
    refine XT.lload X_2.here hx rfl (hb hby at_187) rfl ?_
    refine XS.iload X_2.here hx rfl (hb hby at_189) rfl ?_
    show oS pP eE below T_2 (mkF mM 191 (lc116 p1 p2 p3 p4 fl sv mv rv vv) [(.int sv), (.long mv)]) _
    refine XT.lshl X_2.here hx rfl (hb hby at_191) rfl ?_
    refine XT.lstore X_2.here hx rfl (hb hby at_192) rfl (l' := (lc113 p1 p2 p3 p4 fl sv mv rv vv)) rfl ?_
    refine XS.iload X_2.here hx rfl (hb hby at_194) rfl ?_
    refine XS.ifYes X_2.here hx rfl (pc0 := 196) (pc' := 206) rfl (hb hby at_196) rfl (by decide) (by decide) (by decide) ?_
    refine XT.lload X_2.here hx rfl (hb hby at_206) rfl ?_
    show oS pP eE below T_2 (mkF mM 208 (lc113 p1 p2 p3 p4 fl sv mv rv vv) [(.long (mv <<< (sv.toInt64 &&& 63)))]) _
    refine XS.l2dS X_2.here hx rfl (hb hby at_208) rfl rfl ?_
    show oS pP eE below T_2 (mkF mM 209 (lc113 p1 p2 p3 p4 fl sv mv rv vv) [(.double (FP.l2d (mv <<< (sv.toInt64 &&& 63))))]) _
    refine XS.dstore X_2.here hx rfl (hb hby at_209) rfl (l' := (lc114 p1 p2 p3 p4 fl sv mv rv vv)) rfl ?_
    show oS pP eE below T_2 (mkF mM 211 (lc114 p1 p2 p3 p4 fl sv mv rv vv) []) _
    refine XS.dload X_2.here hx rfl (hb hby at_211) rfl ?_
    show oS pP eE below T_2 (mkF mM 213 (lc114 p1 p2 p3 p4 fl sv mv rv vv) [(.double (FP.f2d (FP.d2f (FP.l2d vv))))]) _
    refine XS.dload X_2.here hx rfl (hb hby at_213) rfl ?_
    show oS pP eE below T_2 (mkF mM 215 (lc114 p1 p2 p3 p4 fl sv mv rv vv) [(.double (FP.l2d (mv <<< (sv.toInt64 &&& 63)))), (.double (FP.f2d (FP.d2f (FP.l2d vv))))]) _
    refine XS.dcmpS X_2.here hx rfl (hb hby at_215) rfl rfl ?_
    refine XS.ifNo X_2.here hx rfl (hb hby at_216) rfl (XT.i0_ne_f hfin) ?_
    refine XS.iconst X_2.here hx rfl (hb hby at_219) ?_
    refine XS.goto X_2.here hx rfl (pc0 := 220) (pc' := 224) rfl (hb hby at_220) (by decide) (by decide) ?_
    show oS pP eE below T_2 (mkF mM 224 (lc114 p1 p2 p3 p4 fl sv mv rv vv) [(.int (1 : Int32))]) _
    exact retN X_2 hx (t := .boolean) Bd.returns (by simp) (hb hby at_224) hr
  · show Q_law60l Z p1 p2 p3 p4 sv mv rv vv fl h0 n0 _ T_2.heap _
    exact ⟨rfl, N_2⟩
abbrev lc117 (p1 : Int32) (p2 : Int32) (p3 : Int32) (p4 : Int64) (fl : Addr) (sv : Int32) (mv : Int64) (rv : Int64) (vv : Int64) : Array Slot := #[.val (.int p1), .val (.int p2), .val (.int p3), .val (.long p4), .second, .val (.int (6 : Int32)), .val (.int (0 : Int32)), .val (.ref fl), .val (.int sv), .val (.long mv), .second, .val (.long rv), .second, .val (.long vv), .second, .val (.double (FP.l2d vv)), .second, .val (.double (FP.f2d (FP.d2f (FP.l2d vv)))), .second, .val (.long (mv + (1 : Int64))), .second, .val (.long ((1 : Int64) <<< ((sv - (1 : Int32)).toInt64 &&& 63))), .second, .unset, .unset]
abbrev lc118 (p1 : Int32) (p2 : Int32) (p3 : Int32) (p4 : Int64) (fl : Addr) (sv : Int32) (mv : Int64) (rv : Int64) (vv : Int64) : Array Slot := #[.val (.int p1), .val (.int p2), .val (.int p3), .val (.long p4), .second, .val (.int (6 : Int32)), .val (.int (0 : Int32)), .val (.ref fl), .val (.int sv), .val (.long mv), .second, .val (.long rv), .second, .val (.long vv), .second, .val (.double (FP.l2d vv)), .second, .val (.double (FP.f2d (FP.d2f (FP.l2d vv)))), .second, .val (.long (mv + (1 : Int64))), .second, .val (.long ((mv + (1 : Int64)) <<< (sv.toInt64 &&& 63))), .second, .unset, .unset]
abbrev lc119 (p1 : Int32) (p2 : Int32) (p3 : Int32) (p4 : Int64) (fl : Addr) (sv : Int32) (mv : Int64) (rv : Int64) (vv : Int64) : Array Slot := #[.val (.int p1), .val (.int p2), .val (.int p3), .val (.long p4), .second, .val (.int (6 : Int32)), .val (.int (0 : Int32)), .val (.ref fl), .val (.int sv), .val (.long mv), .second, .val (.long rv), .second, .val (.long vv), .second, .val (.double (FP.l2d vv)), .second, .val (.double (FP.f2d (FP.d2f (FP.l2d vv)))), .second, .val (.long (mv + (1 : Int64))), .second, .val (.long ((mv + (1 : Int64)) <<< (sv.toInt64 &&& 63))), .second, .val (.double (FP.l2d ((mv + (1 : Int64)) <<< (sv.toInt64 &&& 63)))), .second]
theorem ef_law60g (mM : MethodId) (x0 : Int32) (x1 : Int32) (x2 : Int32) (x3 : Int64) : entryFrame mM #[(.int x0), (.int x1), (.int x2), (.long x3)] maxLocals = mkF mM 0 #[.val (.int x0), .val (.int x1), .val (.int x2), .val (.long x3), .second, .unset, .unset, .unset, .unset, .unset, .unset, .unset, .unset, .unset, .unset, .unset, .unset, .unset, .unset, .unset, .unset, .unset, .unset, .unset, .unset] [] := by first | (simp [entryFrame, mkF, argsToLocals, Value.category, maxLocals]; done) | rfl
def Q_law60g (Z : State) (p1 : Int32) (p2 : Int32) (p3 : Int32) (p4 : Int64) (sv : Int32) (mv : Int64) (rv : Int64) (vv : Int64) (fl : Addr) (h0 : Heap) (n0 : Nat) (v_ : Option Value) (h_ : Heap) (L_ : List Loc) : Prop := v_ = some (.int (1 : Int32)) ∧ Fr n0 L_
set_option maxRecDepth 65536 in
set_option maxHeartbeats 40000000 in
theorem rm_law60g (l : Launch) (Z : State) (a0 : Array Value) (hw : ∀ d ∈ tables_1, d.before a0 Z = true) (ws : List Jvm.Cond) (p1 : Int32) (p2 : Int32) (p3 : Int32) (p4 : Int64) (sv : Int32) (mv : Int64) (rv : Int64) (vv : Int64) (fl : Addr) (h0 : Heap) (n0 : Nat) (Z0 : n0 ≤ h0.size) (hk : (p1 &&& (7 : Int32)) = (6 : Int32)) (hg : ((p1 >>> ((3 : Int32) &&& 31)) &&& (1 : Int32)) = 0) (hsv : ((p3 &&& (31 : Int32)) % (30 : Int32)) = sv) (hmv : ((8388608 : Int64) + ((p2 &&& (8388607 : Int32)).toInt64)) = mv) (hrv : (p4 &&& (((1 : Int64) <<< (sv.toInt64 &&& 63)) - (1 : Int64))) = rv) (hvv : ((mv <<< (sv.toInt64 &&& 63)) + rv) = vv) (hnn : Jvm.Free.Fl.NoNaN64 (FP.l2d vv)) (S_SampleType_FLOAT32 : Sta Z h0 "com/example/greenweft/greenweft/map/SampleType" "FLOAT32" "Lcom/example/greenweft/greenweft/map/SampleType;" (.ref fl)) (E_fl : Exa Z h0 fl "com/example/greenweft/greenweft/map/SampleType") (hs0 : ¬ sv = 0) (hb1 : ¬ rv < ((1 : Int64) <<< ((sv - (1 : Int32)).toInt64 &&& 63))) (hb2 : ((1 : Int64) <<< ((sv - (1 : Int32)).toInt64 &&& 63)) < rv) (hfin : cmpValue (FP.dcmp (FP.f2d (FP.d2f (FP.l2d vv))) (FP.l2d ((mv + (1 : Int64)) <<< (sv.toInt64 &&& 63)))) .l = 0) :
    MetFree l x (head1 (Jvm.Cond.code x code maxLocals ret :: ws) room_1) (fun aa_ U_ => aa_ = #[(.int p1), (.int p2), (.int p3), (.long p4)] ∧ Z.Warmed39 U_.vm ∧ U_.heap = h0) (fun _ _ _ _ _ => True) (fun _ U_ o_ U'_ => ∃ v_ L_, o_ = .returned v_ ∧ Q_law60g Z p1 p2 p3 p4 sv mv rv vv fl h0 n0 v_ U'_.heap L_ ∧ FrameEnd U_ o_ U'_ L_ 0 0) := by
  refine MetFree.of_bodySF (plainFor_of_name pn_0) hisR ?_
  intro pP eE sS mM argsA below meth cC s₁ Bd hml0 hP hK
  obtain ⟨rfl, hZ, hh⟩ := hP
  have hx := Bd.exec
  have hby := Bd.bytes
  have hml : cC.maxLocals = 25 := hml0
  have hown : sS.vm.findClass "com/example/greenweft/greenweft/map/SampleTypeStoredPinLaw" = some mM.cls := findClass_of_methodNamed Bd.named
  have hnm := (name_of_methodNamed Bd.named Bd.method).1
  have X0 : Stand pP l eE room_1 sS mM #[(.int p1), (.int p2), (.int p3), (.long p4)] below meth cC s₁ [] 0 0 := Stand.of_body Bd
  have e0 : s₁.heap = h0 := by rw [← hh, Bd.state]; rfl
  have N0 := Fr.nil n0
  have pre0 : ∀ t_, Steps pP.tables eE below (s₁.setTop (mkF mM 0 #[.val (.int p1), .val (.int p2), .val (.int p3), .val (.long p4), .second, .unset, .unset, .unset, .unset, .unset, .unset, .unset, .unset, .unset, .unset, .unset, .unset, .unset, .unset, .unset, .unset, .unset, .unset, .unset, .unset] [])) t_ → Steps pP.tables eE below (s₁.setTop (entryFrame mM #[(.int p1), (.int p2), (.int p3), (.long p4)] maxLocals)) t_ := fun t_ k_ => castTop (ef_law60g mM p1 p2 p3 p4) k_
  obtain ⟨_, _, ⟨T_1, L_1, k_1, n_1⟩, -, X_1, ⟨Lc_1, hQ_1, l_1, y_1, z_1⟩, st_1⟩ := Jvm.LawKit.callS X0 hx (y := MN0) hown (mvT hZ (ow hw 0 rfl)) (mvT hZ (ow hw 1 rfl)) (mvT hZ (ow hw 2 rfl)) (mvT hZ (ow hw 3 rfl)) (by decide) (backOf (W := 0) (rm_pick6 l Z a0 hw [] fl h0 n0 Z0 S_SampleType_FLOAT32) hZ (ow hw 3 rfl) (ow hw 2 rfl) (by decide) (by decide)) (g := (mkF mM 23 (lc104 p1 p2 p3 p4) [(.int (6 : Int32))])) rfl (by rw [hml]; rfl) (argsL := [(.int (6 : Int32))]) (rest := []) (lenOf pd_0 rfl) rfl (by show 2 * 0 + _ ≤ _; exact Nat.le_of_eq rfl) (hb hby at_23) (fun _ _ => ⟨rfl, e0, (by decide : 0 + 0 ≤ _), (by decide : 0 + 0 ≤ _)⟩)
  dsimp only [Pt.U, Pt.locs, Pt.cells, Pt.slots] at X_1 l_1 y_1 z_1 st_1 hQ_1
  subst l_1 y_1 z_1
  obtain ⟨rfl, N_1q, eh_1⟩ := hQ_1
  have N_1 := Fr.app N0 N_1q
  obtain ⟨cq_2, kq_2, q_2a, q_2b, q_2c⟩ := isOf hZ eh_1 E_fl
  obtain ⟨_, _, ⟨T_2, L_2, k_2, n_2⟩, -, X_2, ⟨Lc_2, hQ_2, l_2, y_2, z_2⟩, st_2⟩ := X_1.virtualBack hx (y := MN1) (z := MN1) hown (mvT hZ (ow hw 9 rfl)) (mvT hZ (ow hw 10 rfl)) (notFace_of_selects (args := #[]) (mvT hZ (ow hw 12 rfl))) (mvT hZ (ow hw 12 rfl)) (mvT hZ (ow hw 11 rfl)) (by decide) (backOf (W := 0) (rm_stf l Z a0 hw [] fl (FP.l2d vv) h0 n0 Z0 S_SampleType_FLOAT32 hnn) hZ (ow hw 13 rfl) (ow hw 5 rfl) (by decide) (by decide)) q_2a q_2c (g := (mkF mM 89 (lc110 p1 p2 p3 p4 fl sv mv rv vv) [(.double (FP.l2d vv)), (.ref fl)])) rfl (by rw [hml]; rfl) (Steps.refl _) (argsL := [(.double (FP.l2d vv))]) (rest := []) (lenOf pd_1 rfl) rfl (by show 2 * 0 + _ ≤ _; exact Nat.le_of_eq rfl) (hb hby at_89) (fun _ _ => ⟨rfl, eh_1, (by decide : 0 + 0 ≤ _), (by decide : 0 + 0 ≤ _)⟩)
  dsimp only [Pt.U, Pt.locs, Pt.cells, Pt.slots] at X_2 l_2 y_2 z_2 st_2 hQ_2
  subst l_2 y_2 z_2
  obtain ⟨rfl, N_2q, eh_2⟩ := hQ_2
  have N_2 := Fr.app N_1 N_2q
  obtain ⟨fs, hr, hrun, hended, hW, hsame⟩ := X_2.leave (v := some (.int (1 : Int32))) (fun h => by rw [Bd.returns] at h; cases h)
  refine ⟨_, _, pre0 _ ?_, hrun, hended, _, _, rfl, ?_, ⟨_, rfl⟩, hW, hsame.mono (by decide) (by decide)⟩
  · show oS pP eE below s₁ (mkF mM 0 (lc0 p1 p2 p3 p4) []) _
    refine XS.iloadN X0.here hx rfl (hb hby at_0) rfl ?_
    refine XS.bipush X0.here hx rfl (hb hby at_1) ?_
    show oS pP eE below s₁ (mkF mM 3 (lc0 p1 p2 p3 p4) [(.int (7 : Int32)), (.int p1)]) _
    refine XS.iand X0.here hx rfl (hb hby at_3) rfl ?_
    show Steps pP.tables eE below (s₁.setTop (mkF mM 4 (lc0 p1 p2 p3 p4) [(.int (p1 &&& (7 : Int32)))])) _
    rw [hk]
    refine XS.istore X0.here hx rfl (hb hby at_4) rfl (l' := (lc103 p1 p2 p3 p4)) rfl ?_
    refine XS.iloadN X0.here hx rfl (hb hby at_6) rfl ?_
    refine XS.iconst X0.here hx rfl (hb hby at_7) ?_
    show oS pP eE below s₁ (mkF mM 8 (lc103 p1 p2 p3 p4) [(.int (3 : Int32)), (.int p1)]) _
    refine XT.ishr X0.here hx rfl (hb hby at_8) rfl ?_
    refine XS.iconst X0.here hx rfl (hb hby at_9) ?_
    show oS pP eE below s₁ (mkF mM 10 (lc103 p1 p2 p3 p4) [(.int (1 : Int32)), (.int (p1 >>> ((3 : Int32) &&& 31)))]) _
    refine XS.iand X0.here hx rfl (hb hby at_10) rfl ?_
    refine XS.ifYes X0.here hx rfl (pc0 := 11) (pc' := 18) rfl (hb hby at_11) rfl (XT.i0_eq_t hg) (by decide) (by decide) ?_
    refine XS.iconst X0.here hx rfl (hb hby at_18) ?_
    refine XS.istore X0.here hx rfl (hb hby at_19) rfl (l' := (lc104 p1 p2 p3 p4)) rfl ?_
    refine XS.iload X0.here hx rfl (hb hby at_21) rfl ?_
    show oS pP eE below s₁ (mkF mM 23 (lc104 p1 p2 p3 p4) [(.int (6 : Int32))]) _
    refine st_1 _ ?_
    show oS pP eE below T_1 (mkF mM 26 (lc104 p1 p2 p3 p4) [(.ref fl)]) _
    refine XS.astore X_1.here hx rfl (hb hby at_26) rfl rfl (l' := (lc105 p1 p2 p3 p4 fl)) rfl ?_
    refine XS.iloadN X_1.here hx rfl (hb hby at_28) rfl ?_
    refine XS.bipush X_1.here hx rfl (hb hby at_29) ?_
    show oS pP eE below T_1 (mkF mM 31 (lc105 p1 p2 p3 p4 fl) [(.int (31 : Int32)), (.int p3)]) _
    refine XS.iand X_1.here hx rfl (hb hby at_31) rfl ?_
    refine XS.bipush X_1.here hx rfl (hb hby at_32) ?_
    show oS pP eE below T_1 (mkF mM 34 (lc105 p1 p2 p3 p4 fl) [(.int (30 : Int32)), (.int (p3 &&& (31 : Int32)))]) _
    refine iremM X_1 hx rfl (hb hby at_34) rfl (by decide) ?_
    show Steps pP.tables eE below (T_1.setTop (mkF mM 35 (lc105 p1 p2 p3 p4 fl) [(.int ((p3 &&& (31 : Int32)) % (30 : Int32)))])) _
    rw [hsv]
    refine XS.istore X_1.here hx rfl (hb hby at_35) rfl (l' := (lc106 p1 p2 p3 p4 fl sv)) rfl ?_
    show oS pP eE below T_1 (mkF mM 37 (lc106 p1 p2 p3 p4 fl sv) []) _
    refine X_1.ldc2J hx hown (mvT hZ (ow hw 7 rfl)) (g := (mkF mM 37 (lc106 p1 p2 p3 p4 fl sv) [])) rfl (hb hby at_37) ?_
    refine XS.iloadN X_1.here hx rfl (hb hby at_40) rfl ?_
    show oS pP eE below T_1 (mkF mM 41 (lc106 p1 p2 p3 p4 fl sv) [(.int p2), (.long (8388608 : Int64))]) _
    refine X_1.ldcI hx hown (mvT hZ (ow hw 8 rfl)) (g := (mkF mM 41 (lc106 p1 p2 p3 p4 fl sv) [(.int p2), (.long (8388608 : Int64))])) rfl (hb hby at_41) ?_
    show oS pP eE below T_1 (mkF mM 43 (lc106 p1 p2 p3 p4 fl sv) [(.int (8388607 : Int32)), (.int p2), (.long (8388608 : Int64))]) _
    refine XS.iand X_1.here hx rfl (hb hby at_43) rfl ?_
    show oS pP eE below T_1 (mkF mM 44 (lc106 p1 p2 p3 p4 fl sv) [(.int (p2 &&& (8388607 : Int32))), (.long (8388608 : Int64))]) _
    refine XT.i2l X_1.here hx rfl (hb hby at_44) rfl ?_
    show oS pP eE below T_1 (mkF mM 45 (lc106 p1 p2 p3 p4 fl sv) [(.long ((p2 &&& (8388607 : Int32)).toInt64)), (.long (8388608 : Int64))]) _
    refine XT.ladd X_1.here hx rfl (hb hby at_45) rfl ?_
    show Steps pP.tables eE below (T_1.setTop (mkF mM 46 (lc106 p1 p2 p3 p4 fl sv) [(.long ((8388608 : Int64) + ((p2 &&& (8388607 : Int32)).toInt64)))])) _
    rw [hmv]
    refine XT.lstore X_1.here hx rfl (hb hby at_46) rfl (l' := (lc107 p1 p2 p3 p4 fl sv mv)) rfl ?_
    refine XT.lloadN X_1.here hx rfl (hb hby at_48) rfl ?_
    refine XT.lconst X_1.here hx rfl (hb hby at_49) ?_
    refine XS.iload X_1.here hx rfl (hb hby at_50) rfl ?_
    show oS pP eE below T_1 (mkF mM 52 (lc107 p1 p2 p3 p4 fl sv mv) [(.int sv), (.long (1 : Int64)), (.long p4)]) _
    refine XT.lshl X_1.here hx rfl (hb hby at_52) rfl ?_
    refine XT.lconst X_1.here hx rfl (hb hby at_53) ?_
    show oS pP eE below T_1 (mkF mM 54 (lc107 p1 p2 p3 p4 fl sv mv) [(.long (1 : Int64)), (.long ((1 : Int64) <<< (sv.toInt64 &&& 63))), (.long p4)]) _
    refine XT.lsub X_1.here hx rfl (hb hby at_54) rfl ?_
    show oS pP eE below T_1 (mkF mM 55 (lc107 p1 p2 p3 p4 fl sv mv) [(.long (((1 : Int64) <<< (sv.toInt64 &&& 63)) - (1 : Int64))), (.long p4)]) _
    refine XT.land X_1.here hx rfl (hb hby at_55) rfl ?_
    show Steps pP.tables eE below (T_1.setTop (mkF mM 56 (lc107 p1 p2 p3 p4 fl sv mv) [(.long (p4 &&& (((1 : Int64) <<< (sv.toInt64 &&& 63)) - (1 : Int64))))])) _
    rw [hrv]
    refine XT.lstore X_1.here hx rfl (hb hby at_56) rfl (l' := (lc108 p1 p2 p3 p4 fl sv mv rv)) rfl ?_
    refine XT.lload X_1.here hx rfl (hb hby at_58) rfl ?_
    refine XS.iload X_1.here hx rfl (hb hby at_60) rfl ?_
    show oS pP eE below T_1 (mkF mM 62 (lc108 p1 p2 p3 p4 fl sv mv rv) [(.int sv), (.long mv)]) _
    refine XT.lshl X_1.here hx rfl (hb hby at_62) rfl ?_
    refine XT.lload X_1.here hx rfl (hb hby at_63) rfl ?_
    show oS pP eE below T_1 (mkF mM 65 (lc108 p1 p2 p3 p4 fl sv mv rv) [(.long rv), (.long (mv <<< (sv.toInt64 &&& 63)))]) _
    refine XT.ladd X_1.here hx rfl (hb hby at_65) rfl ?_
    show Steps pP.tables eE below (T_1.setTop (mkF mM 66 (lc108 p1 p2 p3 p4 fl sv mv rv) [(.long ((mv <<< (sv.toInt64 &&& 63)) + rv))])) _
    rw [hvv]
    refine XT.lstore X_1.here hx rfl (hb hby at_66) rfl (l' := (lc109 p1 p2 p3 p4 fl sv mv rv vv)) rfl ?_
    refine XS.iload X_1.here hx rfl (hb hby at_68) rfl ?_
    refine XS.ifYes X_1.here hx rfl (pc0 := 70) (pc' := 80) rfl (hb hby at_70) rfl (by decide) (by decide) (by decide) ?_
    refine XT.lload X_1.here hx rfl (hb hby at_80) rfl ?_
    show oS pP eE below T_1 (mkF mM 82 (lc109 p1 p2 p3 p4 fl sv mv rv vv) [(.long vv)]) _
    refine XS.l2dS X_1.here hx rfl (hb hby at_82) rfl rfl ?_
    show oS pP eE below T_1 (mkF mM 83 (lc109 p1 p2 p3 p4 fl sv mv rv vv) [(.double (FP.l2d vv))]) _
    refine XS.dstore X_1.here hx rfl (hb hby at_83) rfl (l' := (lc110 p1 p2 p3 p4 fl sv mv rv vv)) rfl ?_
    refine XS.aload X_1.here hx rfl (hb hby at_85) rfl rfl ?_
    show oS pP eE below T_1 (mkF mM 87 (lc110 p1 p2 p3 p4 fl sv mv rv vv) [(.ref fl)]) _
    refine XS.dload X_1.here hx rfl (hb hby at_87) rfl ?_
    show oS pP eE below T_1 (mkF mM 89 (lc110 p1 p2 p3 p4 fl sv mv rv vv) [(.double (FP.l2d vv)), (.ref fl)]) _
    refine st_2.trans ?_
    show oS pP eE below T_2 (mkF mM 92 (lc110 p1 p2 p3 p4 fl sv mv rv vv) [(.double (FP.f2d (FP.d2f (FP.l2d vv))))]) _
    refine XS.dstore X_2.here hx rfl (hb hby at_92) rfl (l' := (lc111 p1 p2 p3 p4 fl sv mv rv vv)) rfl ?_
    refine XS.iload X_2.here hx rfl (hb hby at_94) rfl ?_
    refine XS.bipush X_2.here hx rfl (hb hby at_96) ?_
    refine XS.icmpYes X_2.here hx rfl (pc0 := 98) (pc' := 115) rfl (hb hby at_98) rfl (by decide) (by decide) (by decide) ?_
    refine XS.iload X_2.here hx rfl (hb hby at_115) rfl ?_
    refine XS.ifYes X_2.here hx rfl (pc0 := 117) (pc' := 127) rfl (hb hby at_117) rfl (XT.i0_ne_t hs0) (by decide) (by decide) ?_
    refine XT.lconst X_2.here hx rfl (hb hby at_127) ?_
    refine XS.iload X_2.here hx rfl (hb hby at_128) rfl ?_
    show oS pP eE below T_2 (mkF mM 130 (lc111 p1 p2 p3 p4 fl sv mv rv vv) [(.int sv), (.long (1 : Int64))]) _
    refine XS.iconst X_2.here hx rfl (hb hby at_130) ?_
    show oS pP eE below T_2 (mkF mM 131 (lc111 p1 p2 p3 p4 fl sv mv rv vv) [(.int (1 : Int32)), (.int sv), (.long (1 : Int64))]) _
    refine XS.isub X_2.here hx rfl (hb hby at_131) rfl ?_
    show oS pP eE below T_2 (mkF mM 132 (lc111 p1 p2 p3 p4 fl sv mv rv vv) [(.int (sv - (1 : Int32))), (.long (1 : Int64))]) _
    refine XT.lshl X_2.here hx rfl (hb hby at_132) rfl ?_
    refine XT.lstore X_2.here hx rfl (hb hby at_133) rfl (l' := (lc115 p1 p2 p3 p4 fl sv mv rv vv)) rfl ?_
    refine XT.lload X_2.here hx rfl (hb hby at_135) rfl ?_
    refine XT.lload X_2.here hx rfl (hb hby at_137) rfl ?_
    show oS pP eE below T_2 (mkF mM 139 (lc115 p1 p2 p3 p4 fl sv mv rv vv) [(.long ((1 : Int64) <<< ((sv - (1 : Int32)).toInt64 &&& 63))), (.long rv)]) _
    refine XT.lcmp X_2.here hx rfl (hb hby at_139) rfl ?_
    refine XS.ifYes X_2.here hx rfl (pc0 := 140) (pc' := 150) rfl (hb hby at_140) rfl (XT.ll_ge_t hb1) (by decide) (by decide) ?_
    refine XT.lload X_2.here hx rfl (hb hby at_150) rfl ?_
    refine XT.lload X_2.here hx rfl (hb hby at_152) rfl ?_
    show oS pP eE below T_2 (mkF mM 154 (lc115 p1 p2 p3 p4 fl sv mv rv vv) [(.long ((1 : Int64) <<< ((sv - (1 : Int32)).toInt64 &&& 63))), (.long rv)]) _
    refine XT.lcmp X_2.here hx rfl (hb hby at_154) rfl ?_
    refine XS.ifNo X_2.here hx rfl (hb hby at_155) rfl (XT.ll_le_f hb2) ?_
    refine XT.lload X_2.here hx rfl (hb hby at_158) rfl ?_
    refine XT.lconst X_2.here hx rfl (hb hby at_160) ?_
    show oS pP eE below T_2 (mkF mM 161 (lc115 p1 p2 p3 p4 fl sv mv rv vv) [(.long (1 : Int64)), (.long mv)]) _
    refine XT.ladd X_2.here hx rfl (hb hby at_161) rfl ?_
    refine XT.lstore X_2.here hx rfl (hb hby at_162) rfl (l' := (lc117 p1 p2 p3 p4 fl sv mv rv vv)) rfl ?_
    refine XS.goto X_2.here hx rfl (pc0 := 164) (pc' := 187) rfl (hb hby at_164) (by decide) (by decide) ?_
    refine XT.lload X_2.here hx rfl (hb hby at_187) rfl ?_
    refine XS.iload X_2.here hx rfl (hb hby at_189) rfl ?_
    show oS pP eE below T_2 (mkF mM 191 (lc117 p1 p2 p3 p4 fl sv mv rv vv) [(.int sv), (.long (mv + (1 : Int64)))]) _
    refine XT.lshl X_2.here hx rfl (hb hby at_191) rfl ?_
    refine XT.lstore X_2.here hx rfl (hb hby at_192) rfl (l' := (lc118 p1 p2 p3 p4 fl sv mv rv vv)) rfl ?_
    refine XS.iload X_2.here hx rfl (hb hby at_194) rfl ?_
    refine XS.ifYes X_2.here hx rfl (pc0 := 196) (pc' := 206) rfl (hb hby at_196) rfl (by decide) (by decide) (by decide) ?_
    refine XT.lload X_2.here hx rfl (hb hby at_206) rfl ?_
    show oS pP eE below T_2 (mkF mM 208 (lc118 p1 p2 p3 p4 fl sv mv rv vv) [(.long ((mv + (1 : Int64)) <<< (sv.toInt64 &&& 63)))]) _
    refine XS.l2dS X_2.here hx rfl (hb hby at_208) rfl rfl ?_
    show oS pP eE below T_2 (mkF mM 209 (lc118 p1 p2 p3 p4 fl sv mv rv vv) [(.double (FP.l2d ((mv + (1 : Int64)) <<< (sv.toInt64 &&& 63))))]) _
    refine XS.dstore X_2.here hx rfl (hb hby at_209) rfl (l' := (lc119 p1 p2 p3 p4 fl sv mv rv vv)) rfl ?_
    show oS pP eE below T_2 (mkF mM 211 (lc119 p1 p2 p3 p4 fl sv mv rv vv) []) _
    refine XS.dload X_2.here hx rfl (hb hby at_211) rfl ?_
    show oS pP eE below T_2 (mkF mM 213 (lc119 p1 p2 p3 p4 fl sv mv rv vv) [(.double (FP.f2d (FP.d2f (FP.l2d vv))))]) _
    refine XS.dload X_2.here hx rfl (hb hby at_213) rfl ?_
    show oS pP eE below T_2 (mkF mM 215 (lc119 p1 p2 p3 p4 fl sv mv rv vv) [(.double (FP.l2d ((mv + (1 : Int64)) <<< (sv.toInt64 &&& 63)))), (.double (FP.f2d (FP.d2f (FP.l2d vv))))]) _
    refine XS.dcmpS X_2.here hx rfl (hb hby at_215) rfl rfl ?_
    refine XS.ifNo X_2.here hx rfl (hb hby at_216) rfl (XT.i0_ne_f hfin) ?_
    refine XS.iconst X_2.here hx rfl (hb hby at_219) ?_
    refine XS.goto X_2.here hx rfl (pc0 := 220) (pc' := 224) rfl (hb hby at_220) (by decide) (by decide) ?_
    show oS pP eE below T_2 (mkF mM 224 (lc119 p1 p2 p3 p4 fl sv mv rv vv) [(.int (1 : Int32))]) _
    exact retN X_2 hx (t := .boolean) Bd.returns (by simp) (hb hby at_224) hr
  · show Q_law60g Z p1 p2 p3 p4 sv mv rv vv fl h0 n0 _ T_2.heap _
    exact ⟨rfl, N_2⟩
theorem ef_law60e (mM : MethodId) (x0 : Int32) (x1 : Int32) (x2 : Int32) (x3 : Int64) : entryFrame mM #[(.int x0), (.int x1), (.int x2), (.long x3)] maxLocals = mkF mM 0 #[.val (.int x0), .val (.int x1), .val (.int x2), .val (.long x3), .second, .unset, .unset, .unset, .unset, .unset, .unset, .unset, .unset, .unset, .unset, .unset, .unset, .unset, .unset, .unset, .unset, .unset, .unset, .unset, .unset] [] := by first | (simp [entryFrame, mkF, argsToLocals, Value.category, maxLocals]; done) | rfl
def Q_law60e (Z : State) (p1 : Int32) (p2 : Int32) (p3 : Int32) (p4 : Int64) (sv : Int32) (mv : Int64) (rv : Int64) (vv : Int64) (fl : Addr) (h0 : Heap) (n0 : Nat) (v_ : Option Value) (h_ : Heap) (L_ : List Loc) : Prop := v_ = some (.int (1 : Int32)) ∧ Fr n0 L_
set_option maxRecDepth 65536 in
set_option maxHeartbeats 40000000 in
theorem rm_law60e (l : Launch) (Z : State) (a0 : Array Value) (hw : ∀ d ∈ tables_1, d.before a0 Z = true) (ws : List Jvm.Cond) (p1 : Int32) (p2 : Int32) (p3 : Int32) (p4 : Int64) (sv : Int32) (mv : Int64) (rv : Int64) (vv : Int64) (fl : Addr) (h0 : Heap) (n0 : Nat) (Z0 : n0 ≤ h0.size) (hk : (p1 &&& (7 : Int32)) = (6 : Int32)) (hg : ((p1 >>> ((3 : Int32) &&& 31)) &&& (1 : Int32)) = 0) (hsv : ((p3 &&& (31 : Int32)) % (30 : Int32)) = sv) (hmv : ((8388608 : Int64) + ((p2 &&& (8388607 : Int32)).toInt64)) = mv) (hrv : (p4 &&& (((1 : Int64) <<< (sv.toInt64 &&& 63)) - (1 : Int64))) = rv) (hvv : ((mv <<< (sv.toInt64 &&& 63)) + rv) = vv) (hnn : Jvm.Free.Fl.NoNaN64 (FP.l2d vv)) (S_SampleType_FLOAT32 : Sta Z h0 "com/example/greenweft/greenweft/map/SampleType" "FLOAT32" "Lcom/example/greenweft/greenweft/map/SampleType;" (.ref fl)) (E_fl : Exa Z h0 fl "com/example/greenweft/greenweft/map/SampleType") (hs0 : ¬ sv = 0) (hb1 : ¬ rv < ((1 : Int64) <<< ((sv - (1 : Int32)).toInt64 &&& 63))) (hb2 : ¬ ((1 : Int64) <<< ((sv - (1 : Int32)).toInt64 &&& 63)) < rv) (hb3 : (mv &&& (1 : Int64)) = (0 : Int64)) (hfin : cmpValue (FP.dcmp (FP.f2d (FP.d2f (FP.l2d vv))) (FP.l2d (mv <<< (sv.toInt64 &&& 63)))) .l = 0) :
    MetFree l x (head1 (Jvm.Cond.code x code maxLocals ret :: ws) room_1) (fun aa_ U_ => aa_ = #[(.int p1), (.int p2), (.int p3), (.long p4)] ∧ Z.Warmed39 U_.vm ∧ U_.heap = h0) (fun _ _ _ _ _ => True) (fun _ U_ o_ U'_ => ∃ v_ L_, o_ = .returned v_ ∧ Q_law60e Z p1 p2 p3 p4 sv mv rv vv fl h0 n0 v_ U'_.heap L_ ∧ FrameEnd U_ o_ U'_ L_ 0 0) := by
  refine MetFree.of_bodySF (plainFor_of_name pn_0) hisR ?_
  intro pP eE sS mM argsA below meth cC s₁ Bd hml0 hP hK
  obtain ⟨rfl, hZ, hh⟩ := hP
  have hx := Bd.exec
  have hby := Bd.bytes
  have hml : cC.maxLocals = 25 := hml0
  have hown : sS.vm.findClass "com/example/greenweft/greenweft/map/SampleTypeStoredPinLaw" = some mM.cls := findClass_of_methodNamed Bd.named
  have hnm := (name_of_methodNamed Bd.named Bd.method).1
  have X0 : Stand pP l eE room_1 sS mM #[(.int p1), (.int p2), (.int p3), (.long p4)] below meth cC s₁ [] 0 0 := Stand.of_body Bd
  have e0 : s₁.heap = h0 := by rw [← hh, Bd.state]; rfl
  have N0 := Fr.nil n0
  have pre0 : ∀ t_, Steps pP.tables eE below (s₁.setTop (mkF mM 0 #[.val (.int p1), .val (.int p2), .val (.int p3), .val (.long p4), .second, .unset, .unset, .unset, .unset, .unset, .unset, .unset, .unset, .unset, .unset, .unset, .unset, .unset, .unset, .unset, .unset, .unset, .unset, .unset, .unset] [])) t_ → Steps pP.tables eE below (s₁.setTop (entryFrame mM #[(.int p1), (.int p2), (.int p3), (.long p4)] maxLocals)) t_ := fun t_ k_ => castTop (ef_law60e mM p1 p2 p3 p4) k_
  obtain ⟨_, _, ⟨T_1, L_1, k_1, n_1⟩, -, X_1, ⟨Lc_1, hQ_1, l_1, y_1, z_1⟩, st_1⟩ := Jvm.LawKit.callS X0 hx (y := MN0) hown (mvT hZ (ow hw 0 rfl)) (mvT hZ (ow hw 1 rfl)) (mvT hZ (ow hw 2 rfl)) (mvT hZ (ow hw 3 rfl)) (by decide) (backOf (W := 0) (rm_pick6 l Z a0 hw [] fl h0 n0 Z0 S_SampleType_FLOAT32) hZ (ow hw 3 rfl) (ow hw 2 rfl) (by decide) (by decide)) (g := (mkF mM 23 (lc104 p1 p2 p3 p4) [(.int (6 : Int32))])) rfl (by rw [hml]; rfl) (argsL := [(.int (6 : Int32))]) (rest := []) (lenOf pd_0 rfl) rfl (by show 2 * 0 + _ ≤ _; exact Nat.le_of_eq rfl) (hb hby at_23) (fun _ _ => ⟨rfl, e0, (by decide : 0 + 0 ≤ _), (by decide : 0 + 0 ≤ _)⟩)
  dsimp only [Pt.U, Pt.locs, Pt.cells, Pt.slots] at X_1 l_1 y_1 z_1 st_1 hQ_1
  subst l_1 y_1 z_1
  obtain ⟨rfl, N_1q, eh_1⟩ := hQ_1
  have N_1 := Fr.app N0 N_1q
  obtain ⟨cq_2, kq_2, q_2a, q_2b, q_2c⟩ := isOf hZ eh_1 E_fl
  obtain ⟨_, _, ⟨T_2, L_2, k_2, n_2⟩, -, X_2, ⟨Lc_2, hQ_2, l_2, y_2, z_2⟩, st_2⟩ := X_1.virtualBack hx (y := MN1) (z := MN1) hown (mvT hZ (ow hw 9 rfl)) (mvT hZ (ow hw 10 rfl)) (notFace_of_selects (args := #[]) (mvT hZ (ow hw 12 rfl))) (mvT hZ (ow hw 12 rfl)) (mvT hZ (ow hw 11 rfl)) (by decide) (backOf (W := 0) (rm_stf l Z a0 hw [] fl (FP.l2d vv) h0 n0 Z0 S_SampleType_FLOAT32 hnn) hZ (ow hw 13 rfl) (ow hw 5 rfl) (by decide) (by decide)) q_2a q_2c (g := (mkF mM 89 (lc110 p1 p2 p3 p4 fl sv mv rv vv) [(.double (FP.l2d vv)), (.ref fl)])) rfl (by rw [hml]; rfl) (Steps.refl _) (argsL := [(.double (FP.l2d vv))]) (rest := []) (lenOf pd_1 rfl) rfl (by show 2 * 0 + _ ≤ _; exact Nat.le_of_eq rfl) (hb hby at_89) (fun _ _ => ⟨rfl, eh_1, (by decide : 0 + 0 ≤ _), (by decide : 0 + 0 ≤ _)⟩)
  dsimp only [Pt.U, Pt.locs, Pt.cells, Pt.slots] at X_2 l_2 y_2 z_2 st_2 hQ_2
  subst l_2 y_2 z_2
  obtain ⟨rfl, N_2q, eh_2⟩ := hQ_2
  have N_2 := Fr.app N_1 N_2q
  obtain ⟨fs, hr, hrun, hended, hW, hsame⟩ := X_2.leave (v := some (.int (1 : Int32))) (fun h => by rw [Bd.returns] at h; cases h)
  refine ⟨_, _, pre0 _ ?_, hrun, hended, _, _, rfl, ?_, ⟨_, rfl⟩, hW, hsame.mono (by decide) (by decide)⟩
  · show oS pP eE below s₁ (mkF mM 0 (lc0 p1 p2 p3 p4) []) _
    refine XS.iloadN X0.here hx rfl (hb hby at_0) rfl ?_
    refine XS.bipush X0.here hx rfl (hb hby at_1) ?_
    show oS pP eE below s₁ (mkF mM 3 (lc0 p1 p2 p3 p4) [(.int (7 : Int32)), (.int p1)]) _
    refine XS.iand X0.here hx rfl (hb hby at_3) rfl ?_
    show Steps pP.tables eE below (s₁.setTop (mkF mM 4 (lc0 p1 p2 p3 p4) [(.int (p1 &&& (7 : Int32)))])) _
    rw [hk]
    refine XS.istore X0.here hx rfl (hb hby at_4) rfl (l' := (lc103 p1 p2 p3 p4)) rfl ?_
    refine XS.iloadN X0.here hx rfl (hb hby at_6) rfl ?_
    refine XS.iconst X0.here hx rfl (hb hby at_7) ?_
    show oS pP eE below s₁ (mkF mM 8 (lc103 p1 p2 p3 p4) [(.int (3 : Int32)), (.int p1)]) _
    refine XT.ishr X0.here hx rfl (hb hby at_8) rfl ?_
    refine XS.iconst X0.here hx rfl (hb hby at_9) ?_
    show oS pP eE below s₁ (mkF mM 10 (lc103 p1 p2 p3 p4) [(.int (1 : Int32)), (.int (p1 >>> ((3 : Int32) &&& 31)))]) _
    refine XS.iand X0.here hx rfl (hb hby at_10) rfl ?_
    refine XS.ifYes X0.here hx rfl (pc0 := 11) (pc' := 18) rfl (hb hby at_11) rfl (XT.i0_eq_t hg) (by decide) (by decide) ?_
    refine XS.iconst X0.here hx rfl (hb hby at_18) ?_
    refine XS.istore X0.here hx rfl (hb hby at_19) rfl (l' := (lc104 p1 p2 p3 p4)) rfl ?_
    refine XS.iload X0.here hx rfl (hb hby at_21) rfl ?_
    show oS pP eE below s₁ (mkF mM 23 (lc104 p1 p2 p3 p4) [(.int (6 : Int32))]) _
    refine st_1 _ ?_
    show oS pP eE below T_1 (mkF mM 26 (lc104 p1 p2 p3 p4) [(.ref fl)]) _
    refine XS.astore X_1.here hx rfl (hb hby at_26) rfl rfl (l' := (lc105 p1 p2 p3 p4 fl)) rfl ?_
    refine XS.iloadN X_1.here hx rfl (hb hby at_28) rfl ?_
    refine XS.bipush X_1.here hx rfl (hb hby at_29) ?_
    show oS pP eE below T_1 (mkF mM 31 (lc105 p1 p2 p3 p4 fl) [(.int (31 : Int32)), (.int p3)]) _
    refine XS.iand X_1.here hx rfl (hb hby at_31) rfl ?_
    refine XS.bipush X_1.here hx rfl (hb hby at_32) ?_
    show oS pP eE below T_1 (mkF mM 34 (lc105 p1 p2 p3 p4 fl) [(.int (30 : Int32)), (.int (p3 &&& (31 : Int32)))]) _
    refine iremM X_1 hx rfl (hb hby at_34) rfl (by decide) ?_
    show Steps pP.tables eE below (T_1.setTop (mkF mM 35 (lc105 p1 p2 p3 p4 fl) [(.int ((p3 &&& (31 : Int32)) % (30 : Int32)))])) _
    rw [hsv]
    refine XS.istore X_1.here hx rfl (hb hby at_35) rfl (l' := (lc106 p1 p2 p3 p4 fl sv)) rfl ?_
    show oS pP eE below T_1 (mkF mM 37 (lc106 p1 p2 p3 p4 fl sv) []) _
    refine X_1.ldc2J hx hown (mvT hZ (ow hw 7 rfl)) (g := (mkF mM 37 (lc106 p1 p2 p3 p4 fl sv) [])) rfl (hb hby at_37) ?_
    refine XS.iloadN X_1.here hx rfl (hb hby at_40) rfl ?_
    show oS pP eE below T_1 (mkF mM 41 (lc106 p1 p2 p3 p4 fl sv) [(.int p2), (.long (8388608 : Int64))]) _
    refine X_1.ldcI hx hown (mvT hZ (ow hw 8 rfl)) (g := (mkF mM 41 (lc106 p1 p2 p3 p4 fl sv) [(.int p2), (.long (8388608 : Int64))])) rfl (hb hby at_41) ?_
    show oS pP eE below T_1 (mkF mM 43 (lc106 p1 p2 p3 p4 fl sv) [(.int (8388607 : Int32)), (.int p2), (.long (8388608 : Int64))]) _
    refine XS.iand X_1.here hx rfl (hb hby at_43) rfl ?_
    show oS pP eE below T_1 (mkF mM 44 (lc106 p1 p2 p3 p4 fl sv) [(.int (p2 &&& (8388607 : Int32))), (.long (8388608 : Int64))]) _
    refine XT.i2l X_1.here hx rfl (hb hby at_44) rfl ?_
    show oS pP eE below T_1 (mkF mM 45 (lc106 p1 p2 p3 p4 fl sv) [(.long ((p2 &&& (8388607 : Int32)).toInt64)), (.long (8388608 : Int64))]) _
    refine XT.ladd X_1.here hx rfl (hb hby at_45) rfl ?_
    show Steps pP.tables eE below (T_1.setTop (mkF mM 46 (lc106 p1 p2 p3 p4 fl sv) [(.long ((8388608 : Int64) + ((p2 &&& (8388607 : Int32)).toInt64)))])) _
    rw [hmv]
    refine XT.lstore X_1.here hx rfl (hb hby at_46) rfl (l' := (lc107 p1 p2 p3 p4 fl sv mv)) rfl ?_
    refine XT.lloadN X_1.here hx rfl (hb hby at_48) rfl ?_
    refine XT.lconst X_1.here hx rfl (hb hby at_49) ?_
    refine XS.iload X_1.here hx rfl (hb hby at_50) rfl ?_
    show oS pP eE below T_1 (mkF mM 52 (lc107 p1 p2 p3 p4 fl sv mv) [(.int sv), (.long (1 : Int64)), (.long p4)]) _
    refine XT.lshl X_1.here hx rfl (hb hby at_52) rfl ?_
    refine XT.lconst X_1.here hx rfl (hb hby at_53) ?_
    show oS pP eE below T_1 (mkF mM 54 (lc107 p1 p2 p3 p4 fl sv mv) [(.long (1 : Int64)), (.long ((1 : Int64) <<< (sv.toInt64 &&& 63))), (.long p4)]) _
    refine XT.lsub X_1.here hx rfl (hb hby at_54) rfl ?_
    show oS pP eE below T_1 (mkF mM 55 (lc107 p1 p2 p3 p4 fl sv mv) [(.long (((1 : Int64) <<< (sv.toInt64 &&& 63)) - (1 : Int64))), (.long p4)]) _
    refine XT.land X_1.here hx rfl (hb hby at_55) rfl ?_
    show Steps pP.tables eE below (T_1.setTop (mkF mM 56 (lc107 p1 p2 p3 p4 fl sv mv) [(.long (p4 &&& (((1 : Int64) <<< (sv.toInt64 &&& 63)) - (1 : Int64))))])) _
    rw [hrv]
    refine XT.lstore X_1.here hx rfl (hb hby at_56) rfl (l' := (lc108 p1 p2 p3 p4 fl sv mv rv)) rfl ?_
    refine XT.lload X_1.here hx rfl (hb hby at_58) rfl ?_
    refine XS.iload X_1.here hx rfl (hb hby at_60) rfl ?_
    show oS pP eE below T_1 (mkF mM 62 (lc108 p1 p2 p3 p4 fl sv mv rv) [(.int sv), (.long mv)]) _
    refine XT.lshl X_1.here hx rfl (hb hby at_62) rfl ?_
    refine XT.lload X_1.here hx rfl (hb hby at_63) rfl ?_
    show oS pP eE below T_1 (mkF mM 65 (lc108 p1 p2 p3 p4 fl sv mv rv) [(.long rv), (.long (mv <<< (sv.toInt64 &&& 63)))]) _
    refine XT.ladd X_1.here hx rfl (hb hby at_65) rfl ?_
    show Steps pP.tables eE below (T_1.setTop (mkF mM 66 (lc108 p1 p2 p3 p4 fl sv mv rv) [(.long ((mv <<< (sv.toInt64 &&& 63)) + rv))])) _
    rw [hvv]
    refine XT.lstore X_1.here hx rfl (hb hby at_66) rfl (l' := (lc109 p1 p2 p3 p4 fl sv mv rv vv)) rfl ?_
    refine XS.iload X_1.here hx rfl (hb hby at_68) rfl ?_
    refine XS.ifYes X_1.here hx rfl (pc0 := 70) (pc' := 80) rfl (hb hby at_70) rfl (by decide) (by decide) (by decide) ?_
    refine XT.lload X_1.here hx rfl (hb hby at_80) rfl ?_
    show oS pP eE below T_1 (mkF mM 82 (lc109 p1 p2 p3 p4 fl sv mv rv vv) [(.long vv)]) _
    refine XS.l2dS X_1.here hx rfl (hb hby at_82) rfl rfl ?_
    show oS pP eE below T_1 (mkF mM 83 (lc109 p1 p2 p3 p4 fl sv mv rv vv) [(.double (FP.l2d vv))]) _
    refine XS.dstore X_1.here hx rfl (hb hby at_83) rfl (l' := (lc110 p1 p2 p3 p4 fl sv mv rv vv)) rfl ?_
    refine XS.aload X_1.here hx rfl (hb hby at_85) rfl rfl ?_
    show oS pP eE below T_1 (mkF mM 87 (lc110 p1 p2 p3 p4 fl sv mv rv vv) [(.ref fl)]) _
    refine XS.dload X_1.here hx rfl (hb hby at_87) rfl ?_
    show oS pP eE below T_1 (mkF mM 89 (lc110 p1 p2 p3 p4 fl sv mv rv vv) [(.double (FP.l2d vv)), (.ref fl)]) _
    refine st_2.trans ?_
    show oS pP eE below T_2 (mkF mM 92 (lc110 p1 p2 p3 p4 fl sv mv rv vv) [(.double (FP.f2d (FP.d2f (FP.l2d vv))))]) _
    refine XS.dstore X_2.here hx rfl (hb hby at_92) rfl (l' := (lc111 p1 p2 p3 p4 fl sv mv rv vv)) rfl ?_
    refine XS.iload X_2.here hx rfl (hb hby at_94) rfl ?_
    refine XS.bipush X_2.here hx rfl (hb hby at_96) ?_
    refine XS.icmpYes X_2.here hx rfl (pc0 := 98) (pc' := 115) rfl (hb hby at_98) rfl (by decide) (by decide) (by decide) ?_
    refine XS.iload X_2.here hx rfl (hb hby at_115) rfl ?_
    refine XS.ifYes X_2.here hx rfl (pc0 := 117) (pc' := 127) rfl (hb hby at_117) rfl (XT.i0_ne_t hs0) (by decide) (by decide) ?_
    refine XT.lconst X_2.here hx rfl (hb hby at_127) ?_
    refine XS.iload X_2.here hx rfl (hb hby at_128) rfl ?_
    show oS pP eE below T_2 (mkF mM 130 (lc111 p1 p2 p3 p4 fl sv mv rv vv) [(.int sv), (.long (1 : Int64))]) _
    refine XS.iconst X_2.here hx rfl (hb hby at_130) ?_
    show oS pP eE below T_2 (mkF mM 131 (lc111 p1 p2 p3 p4 fl sv mv rv vv) [(.int (1 : Int32)), (.int sv), (.long (1 : Int64))]) _
    refine XS.isub X_2.here hx rfl (hb hby at_131) rfl ?_
    show oS pP eE below T_2 (mkF mM 132 (lc111 p1 p2 p3 p4 fl sv mv rv vv) [(.int (sv - (1 : Int32))), (.long (1 : Int64))]) _
    refine XT.lshl X_2.here hx rfl (hb hby at_132) rfl ?_
    refine XT.lstore X_2.here hx rfl (hb hby at_133) rfl (l' := (lc115 p1 p2 p3 p4 fl sv mv rv vv)) rfl ?_
    refine XT.lload X_2.here hx rfl (hb hby at_135) rfl ?_
    refine XT.lload X_2.here hx rfl (hb hby at_137) rfl ?_
    show oS pP eE below T_2 (mkF mM 139 (lc115 p1 p2 p3 p4 fl sv mv rv vv) [(.long ((1 : Int64) <<< ((sv - (1 : Int32)).toInt64 &&& 63))), (.long rv)]) _
    refine XT.lcmp X_2.here hx rfl (hb hby at_139) rfl ?_
    refine XS.ifYes X_2.here hx rfl (pc0 := 140) (pc' := 150) rfl (hb hby at_140) rfl (XT.ll_ge_t hb1) (by decide) (by decide) ?_
    refine XT.lload X_2.here hx rfl (hb hby at_150) rfl ?_
    refine XT.lload X_2.here hx rfl (hb hby at_152) rfl ?_
    show oS pP eE below T_2 (mkF mM 154 (lc115 p1 p2 p3 p4 fl sv mv rv vv) [(.long ((1 : Int64) <<< ((sv - (1 : Int32)).toInt64 &&& 63))), (.long rv)]) _
    refine XT.lcmp X_2.here hx rfl (hb hby at_154) rfl ?_
    refine XS.ifYes X_2.here hx rfl (pc0 := 155) (pc' := 167) rfl (hb hby at_155) rfl (XT.ll_le_t hb2) (by decide) (by decide) ?_
    refine XT.lload X_2.here hx rfl (hb hby at_167) rfl ?_
    refine XT.lconst X_2.here hx rfl (hb hby at_169) ?_
    show oS pP eE below T_2 (mkF mM 170 (lc115 p1 p2 p3 p4 fl sv mv rv vv) [(.long (1 : Int64)), (.long mv)]) _
    refine XT.land X_2.here hx rfl (hb hby at_170) rfl ?_
    refine XT.lconst X_2.here hx rfl (hb hby at_171) ?_
    show oS pP eE below T_2 (mkF mM 172 (lc115 p1 p2 p3 p4 fl sv mv rv vv) [(.long (0 : Int64)), (.long (mv &&& (1 : Int64)))]) _
    refine XT.lcmp X_2.here hx rfl (hb hby at_172) rfl ?_
    refine XS.ifNo X_2.here hx rfl (hb hby at_173) rfl (XT.ll_ne_f hb3) ?_
    refine XT.lload X_2.here hx rfl (hb hby at_176) rfl ?_
    refine XS.goto X_2.here hx rfl (pc0 := 178) (pc' := 185) rfl (hb hby at_178) (by decide) (by decide) ?_
    refine XT.lstore X_2.here hx rfl (hb hby at_185) rfl (l' := (lc116 p1 p2 p3 p4 fl sv mv rv vv)) rfl ?_
    refine XT.lload X_2.here hx rfl (hb hby at_187) rfl ?_
    refine XS.iload X_2.here hx rfl (hb hby at_189) rfl ?_
    show oS pP eE below T_2 (mkF mM 191 (lc116 p1 p2 p3 p4 fl sv mv rv vv) [(.int sv), (.long mv)]) _
    refine XT.lshl X_2.here hx rfl (hb hby at_191) rfl ?_
    refine XT.lstore X_2.here hx rfl (hb hby at_192) rfl (l' := (lc113 p1 p2 p3 p4 fl sv mv rv vv)) rfl ?_
    refine XS.iload X_2.here hx rfl (hb hby at_194) rfl ?_
    refine XS.ifYes X_2.here hx rfl (pc0 := 196) (pc' := 206) rfl (hb hby at_196) rfl (by decide) (by decide) (by decide) ?_
    refine XT.lload X_2.here hx rfl (hb hby at_206) rfl ?_
    show oS pP eE below T_2 (mkF mM 208 (lc113 p1 p2 p3 p4 fl sv mv rv vv) [(.long (mv <<< (sv.toInt64 &&& 63)))]) _
    refine XS.l2dS X_2.here hx rfl (hb hby at_208) rfl rfl ?_
    show oS pP eE below T_2 (mkF mM 209 (lc113 p1 p2 p3 p4 fl sv mv rv vv) [(.double (FP.l2d (mv <<< (sv.toInt64 &&& 63))))]) _
    refine XS.dstore X_2.here hx rfl (hb hby at_209) rfl (l' := (lc114 p1 p2 p3 p4 fl sv mv rv vv)) rfl ?_
    show oS pP eE below T_2 (mkF mM 211 (lc114 p1 p2 p3 p4 fl sv mv rv vv) []) _
    refine XS.dload X_2.here hx rfl (hb hby at_211) rfl ?_
    show oS pP eE below T_2 (mkF mM 213 (lc114 p1 p2 p3 p4 fl sv mv rv vv) [(.double (FP.f2d (FP.d2f (FP.l2d vv))))]) _
    refine XS.dload X_2.here hx rfl (hb hby at_213) rfl ?_
    show oS pP eE below T_2 (mkF mM 215 (lc114 p1 p2 p3 p4 fl sv mv rv vv) [(.double (FP.l2d (mv <<< (sv.toInt64 &&& 63)))), (.double (FP.f2d (FP.d2f (FP.l2d vv))))]) _
    refine XS.dcmpS X_2.here hx rfl (hb hby at_215) rfl rfl ?_
    refine XS.ifNo X_2.here hx rfl (hb hby at_216) rfl (XT.i0_ne_f hfin) ?_
    refine XS.iconst X_2.here hx rfl (hb hby at_219) ?_
    refine XS.goto X_2.here hx rfl (pc0 := 220) (pc' := 224) rfl (hb hby at_220) (by decide) (by decide) ?_
    show oS pP eE below T_2 (mkF mM 224 (lc114 p1 p2 p3 p4 fl sv mv rv vv) [(.int (1 : Int32))]) _
    exact retN X_2 hx (t := .boolean) Bd.returns (by simp) (hb hby at_224) hr
  · show Q_law60e Z p1 p2 p3 p4 sv mv rv vv fl h0 n0 _ T_2.heap _
    exact ⟨rfl, N_2⟩
theorem ef_law60o (mM : MethodId) (x0 : Int32) (x1 : Int32) (x2 : Int32) (x3 : Int64) : entryFrame mM #[(.int x0), (.int x1), (.int x2), (.long x3)] maxLocals = mkF mM 0 #[.val (.int x0), .val (.int x1), .val (.int x2), .val (.long x3), .second, .unset, .unset, .unset, .unset, .unset, .unset, .unset, .unset, .unset, .unset, .unset, .unset, .unset, .unset, .unset, .unset, .unset, .unset, .unset, .unset] [] := by first | (simp [entryFrame, mkF, argsToLocals, Value.category, maxLocals]; done) | rfl
def Q_law60o (Z : State) (p1 : Int32) (p2 : Int32) (p3 : Int32) (p4 : Int64) (sv : Int32) (mv : Int64) (rv : Int64) (vv : Int64) (fl : Addr) (h0 : Heap) (n0 : Nat) (v_ : Option Value) (h_ : Heap) (L_ : List Loc) : Prop := v_ = some (.int (1 : Int32)) ∧ Fr n0 L_
set_option maxRecDepth 65536 in
set_option maxHeartbeats 40000000 in
theorem rm_law60o (l : Launch) (Z : State) (a0 : Array Value) (hw : ∀ d ∈ tables_1, d.before a0 Z = true) (ws : List Jvm.Cond) (p1 : Int32) (p2 : Int32) (p3 : Int32) (p4 : Int64) (sv : Int32) (mv : Int64) (rv : Int64) (vv : Int64) (fl : Addr) (h0 : Heap) (n0 : Nat) (Z0 : n0 ≤ h0.size) (hk : (p1 &&& (7 : Int32)) = (6 : Int32)) (hg : ((p1 >>> ((3 : Int32) &&& 31)) &&& (1 : Int32)) = 0) (hsv : ((p3 &&& (31 : Int32)) % (30 : Int32)) = sv) (hmv : ((8388608 : Int64) + ((p2 &&& (8388607 : Int32)).toInt64)) = mv) (hrv : (p4 &&& (((1 : Int64) <<< (sv.toInt64 &&& 63)) - (1 : Int64))) = rv) (hvv : ((mv <<< (sv.toInt64 &&& 63)) + rv) = vv) (hnn : Jvm.Free.Fl.NoNaN64 (FP.l2d vv)) (S_SampleType_FLOAT32 : Sta Z h0 "com/example/greenweft/greenweft/map/SampleType" "FLOAT32" "Lcom/example/greenweft/greenweft/map/SampleType;" (.ref fl)) (E_fl : Exa Z h0 fl "com/example/greenweft/greenweft/map/SampleType") (hs0 : ¬ sv = 0) (hb1 : ¬ rv < ((1 : Int64) <<< ((sv - (1 : Int32)).toInt64 &&& 63))) (hb2 : ¬ ((1 : Int64) <<< ((sv - (1 : Int32)).toInt64 &&& 63)) < rv) (hb3 : ¬ (mv &&& (1 : Int64)) = (0 : Int64)) (hfin : cmpValue (FP.dcmp (FP.f2d (FP.d2f (FP.l2d vv))) (FP.l2d ((mv + (1 : Int64)) <<< (sv.toInt64 &&& 63)))) .l = 0) :
    MetFree l x (head1 (Jvm.Cond.code x code maxLocals ret :: ws) room_1) (fun aa_ U_ => aa_ = #[(.int p1), (.int p2), (.int p3), (.long p4)] ∧ Z.Warmed39 U_.vm ∧ U_.heap = h0) (fun _ _ _ _ _ => True) (fun _ U_ o_ U'_ => ∃ v_ L_, o_ = .returned v_ ∧ Q_law60o Z p1 p2 p3 p4 sv mv rv vv fl h0 n0 v_ U'_.heap L_ ∧ FrameEnd U_ o_ U'_ L_ 0 0) := by
  refine MetFree.of_bodySF (plainFor_of_name pn_0) hisR ?_
  intro pP eE sS mM argsA below meth cC s₁ Bd hml0 hP hK
  obtain ⟨rfl, hZ, hh⟩ := hP
  have hx := Bd.exec
  have hby := Bd.bytes
  have hml : cC.maxLocals = 25 := hml0
  have hown : sS.vm.findClass "com/example/greenweft/greenweft/map/SampleTypeStoredPinLaw" = some mM.cls := findClass_of_methodNamed Bd.named
  have hnm := (name_of_methodNamed Bd.named Bd.method).1
  have X0 : Stand pP l eE room_1 sS mM #[(.int p1), (.int p2), (.int p3), (.long p4)] below meth cC s₁ [] 0 0 := Stand.of_body Bd
  have e0 : s₁.heap = h0 := by rw [← hh, Bd.state]; rfl
  have N0 := Fr.nil n0
  have pre0 : ∀ t_, Steps pP.tables eE below (s₁.setTop (mkF mM 0 #[.val (.int p1), .val (.int p2), .val (.int p3), .val (.long p4), .second, .unset, .unset, .unset, .unset, .unset, .unset, .unset, .unset, .unset, .unset, .unset, .unset, .unset, .unset, .unset, .unset, .unset, .unset, .unset, .unset] [])) t_ → Steps pP.tables eE below (s₁.setTop (entryFrame mM #[(.int p1), (.int p2), (.int p3), (.long p4)] maxLocals)) t_ := fun t_ k_ => castTop (ef_law60o mM p1 p2 p3 p4) k_
  obtain ⟨_, _, ⟨T_1, L_1, k_1, n_1⟩, -, X_1, ⟨Lc_1, hQ_1, l_1, y_1, z_1⟩, st_1⟩ := Jvm.LawKit.callS X0 hx (y := MN0) hown (mvT hZ (ow hw 0 rfl)) (mvT hZ (ow hw 1 rfl)) (mvT hZ (ow hw 2 rfl)) (mvT hZ (ow hw 3 rfl)) (by decide) (backOf (W := 0) (rm_pick6 l Z a0 hw [] fl h0 n0 Z0 S_SampleType_FLOAT32) hZ (ow hw 3 rfl) (ow hw 2 rfl) (by decide) (by decide)) (g := (mkF mM 23 (lc104 p1 p2 p3 p4) [(.int (6 : Int32))])) rfl (by rw [hml]; rfl) (argsL := [(.int (6 : Int32))]) (rest := []) (lenOf pd_0 rfl) rfl (by show 2 * 0 + _ ≤ _; exact Nat.le_of_eq rfl) (hb hby at_23) (fun _ _ => ⟨rfl, e0, (by decide : 0 + 0 ≤ _), (by decide : 0 + 0 ≤ _)⟩)
  dsimp only [Pt.U, Pt.locs, Pt.cells, Pt.slots] at X_1 l_1 y_1 z_1 st_1 hQ_1
  subst l_1 y_1 z_1
  obtain ⟨rfl, N_1q, eh_1⟩ := hQ_1
  have N_1 := Fr.app N0 N_1q
  obtain ⟨cq_2, kq_2, q_2a, q_2b, q_2c⟩ := isOf hZ eh_1 E_fl
  obtain ⟨_, _, ⟨T_2, L_2, k_2, n_2⟩, -, X_2, ⟨Lc_2, hQ_2, l_2, y_2, z_2⟩, st_2⟩ := X_1.virtualBack hx (y := MN1) (z := MN1) hown (mvT hZ (ow hw 9 rfl)) (mvT hZ (ow hw 10 rfl)) (notFace_of_selects (args := #[]) (mvT hZ (ow hw 12 rfl))) (mvT hZ (ow hw 12 rfl)) (mvT hZ (ow hw 11 rfl)) (by decide) (backOf (W := 0) (rm_stf l Z a0 hw [] fl (FP.l2d vv) h0 n0 Z0 S_SampleType_FLOAT32 hnn) hZ (ow hw 13 rfl) (ow hw 5 rfl) (by decide) (by decide)) q_2a q_2c (g := (mkF mM 89 (lc110 p1 p2 p3 p4 fl sv mv rv vv) [(.double (FP.l2d vv)), (.ref fl)])) rfl (by rw [hml]; rfl) (Steps.refl _) (argsL := [(.double (FP.l2d vv))]) (rest := []) (lenOf pd_1 rfl) rfl (by show 2 * 0 + _ ≤ _; exact Nat.le_of_eq rfl) (hb hby at_89) (fun _ _ => ⟨rfl, eh_1, (by decide : 0 + 0 ≤ _), (by decide : 0 + 0 ≤ _)⟩)
  dsimp only [Pt.U, Pt.locs, Pt.cells, Pt.slots] at X_2 l_2 y_2 z_2 st_2 hQ_2
  subst l_2 y_2 z_2
  obtain ⟨rfl, N_2q, eh_2⟩ := hQ_2
  have N_2 := Fr.app N_1 N_2q
  obtain ⟨fs, hr, hrun, hended, hW, hsame⟩ := X_2.leave (v := some (.int (1 : Int32))) (fun h => by rw [Bd.returns] at h; cases h)
  refine ⟨_, _, pre0 _ ?_, hrun, hended, _, _, rfl, ?_, ⟨_, rfl⟩, hW, hsame.mono (by decide) (by decide)⟩
  · show oS pP eE below s₁ (mkF mM 0 (lc0 p1 p2 p3 p4) []) _
    refine XS.iloadN X0.here hx rfl (hb hby at_0) rfl ?_
    refine XS.bipush X0.here hx rfl (hb hby at_1) ?_
    show oS pP eE below s₁ (mkF mM 3 (lc0 p1 p2 p3 p4) [(.int (7 : Int32)), (.int p1)]) _
    refine XS.iand X0.here hx rfl (hb hby at_3) rfl ?_
    show Steps pP.tables eE below (s₁.setTop (mkF mM 4 (lc0 p1 p2 p3 p4) [(.int (p1 &&& (7 : Int32)))])) _
    rw [hk]
    refine XS.istore X0.here hx rfl (hb hby at_4) rfl (l' := (lc103 p1 p2 p3 p4)) rfl ?_
    refine XS.iloadN X0.here hx rfl (hb hby at_6) rfl ?_
    refine XS.iconst X0.here hx rfl (hb hby at_7) ?_
    show oS pP eE below s₁ (mkF mM 8 (lc103 p1 p2 p3 p4) [(.int (3 : Int32)), (.int p1)]) _
    refine XT.ishr X0.here hx rfl (hb hby at_8) rfl ?_
    refine XS.iconst X0.here hx rfl (hb hby at_9) ?_
    show oS pP eE below s₁ (mkF mM 10 (lc103 p1 p2 p3 p4) [(.int (1 : Int32)), (.int (p1 >>> ((3 : Int32) &&& 31)))]) _
    refine XS.iand X0.here hx rfl (hb hby at_10) rfl ?_
    refine XS.ifYes X0.here hx rfl (pc0 := 11) (pc' := 18) rfl (hb hby at_11) rfl (XT.i0_eq_t hg) (by decide) (by decide) ?_
    refine XS.iconst X0.here hx rfl (hb hby at_18) ?_
    refine XS.istore X0.here hx rfl (hb hby at_19) rfl (l' := (lc104 p1 p2 p3 p4)) rfl ?_
    refine XS.iload X0.here hx rfl (hb hby at_21) rfl ?_
    show oS pP eE below s₁ (mkF mM 23 (lc104 p1 p2 p3 p4) [(.int (6 : Int32))]) _
    refine st_1 _ ?_
    show oS pP eE below T_1 (mkF mM 26 (lc104 p1 p2 p3 p4) [(.ref fl)]) _
    refine XS.astore X_1.here hx rfl (hb hby at_26) rfl rfl (l' := (lc105 p1 p2 p3 p4 fl)) rfl ?_
    refine XS.iloadN X_1.here hx rfl (hb hby at_28) rfl ?_
    refine XS.bipush X_1.here hx rfl (hb hby at_29) ?_
    show oS pP eE below T_1 (mkF mM 31 (lc105 p1 p2 p3 p4 fl) [(.int (31 : Int32)), (.int p3)]) _
    refine XS.iand X_1.here hx rfl (hb hby at_31) rfl ?_
    refine XS.bipush X_1.here hx rfl (hb hby at_32) ?_
    show oS pP eE below T_1 (mkF mM 34 (lc105 p1 p2 p3 p4 fl) [(.int (30 : Int32)), (.int (p3 &&& (31 : Int32)))]) _
    refine iremM X_1 hx rfl (hb hby at_34) rfl (by decide) ?_
    show Steps pP.tables eE below (T_1.setTop (mkF mM 35 (lc105 p1 p2 p3 p4 fl) [(.int ((p3 &&& (31 : Int32)) % (30 : Int32)))])) _
    rw [hsv]
    refine XS.istore X_1.here hx rfl (hb hby at_35) rfl (l' := (lc106 p1 p2 p3 p4 fl sv)) rfl ?_
    show oS pP eE below T_1 (mkF mM 37 (lc106 p1 p2 p3 p4 fl sv) []) _
    refine X_1.ldc2J hx hown (mvT hZ (ow hw 7 rfl)) (g := (mkF mM 37 (lc106 p1 p2 p3 p4 fl sv) [])) rfl (hb hby at_37) ?_
    refine XS.iloadN X_1.here hx rfl (hb hby at_40) rfl ?_
    show oS pP eE below T_1 (mkF mM 41 (lc106 p1 p2 p3 p4 fl sv) [(.int p2), (.long (8388608 : Int64))]) _
    refine X_1.ldcI hx hown (mvT hZ (ow hw 8 rfl)) (g := (mkF mM 41 (lc106 p1 p2 p3 p4 fl sv) [(.int p2), (.long (8388608 : Int64))])) rfl (hb hby at_41) ?_
    show oS pP eE below T_1 (mkF mM 43 (lc106 p1 p2 p3 p4 fl sv) [(.int (8388607 : Int32)), (.int p2), (.long (8388608 : Int64))]) _
    refine XS.iand X_1.here hx rfl (hb hby at_43) rfl ?_
    show oS pP eE below T_1 (mkF mM 44 (lc106 p1 p2 p3 p4 fl sv) [(.int (p2 &&& (8388607 : Int32))), (.long (8388608 : Int64))]) _
    refine XT.i2l X_1.here hx rfl (hb hby at_44) rfl ?_
    show oS pP eE below T_1 (mkF mM 45 (lc106 p1 p2 p3 p4 fl sv) [(.long ((p2 &&& (8388607 : Int32)).toInt64)), (.long (8388608 : Int64))]) _
    refine XT.ladd X_1.here hx rfl (hb hby at_45) rfl ?_
    show Steps pP.tables eE below (T_1.setTop (mkF mM 46 (lc106 p1 p2 p3 p4 fl sv) [(.long ((8388608 : Int64) + ((p2 &&& (8388607 : Int32)).toInt64)))])) _
    rw [hmv]
    refine XT.lstore X_1.here hx rfl (hb hby at_46) rfl (l' := (lc107 p1 p2 p3 p4 fl sv mv)) rfl ?_
    refine XT.lloadN X_1.here hx rfl (hb hby at_48) rfl ?_
    refine XT.lconst X_1.here hx rfl (hb hby at_49) ?_
    refine XS.iload X_1.here hx rfl (hb hby at_50) rfl ?_
    show oS pP eE below T_1 (mkF mM 52 (lc107 p1 p2 p3 p4 fl sv mv) [(.int sv), (.long (1 : Int64)), (.long p4)]) _
    refine XT.lshl X_1.here hx rfl (hb hby at_52) rfl ?_
    refine XT.lconst X_1.here hx rfl (hb hby at_53) ?_
    show oS pP eE below T_1 (mkF mM 54 (lc107 p1 p2 p3 p4 fl sv mv) [(.long (1 : Int64)), (.long ((1 : Int64) <<< (sv.toInt64 &&& 63))), (.long p4)]) _
    refine XT.lsub X_1.here hx rfl (hb hby at_54) rfl ?_
    show oS pP eE below T_1 (mkF mM 55 (lc107 p1 p2 p3 p4 fl sv mv) [(.long (((1 : Int64) <<< (sv.toInt64 &&& 63)) - (1 : Int64))), (.long p4)]) _
    refine XT.land X_1.here hx rfl (hb hby at_55) rfl ?_
    show Steps pP.tables eE below (T_1.setTop (mkF mM 56 (lc107 p1 p2 p3 p4 fl sv mv) [(.long (p4 &&& (((1 : Int64) <<< (sv.toInt64 &&& 63)) - (1 : Int64))))])) _
    rw [hrv]
    refine XT.lstore X_1.here hx rfl (hb hby at_56) rfl (l' := (lc108 p1 p2 p3 p4 fl sv mv rv)) rfl ?_
    refine XT.lload X_1.here hx rfl (hb hby at_58) rfl ?_
    refine XS.iload X_1.here hx rfl (hb hby at_60) rfl ?_
    show oS pP eE below T_1 (mkF mM 62 (lc108 p1 p2 p3 p4 fl sv mv rv) [(.int sv), (.long mv)]) _
    refine XT.lshl X_1.here hx rfl (hb hby at_62) rfl ?_
    refine XT.lload X_1.here hx rfl (hb hby at_63) rfl ?_
    show oS pP eE below T_1 (mkF mM 65 (lc108 p1 p2 p3 p4 fl sv mv rv) [(.long rv), (.long (mv <<< (sv.toInt64 &&& 63)))]) _
    refine XT.ladd X_1.here hx rfl (hb hby at_65) rfl ?_
    show Steps pP.tables eE below (T_1.setTop (mkF mM 66 (lc108 p1 p2 p3 p4 fl sv mv rv) [(.long ((mv <<< (sv.toInt64 &&& 63)) + rv))])) _
    rw [hvv]
    refine XT.lstore X_1.here hx rfl (hb hby at_66) rfl (l' := (lc109 p1 p2 p3 p4 fl sv mv rv vv)) rfl ?_
    refine XS.iload X_1.here hx rfl (hb hby at_68) rfl ?_
    refine XS.ifYes X_1.here hx rfl (pc0 := 70) (pc' := 80) rfl (hb hby at_70) rfl (by decide) (by decide) (by decide) ?_
    refine XT.lload X_1.here hx rfl (hb hby at_80) rfl ?_
    show oS pP eE below T_1 (mkF mM 82 (lc109 p1 p2 p3 p4 fl sv mv rv vv) [(.long vv)]) _
    refine XS.l2dS X_1.here hx rfl (hb hby at_82) rfl rfl ?_
    show oS pP eE below T_1 (mkF mM 83 (lc109 p1 p2 p3 p4 fl sv mv rv vv) [(.double (FP.l2d vv))]) _
    refine XS.dstore X_1.here hx rfl (hb hby at_83) rfl (l' := (lc110 p1 p2 p3 p4 fl sv mv rv vv)) rfl ?_
    refine XS.aload X_1.here hx rfl (hb hby at_85) rfl rfl ?_
    show oS pP eE below T_1 (mkF mM 87 (lc110 p1 p2 p3 p4 fl sv mv rv vv) [(.ref fl)]) _
    refine XS.dload X_1.here hx rfl (hb hby at_87) rfl ?_
    show oS pP eE below T_1 (mkF mM 89 (lc110 p1 p2 p3 p4 fl sv mv rv vv) [(.double (FP.l2d vv)), (.ref fl)]) _
    refine st_2.trans ?_
    show oS pP eE below T_2 (mkF mM 92 (lc110 p1 p2 p3 p4 fl sv mv rv vv) [(.double (FP.f2d (FP.d2f (FP.l2d vv))))]) _
    refine XS.dstore X_2.here hx rfl (hb hby at_92) rfl (l' := (lc111 p1 p2 p3 p4 fl sv mv rv vv)) rfl ?_
    refine XS.iload X_2.here hx rfl (hb hby at_94) rfl ?_
    refine XS.bipush X_2.here hx rfl (hb hby at_96) ?_
    refine XS.icmpYes X_2.here hx rfl (pc0 := 98) (pc' := 115) rfl (hb hby at_98) rfl (by decide) (by decide) (by decide) ?_
    refine XS.iload X_2.here hx rfl (hb hby at_115) rfl ?_
    refine XS.ifYes X_2.here hx rfl (pc0 := 117) (pc' := 127) rfl (hb hby at_117) rfl (XT.i0_ne_t hs0) (by decide) (by decide) ?_
    refine XT.lconst X_2.here hx rfl (hb hby at_127) ?_
    refine XS.iload X_2.here hx rfl (hb hby at_128) rfl ?_
    show oS pP eE below T_2 (mkF mM 130 (lc111 p1 p2 p3 p4 fl sv mv rv vv) [(.int sv), (.long (1 : Int64))]) _
    refine XS.iconst X_2.here hx rfl (hb hby at_130) ?_
    show oS pP eE below T_2 (mkF mM 131 (lc111 p1 p2 p3 p4 fl sv mv rv vv) [(.int (1 : Int32)), (.int sv), (.long (1 : Int64))]) _
    refine XS.isub X_2.here hx rfl (hb hby at_131) rfl ?_
    show oS pP eE below T_2 (mkF mM 132 (lc111 p1 p2 p3 p4 fl sv mv rv vv) [(.int (sv - (1 : Int32))), (.long (1 : Int64))]) _
    refine XT.lshl X_2.here hx rfl (hb hby at_132) rfl ?_
    refine XT.lstore X_2.here hx rfl (hb hby at_133) rfl (l' := (lc115 p1 p2 p3 p4 fl sv mv rv vv)) rfl ?_
    refine XT.lload X_2.here hx rfl (hb hby at_135) rfl ?_
    refine XT.lload X_2.here hx rfl (hb hby at_137) rfl ?_
    show oS pP eE below T_2 (mkF mM 139 (lc115 p1 p2 p3 p4 fl sv mv rv vv) [(.long ((1 : Int64) <<< ((sv - (1 : Int32)).toInt64 &&& 63))), (.long rv)]) _
    refine XT.lcmp X_2.here hx rfl (hb hby at_139) rfl ?_
    refine XS.ifYes X_2.here hx rfl (pc0 := 140) (pc' := 150) rfl (hb hby at_140) rfl (XT.ll_ge_t hb1) (by decide) (by decide) ?_
    refine XT.lload X_2.here hx rfl (hb hby at_150) rfl ?_
    refine XT.lload X_2.here hx rfl (hb hby at_152) rfl ?_
    show oS pP eE below T_2 (mkF mM 154 (lc115 p1 p2 p3 p4 fl sv mv rv vv) [(.long ((1 : Int64) <<< ((sv - (1 : Int32)).toInt64 &&& 63))), (.long rv)]) _
    refine XT.lcmp X_2.here hx rfl (hb hby at_154) rfl ?_
    refine XS.ifYes X_2.here hx rfl (pc0 := 155) (pc' := 167) rfl (hb hby at_155) rfl (XT.ll_le_t hb2) (by decide) (by decide) ?_
    refine XT.lload X_2.here hx rfl (hb hby at_167) rfl ?_
    refine XT.lconst X_2.here hx rfl (hb hby at_169) ?_
    show oS pP eE below T_2 (mkF mM 170 (lc115 p1 p2 p3 p4 fl sv mv rv vv) [(.long (1 : Int64)), (.long mv)]) _
    refine XT.land X_2.here hx rfl (hb hby at_170) rfl ?_
    refine XT.lconst X_2.here hx rfl (hb hby at_171) ?_
    show oS pP eE below T_2 (mkF mM 172 (lc115 p1 p2 p3 p4 fl sv mv rv vv) [(.long (0 : Int64)), (.long (mv &&& (1 : Int64)))]) _
    refine XT.lcmp X_2.here hx rfl (hb hby at_172) rfl ?_
    refine XS.ifYes X_2.here hx rfl (pc0 := 173) (pc' := 181) rfl (hb hby at_173) rfl (XT.ll_ne_t hb3) (by decide) (by decide) ?_
    refine XT.lload X_2.here hx rfl (hb hby at_181) rfl ?_
    refine XT.lconst X_2.here hx rfl (hb hby at_183) ?_
    show oS pP eE below T_2 (mkF mM 184 (lc115 p1 p2 p3 p4 fl sv mv rv vv) [(.long (1 : Int64)), (.long mv)]) _
    refine XT.ladd X_2.here hx rfl (hb hby at_184) rfl ?_
    refine XT.lstore X_2.here hx rfl (hb hby at_185) rfl (l' := (lc117 p1 p2 p3 p4 fl sv mv rv vv)) rfl ?_
    refine XT.lload X_2.here hx rfl (hb hby at_187) rfl ?_
    refine XS.iload X_2.here hx rfl (hb hby at_189) rfl ?_
    show oS pP eE below T_2 (mkF mM 191 (lc117 p1 p2 p3 p4 fl sv mv rv vv) [(.int sv), (.long (mv + (1 : Int64)))]) _
    refine XT.lshl X_2.here hx rfl (hb hby at_191) rfl ?_
    refine XT.lstore X_2.here hx rfl (hb hby at_192) rfl (l' := (lc118 p1 p2 p3 p4 fl sv mv rv vv)) rfl ?_
    refine XS.iload X_2.here hx rfl (hb hby at_194) rfl ?_
    refine XS.ifYes X_2.here hx rfl (pc0 := 196) (pc' := 206) rfl (hb hby at_196) rfl (by decide) (by decide) (by decide) ?_
    refine XT.lload X_2.here hx rfl (hb hby at_206) rfl ?_
    show oS pP eE below T_2 (mkF mM 208 (lc118 p1 p2 p3 p4 fl sv mv rv vv) [(.long ((mv + (1 : Int64)) <<< (sv.toInt64 &&& 63)))]) _
    refine XS.l2dS X_2.here hx rfl (hb hby at_208) rfl rfl ?_
    show oS pP eE below T_2 (mkF mM 209 (lc118 p1 p2 p3 p4 fl sv mv rv vv) [(.double (FP.l2d ((mv + (1 : Int64)) <<< (sv.toInt64 &&& 63))))]) _
    refine XS.dstore X_2.here hx rfl (hb hby at_209) rfl (l' := (lc119 p1 p2 p3 p4 fl sv mv rv vv)) rfl ?_
    show oS pP eE below T_2 (mkF mM 211 (lc119 p1 p2 p3 p4 fl sv mv rv vv) []) _
    refine XS.dload X_2.here hx rfl (hb hby at_211) rfl ?_
    show oS pP eE below T_2 (mkF mM 213 (lc119 p1 p2 p3 p4 fl sv mv rv vv) [(.double (FP.f2d (FP.d2f (FP.l2d vv))))]) _
    refine XS.dload X_2.here hx rfl (hb hby at_213) rfl ?_
    show oS pP eE below T_2 (mkF mM 215 (lc119 p1 p2 p3 p4 fl sv mv rv vv) [(.double (FP.l2d ((mv + (1 : Int64)) <<< (sv.toInt64 &&& 63)))), (.double (FP.f2d (FP.d2f (FP.l2d vv))))]) _
    refine XS.dcmpS X_2.here hx rfl (hb hby at_215) rfl rfl ?_
    refine XS.ifNo X_2.here hx rfl (hb hby at_216) rfl (XT.i0_ne_f hfin) ?_
    refine XS.iconst X_2.here hx rfl (hb hby at_219) ?_
    refine XS.goto X_2.here hx rfl (pc0 := 220) (pc' := 224) rfl (hb hby at_220) (by decide) (by decide) ?_
    show oS pP eE below T_2 (mkF mM 224 (lc119 p1 p2 p3 p4 fl sv mv rv vv) [(.int (1 : Int32))]) _
    exact retN X_2 hx (t := .boolean) Bd.returns (by simp) (hb hby at_224) hr
  · show Q_law60o Z p1 p2 p3 p4 sv mv rv vv fl h0 n0 _ T_2.heap _
    exact ⟨rfl, N_2⟩
abbrev lc120 (p1 : Int32) (p2 : Int32) (p3 : Int32) (p4 : Int64) : Array Slot := #[.val (.int p1), .val (.int p2), .val (.int p3), .val (.long p4), .second, .val (.int (6 : Int32)), .val (.int (1 : Int32)), .unset, .unset, .unset, .unset, .unset, .unset, .unset, .unset, .unset, .unset, .unset, .unset, .unset, .unset, .unset, .unset, .unset, .unset]
abbrev lc121 (p1 : Int32) (p2 : Int32) (p3 : Int32) (p4 : Int64) (fl : Addr) : Array Slot := #[.val (.int p1), .val (.int p2), .val (.int p3), .val (.long p4), .second, .val (.int (6 : Int32)), .val (.int (1 : Int32)), .val (.ref fl), .unset, .unset, .unset, .unset, .unset, .unset, .unset, .unset, .unset, .unset, .unset, .unset, .unset, .unset, .unset, .unset, .unset]
abbrev lc122 (p1 : Int32) (p2 : Int32) (p3 : Int32) (p4 : Int64) (fl : Addr) (sv : Int32) : Array Slot := #[.val (.int p1), .val (.int p2), .val (.int p3), .val (.long p4), .second, .val (.int (6 : Int32)), .val (.int (1 : Int32)), .val (.ref fl), .val (.int sv), .unset, .unset, .unset, .unset, .unset, .unset, .unset, .unset, .unset, .unset, .unset, .unset, .unset, .unset, .unset, .unset]
abbrev lc123 (p1 : Int32) (p2 : Int32) (p3 : Int32) (p4 : Int64) (fl : Addr) (sv : Int32) (mv : Int64) : Array Slot := #[.val (.int p1), .val (.int p2), .val (.int p3), .val (.long p4), .second, .val (.int (6 : Int32)), .val (.int (1 : Int32)), .val (.ref fl), .val (.int sv), .val (.long mv), .second, .unset, .unset, .unset, .unset, .unset, .unset, .unset, .unset, .unset, .unset, .unset, .unset, .unset, .unset]
abbrev lc124 (p1 : Int32) (p2 : Int32) (p3 : Int32) (p4 : Int64) (fl : Addr) (sv : Int32) (mv : Int64) (rv : Int64) : Array Slot := #[.val (.int p1), .val (.int p2), .val (.int p3), .val (.long p4), .second, .val (.int (6 : Int32)), .val (.int (1 : Int32)), .val (.ref fl), .val (.int sv), .val (.long mv), .second, .val (.long rv), .second, .unset, .unset, .unset, .unset, .unset, .unset, .unset, .unset, .unset, .unset, .unset, .unset]
abbrev lc125 (p1 : Int32) (p2 : Int32) (p3 : Int32) (p4 : Int64) (fl : Addr) (sv : Int32) (mv : Int64) (rv : Int64) (vv : Int64) : Array Slot := #[.val (.int p1), .val (.int p2), .val (.int p3), .val (.long p4), .second, .val (.int (6 : Int32)), .val (.int (1 : Int32)), .val (.ref fl), .val (.int sv), .val (.long mv), .second, .val (.long rv), .second, .val (.long vv), .second, .unset, .unset, .unset, .unset, .unset, .unset, .unset, .unset, .unset, .unset]
abbrev lc126 (p1 : Int32) (p2 : Int32) (p3 : Int32) (p4 : Int64) (fl : Addr) (sv : Int32) (mv : Int64) (rv : Int64) (vv : Int64) : Array Slot := #[.val (.int p1), .val (.int p2), .val (.int p3), .val (.long p4), .second, .val (.int (6 : Int32)), .val (.int (1 : Int32)), .val (.ref fl), .val (.int sv), .val (.long mv), .second, .val (.long rv), .second, .val (.long vv), .second, .val (.double (FP.dneg (FP.l2d vv))), .second, .unset, .unset, .unset, .unset, .unset, .unset, .unset, .unset]
abbrev lc127 (p1 : Int32) (p2 : Int32) (p3 : Int32) (p4 : Int64) (fl : Addr) (sv : Int32) (mv : Int64) (rv : Int64) (vv : Int64) : Array Slot := #[.val (.int p1), .val (.int p2), .val (.int p3), .val (.long p4), .second, .val (.int (6 : Int32)), .val (.int (1 : Int32)), .val (.ref fl), .val (.int sv), .val (.long mv), .second, .val (.long rv), .second, .val (.long vv), .second, .val (.double (FP.dneg (FP.l2d vv))), .second, .val (.double (FP.f2d (FP.d2f (FP.dneg (FP.l2d vv))))), .second, .unset, .unset, .unset, .unset, .unset, .unset]
abbrev lc128 (p1 : Int32) (p2 : Int32) (p3 : Int32) (p4 : Int64) (fl : Addr) (sv : Int32) (mv : Int64) (rv : Int64) (vv : Int64) : Array Slot := #[.val (.int p1), .val (.int p2), .val (.int p3), .val (.long p4), .second, .val (.int (6 : Int32)), .val (.int (1 : Int32)), .val (.ref fl), .val (.int sv), .val (.long mv), .second, .val (.long rv), .second, .val (.long vv), .second, .val (.double (FP.dneg (FP.l2d vv))), .second, .val (.double (FP.f2d (FP.d2f (FP.dneg (FP.l2d vv))))), .second, .val (.long mv), .second, .unset, .unset, .unset, .unset]
abbrev lc129 (p1 : Int32) (p2 : Int32) (p3 : Int32) (p4 : Int64) (fl : Addr) (sv : Int32) (mv : Int64) (rv : Int64) (vv : Int64) : Array Slot := #[.val (.int p1), .val (.int p2), .val (.int p3), .val (.long p4), .second, .val (.int (6 : Int32)), .val (.int (1 : Int32)), .val (.ref fl), .val (.int sv), .val (.long mv), .second, .val (.long rv), .second, .val (.long vv), .second, .val (.double (FP.dneg (FP.l2d vv))), .second, .val (.double (FP.f2d (FP.d2f (FP.dneg (FP.l2d vv))))), .second, .val (.long mv), .second, .val (.long (mv <<< (sv.toInt64 &&& 63))), .second, .unset, .unset]
abbrev lc130 (p1 : Int32) (p2 : Int32) (p3 : Int32) (p4 : Int64) (fl : Addr) (sv : Int32) (mv : Int64) (rv : Int64) (vv : Int64) : Array Slot := #[.val (.int p1), .val (.int p2), .val (.int p3), .val (.long p4), .second, .val (.int (6 : Int32)), .val (.int (1 : Int32)), .val (.ref fl), .val (.int sv), .val (.long mv), .second, .val (.long rv), .second, .val (.long vv), .second, .val (.double (FP.dneg (FP.l2d vv))), .second, .val (.double (FP.f2d (FP.d2f (FP.dneg (FP.l2d vv))))), .second, .val (.long mv), .second, .val (.long (mv <<< (sv.toInt64 &&& 63))), .second, .val (.double (FP.dneg (FP.l2d (mv <<< (sv.toInt64 &&& 63))))), .second]
theorem ef_law61z (mM : MethodId) (x0 : Int32) (x1 : Int32) (x2 : Int32) (x3 : Int64) : entryFrame mM #[(.int x0), (.int x1), (.int x2), (.long x3)] maxLocals = mkF mM 0 #[.val (.int x0), .val (.int x1), .val (.int x2), .val (.long x3), .second, .unset, .unset, .unset, .unset, .unset, .unset, .unset, .unset, .unset, .unset, .unset, .unset, .unset, .unset, .unset, .unset, .unset, .unset, .unset, .unset] [] := by first | (simp [entryFrame, mkF, argsToLocals, Value.category, maxLocals]; done) | rfl
def Q_law61z (Z : State) (p1 : Int32) (p2 : Int32) (p3 : Int32) (p4 : Int64) (sv : Int32) (mv : Int64) (rv : Int64) (vv : Int64) (fl : Addr) (h0 : Heap) (n0 : Nat) (v_ : Option Value) (h_ : Heap) (L_ : List Loc) : Prop := v_ = some (.int (1 : Int32)) ∧ Fr n0 L_
set_option maxRecDepth 65536 in
set_option maxHeartbeats 40000000 in
theorem rm_law61z (l : Launch) (Z : State) (a0 : Array Value) (hw : ∀ d ∈ tables_1, d.before a0 Z = true) (ws : List Jvm.Cond) (p1 : Int32) (p2 : Int32) (p3 : Int32) (p4 : Int64) (sv : Int32) (mv : Int64) (rv : Int64) (vv : Int64) (fl : Addr) (h0 : Heap) (n0 : Nat) (Z0 : n0 ≤ h0.size) (hk : (p1 &&& (7 : Int32)) = (6 : Int32)) (hg : ¬ ((p1 >>> ((3 : Int32) &&& 31)) &&& (1 : Int32)) = 0) (hsv : ((p3 &&& (31 : Int32)) % (30 : Int32)) = sv) (hmv : ((8388608 : Int64) + ((p2 &&& (8388607 : Int32)).toInt64)) = mv) (hrv : (p4 &&& (((1 : Int64) <<< (sv.toInt64 &&& 63)) - (1 : Int64))) = rv) (hvv : ((mv <<< (sv.toInt64 &&& 63)) + rv) = vv) (hnn : Jvm.Free.Fl.NoNaN64 (FP.dneg (FP.l2d vv))) (S_SampleType_FLOAT32 : Sta Z h0 "com/example/greenweft/greenweft/map/SampleType" "FLOAT32" "Lcom/example/greenweft/greenweft/map/SampleType;" (.ref fl)) (E_fl : Exa Z h0 fl "com/example/greenweft/greenweft/map/SampleType") (hs0 : sv = 0) (hfin : cmpValue (FP.dcmp (FP.f2d (FP.d2f (FP.dneg (FP.l2d vv)))) (FP.dneg (FP.l2d (mv <<< (sv.toInt64 &&& 63))))) .l = 0) :
    MetFree l x (head1 (Jvm.Cond.code x code maxLocals ret :: ws) room_1) (fun aa_ U_ => aa_ = #[(.int p1), (.int p2), (.int p3), (.long p4)] ∧ Z.Warmed39 U_.vm ∧ U_.heap = h0) (fun _ _ _ _ _ => True) (fun _ U_ o_ U'_ => ∃ v_ L_, o_ = .returned v_ ∧ Q_law61z Z p1 p2 p3 p4 sv mv rv vv fl h0 n0 v_ U'_.heap L_ ∧ FrameEnd U_ o_ U'_ L_ 0 0) := by
  refine MetFree.of_bodySF (plainFor_of_name pn_0) hisR ?_
  intro pP eE sS mM argsA below meth cC s₁ Bd hml0 hP hK
  obtain ⟨rfl, hZ, hh⟩ := hP
  have hx := Bd.exec
  have hby := Bd.bytes
  have hml : cC.maxLocals = 25 := hml0
  have hown : sS.vm.findClass "com/example/greenweft/greenweft/map/SampleTypeStoredPinLaw" = some mM.cls := findClass_of_methodNamed Bd.named
  have hnm := (name_of_methodNamed Bd.named Bd.method).1
  have X0 : Stand pP l eE room_1 sS mM #[(.int p1), (.int p2), (.int p3), (.long p4)] below meth cC s₁ [] 0 0 := Stand.of_body Bd
  have e0 : s₁.heap = h0 := by rw [← hh, Bd.state]; rfl
  have N0 := Fr.nil n0
  have pre0 : ∀ t_, Steps pP.tables eE below (s₁.setTop (mkF mM 0 #[.val (.int p1), .val (.int p2), .val (.int p3), .val (.long p4), .second, .unset, .unset, .unset, .unset, .unset, .unset, .unset, .unset, .unset, .unset, .unset, .unset, .unset, .unset, .unset, .unset, .unset, .unset, .unset, .unset] [])) t_ → Steps pP.tables eE below (s₁.setTop (entryFrame mM #[(.int p1), (.int p2), (.int p3), (.long p4)] maxLocals)) t_ := fun t_ k_ => castTop (ef_law61z mM p1 p2 p3 p4) k_
  obtain ⟨_, _, ⟨T_1, L_1, k_1, n_1⟩, -, X_1, ⟨Lc_1, hQ_1, l_1, y_1, z_1⟩, st_1⟩ := Jvm.LawKit.callS X0 hx (y := MN0) hown (mvT hZ (ow hw 0 rfl)) (mvT hZ (ow hw 1 rfl)) (mvT hZ (ow hw 2 rfl)) (mvT hZ (ow hw 3 rfl)) (by decide) (backOf (W := 0) (rm_pick6 l Z a0 hw [] fl h0 n0 Z0 S_SampleType_FLOAT32) hZ (ow hw 3 rfl) (ow hw 2 rfl) (by decide) (by decide)) (g := (mkF mM 23 (lc120 p1 p2 p3 p4) [(.int (6 : Int32))])) rfl (by rw [hml]; rfl) (argsL := [(.int (6 : Int32))]) (rest := []) (lenOf pd_0 rfl) rfl (by show 2 * 0 + _ ≤ _; exact Nat.le_of_eq rfl) (hb hby at_23) (fun _ _ => ⟨rfl, e0, (by decide : 0 + 0 ≤ _), (by decide : 0 + 0 ≤ _)⟩)
  dsimp only [Pt.U, Pt.locs, Pt.cells, Pt.slots] at X_1 l_1 y_1 z_1 st_1 hQ_1
  subst l_1 y_1 z_1
  obtain ⟨rfl, N_1q, eh_1⟩ := hQ_1
  have N_1 := Fr.app N0 N_1q
  obtain ⟨cq_2, kq_2, q_2a, q_2b, q_2c⟩ := isOf hZ eh_1 E_fl
  obtain ⟨_, _, ⟨T_2, L_2, k_2, n_2⟩, -, X_2, ⟨Lc_2, hQ_2, l_2, y_2, z_2⟩, st_2⟩ := X_1.virtualBack hx (y := MN1) (z := MN1) hown (mvT hZ (ow hw 9 rfl)) (mvT hZ (ow hw 10 rfl)) (notFace_of_selects (args := #[]) (mvT hZ (ow hw 12 rfl))) (mvT hZ (ow hw 12 rfl)) (mvT hZ (ow hw 11 rfl)) (by decide) (backOf (W := 0) (rm_stf l Z a0 hw [] fl (FP.dneg (FP.l2d vv)) h0 n0 Z0 S_SampleType_FLOAT32 hnn) hZ (ow hw 13 rfl) (ow hw 5 rfl) (by decide) (by decide)) q_2a q_2c (g := (mkF mM 89 (lc126 p1 p2 p3 p4 fl sv mv rv vv) [(.double (FP.dneg (FP.l2d vv))), (.ref fl)])) rfl (by rw [hml]; rfl) (Steps.refl _) (argsL := [(.double (FP.dneg (FP.l2d vv)))]) (rest := []) (lenOf pd_1 rfl) rfl (by show 2 * 0 + _ ≤ _; exact Nat.le_of_eq rfl) (hb hby at_89) (fun _ _ => ⟨rfl, eh_1, (by decide : 0 + 0 ≤ _), (by decide : 0 + 0 ≤ _)⟩)
  dsimp only [Pt.U, Pt.locs, Pt.cells, Pt.slots] at X_2 l_2 y_2 z_2 st_2 hQ_2
  subst l_2 y_2 z_2
  obtain ⟨rfl, N_2q, eh_2⟩ := hQ_2
  have N_2 := Fr.app N_1 N_2q
  obtain ⟨fs, hr, hrun, hended, hW, hsame⟩ := X_2.leave (v := some (.int (1 : Int32))) (fun h => by rw [Bd.returns] at h; cases h)
  refine ⟨_, _, pre0 _ ?_, hrun, hended, _, _, rfl, ?_, ⟨_, rfl⟩, hW, hsame.mono (by decide) (by decide)⟩
  · show oS pP eE below s₁ (mkF mM 0 (lc0 p1 p2 p3 p4) []) _
    refine XS.iloadN X0.here hx rfl (hb hby at_0) rfl ?_
    refine XS.bipush X0.here hx rfl (hb hby at_1) ?_
    show oS pP eE below s₁ (mkF mM 3 (lc0 p1 p2 p3 p4) [(.int (7 : Int32)), (.int p1)]) _
    refine XS.iand X0.here hx rfl (hb hby at_3) rfl ?_
    show Steps pP.tables eE below (s₁.setTop (mkF mM 4 (lc0 p1 p2 p3 p4) [(.int (p1 &&& (7 : Int32)))])) _
    rw [hk]
    refine XS.istore X0.here hx rfl (hb hby at_4) rfl (l' := (lc103 p1 p2 p3 p4)) rfl ?_
    refine XS.iloadN X0.here hx rfl (hb hby at_6) rfl ?_
    refine XS.iconst X0.here hx rfl (hb hby at_7) ?_
    show oS pP eE below s₁ (mkF mM 8 (lc103 p1 p2 p3 p4) [(.int (3 : Int32)), (.int p1)]) _
    refine XT.ishr X0.here hx rfl (hb hby at_8) rfl ?_
    refine XS.iconst X0.here hx rfl (hb hby at_9) ?_
    show oS pP eE below s₁ (mkF mM 10 (lc103 p1 p2 p3 p4) [(.int (1 : Int32)), (.int (p1 >>> ((3 : Int32) &&& 31)))]) _
    refine XS.iand X0.here hx rfl (hb hby at_10) rfl ?_
    refine XS.ifNo X0.here hx rfl (hb hby at_11) rfl (XT.i0_eq_f hg) ?_
    refine XS.iconst X0.here hx rfl (hb hby at_14) ?_
    refine XS.goto X0.here hx rfl (pc0 := 15) (pc' := 19) rfl (hb hby at_15) (by decide) (by decide) ?_
    refine XS.istore X0.here hx rfl (hb hby at_19) rfl (l' := (lc120 p1 p2 p3 p4)) rfl ?_
    refine XS.iload X0.here hx rfl (hb hby at_21) rfl ?_
    show oS pP eE below s₁ (mkF mM 23 (lc120 p1 p2 p3 p4) [(.int (6 : Int32))]) _
    refine st_1 _ ?_
    show oS pP eE below T_1 (mkF mM 26 (lc120 p1 p2 p3 p4) [(.ref fl)]) _
    refine XS.astore X_1.here hx rfl (hb hby at_26) rfl rfl (l' := (lc121 p1 p2 p3 p4 fl)) rfl ?_
    refine XS.iloadN X_1.here hx rfl (hb hby at_28) rfl ?_
    refine XS.bipush X_1.here hx rfl (hb hby at_29) ?_
    show oS pP eE below T_1 (mkF mM 31 (lc121 p1 p2 p3 p4 fl) [(.int (31 : Int32)), (.int p3)]) _
    refine XS.iand X_1.here hx rfl (hb hby at_31) rfl ?_
    refine XS.bipush X_1.here hx rfl (hb hby at_32) ?_
    show oS pP eE below T_1 (mkF mM 34 (lc121 p1 p2 p3 p4 fl) [(.int (30 : Int32)), (.int (p3 &&& (31 : Int32)))]) _
    refine iremM X_1 hx rfl (hb hby at_34) rfl (by decide) ?_
    show Steps pP.tables eE below (T_1.setTop (mkF mM 35 (lc121 p1 p2 p3 p4 fl) [(.int ((p3 &&& (31 : Int32)) % (30 : Int32)))])) _
    rw [hsv]
    refine XS.istore X_1.here hx rfl (hb hby at_35) rfl (l' := (lc122 p1 p2 p3 p4 fl sv)) rfl ?_
    show oS pP eE below T_1 (mkF mM 37 (lc122 p1 p2 p3 p4 fl sv) []) _
    refine X_1.ldc2J hx hown (mvT hZ (ow hw 7 rfl)) (g := (mkF mM 37 (lc122 p1 p2 p3 p4 fl sv) [])) rfl (hb hby at_37) ?_
    refine XS.iloadN X_1.here hx rfl (hb hby at_40) rfl ?_
    show oS pP eE below T_1 (mkF mM 41 (lc122 p1 p2 p3 p4 fl sv) [(.int p2), (.long (8388608 : Int64))]) _
    refine X_1.ldcI hx hown (mvT hZ (ow hw 8 rfl)) (g := (mkF mM 41 (lc122 p1 p2 p3 p4 fl sv) [(.int p2), (.long (8388608 : Int64))])) rfl (hb hby at_41) ?_
    show oS pP eE below T_1 (mkF mM 43 (lc122 p1 p2 p3 p4 fl sv) [(.int (8388607 : Int32)), (.int p2), (.long (8388608 : Int64))]) _
    refine XS.iand X_1.here hx rfl (hb hby at_43) rfl ?_
    show oS pP eE below T_1 (mkF mM 44 (lc122 p1 p2 p3 p4 fl sv) [(.int (p2 &&& (8388607 : Int32))), (.long (8388608 : Int64))]) _
    refine XT.i2l X_1.here hx rfl (hb hby at_44) rfl ?_
    show oS pP eE below T_1 (mkF mM 45 (lc122 p1 p2 p3 p4 fl sv) [(.long ((p2 &&& (8388607 : Int32)).toInt64)), (.long (8388608 : Int64))]) _
    refine XT.ladd X_1.here hx rfl (hb hby at_45) rfl ?_
    show Steps pP.tables eE below (T_1.setTop (mkF mM 46 (lc122 p1 p2 p3 p4 fl sv) [(.long ((8388608 : Int64) + ((p2 &&& (8388607 : Int32)).toInt64)))])) _
    rw [hmv]
    refine XT.lstore X_1.here hx rfl (hb hby at_46) rfl (l' := (lc123 p1 p2 p3 p4 fl sv mv)) rfl ?_
    refine XT.lloadN X_1.here hx rfl (hb hby at_48) rfl ?_
    refine XT.lconst X_1.here hx rfl (hb hby at_49) ?_
    refine XS.iload X_1.here hx rfl (hb hby at_50) rfl ?_
    show oS pP eE below T_1 (mkF mM 52 (lc123 p1 p2 p3 p4 fl sv mv) [(.int sv), (.long (1 : Int64)), (.long p4)]) _
    refine XT.lshl X_1.here hx rfl (hb hby at_52) rfl ?_
    refine XT.lconst X_1.here hx rfl (hb hby at_53) ?_
    show oS pP eE below T_1 (mkF mM 54 (lc123 p1 p2 p3 p4 fl sv mv) [(.long (1 : Int64)), (.long ((1 : Int64) <<< (sv.toInt64 &&& 63))), (.long p4)]) _
    refine XT.lsub X_1.here hx rfl (hb hby at_54) rfl ?_
    show oS pP eE below T_1 (mkF mM 55 (lc123 p1 p2 p3 p4 fl sv mv) [(.long (((1 : Int64) <<< (sv.toInt64 &&& 63)) - (1 : Int64))), (.long p4)]) _
    refine XT.land X_1.here hx rfl (hb hby at_55) rfl ?_
    show Steps pP.tables eE below (T_1.setTop (mkF mM 56 (lc123 p1 p2 p3 p4 fl sv mv) [(.long (p4 &&& (((1 : Int64) <<< (sv.toInt64 &&& 63)) - (1 : Int64))))])) _
    rw [hrv]
    refine XT.lstore X_1.here hx rfl (hb hby at_56) rfl (l' := (lc124 p1 p2 p3 p4 fl sv mv rv)) rfl ?_
    refine XT.lload X_1.here hx rfl (hb hby at_58) rfl ?_
    refine XS.iload X_1.here hx rfl (hb hby at_60) rfl ?_
    show oS pP eE below T_1 (mkF mM 62 (lc124 p1 p2 p3 p4 fl sv mv rv) [(.int sv), (.long mv)]) _
    refine XT.lshl X_1.here hx rfl (hb hby at_62) rfl ?_
    refine XT.lload X_1.here hx rfl (hb hby at_63) rfl ?_
    show oS pP eE below T_1 (mkF mM 65 (lc124 p1 p2 p3 p4 fl sv mv rv) [(.long rv), (.long (mv <<< (sv.toInt64 &&& 63)))]) _
    refine XT.ladd X_1.here hx rfl (hb hby at_65) rfl ?_
    show Steps pP.tables eE below (T_1.setTop (mkF mM 66 (lc124 p1 p2 p3 p4 fl sv mv rv) [(.long ((mv <<< (sv.toInt64 &&& 63)) + rv))])) _
    rw [hvv]
    refine XT.lstore X_1.here hx rfl (hb hby at_66) rfl (l' := (lc125 p1 p2 p3 p4 fl sv mv rv vv)) rfl ?_
    refine XS.iload X_1.here hx rfl (hb hby at_68) rfl ?_
    refine XS.ifNo X_1.here hx rfl (hb hby at_70) rfl (by decide) ?_
    refine XT.lload X_1.here hx rfl (hb hby at_73) rfl ?_
    show oS pP eE below T_1 (mkF mM 75 (lc125 p1 p2 p3 p4 fl sv mv rv vv) [(.long vv)]) _
    refine XS.l2dS X_1.here hx rfl (hb hby at_75) rfl rfl ?_
    show oS pP eE below T_1 (mkF mM 76 (lc125 p1 p2 p3 p4 fl sv mv rv vv) [(.double (FP.l2d vv))]) _
    refine XS.dnegS X_1.here hx rfl (hb hby at_76) rfl rfl ?_
    refine XS.goto X_1.here hx rfl (pc0 := 77) (pc' := 83) rfl (hb hby at_77) (by decide) (by decide) ?_
    show oS pP eE below T_1 (mkF mM 83 (lc125 p1 p2 p3 p4 fl sv mv rv vv) [(.double (FP.dneg (FP.l2d vv)))]) _
    refine XS.dstore X_1.here hx rfl (hb hby at_83) rfl (l' := (lc126 p1 p2 p3 p4 fl sv mv rv vv)) rfl ?_
    refine XS.aload X_1.here hx rfl (hb hby at_85) rfl rfl ?_
    show oS pP eE below T_1 (mkF mM 87 (lc126 p1 p2 p3 p4 fl sv mv rv vv) [(.ref fl)]) _
    refine XS.dload X_1.here hx rfl (hb hby at_87) rfl ?_
    show oS pP eE below T_1 (mkF mM 89 (lc126 p1 p2 p3 p4 fl sv mv rv vv) [(.double (FP.dneg (FP.l2d vv))), (.ref fl)]) _
    refine st_2.trans ?_
    show oS pP eE below T_2 (mkF mM 92 (lc126 p1 p2 p3 p4 fl sv mv rv vv) [(.double (FP.f2d (FP.d2f (FP.dneg (FP.l2d vv)))))]) _
    refine XS.dstore X_2.here hx rfl (hb hby at_92) rfl (l' := (lc127 p1 p2 p3 p4 fl sv mv rv vv)) rfl ?_
    refine XS.iload X_2.here hx rfl (hb hby at_94) rfl ?_
    refine XS.bipush X_2.here hx rfl (hb hby at_96) ?_
    refine XS.icmpYes X_2.here hx rfl (pc0 := 98) (pc' := 115) rfl (hb hby at_98) rfl (by decide) (by decide) (by decide) ?_
    refine XS.iload X_2.here hx rfl (hb hby at_115) rfl ?_
    refine XS.ifNo X_2.here hx rfl (hb hby at_117) rfl (XT.i0_ne_f hs0) ?_
    refine XT.lload X_2.here hx rfl (hb hby at_120) rfl ?_
    refine XT.lstore X_2.here hx rfl (hb hby at_122) rfl (l' := (lc128 p1 p2 p3 p4 fl sv mv rv vv)) rfl ?_
    show oS pP eE below T_2 (mkF mM 124 (lc128 p1 p2 p3 p4 fl sv mv rv vv) []) _
    refine XS.goto X_2.here hx rfl (pc0 := 124) (pc' := 187) rfl (hb hby at_124) (by decide) (by decide) ?_
    refine XT.lload X_2.here hx rfl (hb hby at_187) rfl ?_
    refine XS.iload X_2.here hx rfl (hb hby at_189) rfl ?_
    show oS pP eE below T_2 (mkF mM 191 (lc128 p1 p2 p3 p4 fl sv mv rv vv) [(.int sv), (.long mv)]) _
    refine XT.lshl X_2.here hx rfl (hb hby at_191) rfl ?_
    refine XT.lstore X_2.here hx rfl (hb hby at_192) rfl (l' := (lc129 p1 p2 p3 p4 fl sv mv rv vv)) rfl ?_
    refine XS.iload X_2.here hx rfl (hb hby at_194) rfl ?_
    refine XS.ifNo X_2.here hx rfl (hb hby at_196) rfl (by decide) ?_
    refine XT.lload X_2.here hx rfl (hb hby at_199) rfl ?_
    show oS pP eE below T_2 (mkF mM 201 (lc129 p1 p2 p3 p4 fl sv mv rv vv) [(.long (mv <<< (sv.toInt64 &&& 63)))]) _
    refine XS.l2dS X_2.here hx rfl (hb hby at_201) rfl rfl ?_
    show oS pP eE below T_2 (mkF mM 202 (lc129 p1 p2 p3 p4 fl sv mv rv vv) [(.double (FP.l2d (mv <<< (sv.toInt64 &&& 63))))]) _
    refine XS.dnegS X_2.here hx rfl (hb hby at_202) rfl rfl ?_
    refine XS.goto X_2.here hx rfl (pc0 := 203) (pc' := 209) rfl (hb hby at_203) (by decide) (by decide) ?_
    show oS pP eE below T_2 (mkF mM 209 (lc129 p1 p2 p3 p4 fl sv mv rv vv) [(.double (FP.dneg (FP.l2d (mv <<< (sv.toInt64 &&& 63)))))]) _
    refine XS.dstore X_2.here hx rfl (hb hby at_209) rfl (l' := (lc130 p1 p2 p3 p4 fl sv mv rv vv)) rfl ?_
    show oS pP eE below T_2 (mkF mM 211 (lc130 p1 p2 p3 p4 fl sv mv rv vv) []) _
    refine XS.dload X_2.here hx rfl (hb hby at_211) rfl ?_
    show oS pP eE below T_2 (mkF mM 213 (lc130 p1 p2 p3 p4 fl sv mv rv vv) [(.double (FP.f2d (FP.d2f (FP.dneg (FP.l2d vv)))))]) _
    refine XS.dload X_2.here hx rfl (hb hby at_213) rfl ?_
    show oS pP eE below T_2 (mkF mM 215 (lc130 p1 p2 p3 p4 fl sv mv rv vv) [(.double (FP.dneg (FP.l2d (mv <<< (sv.toInt64 &&& 63))))), (.double (FP.f2d (FP.d2f (FP.dneg (FP.l2d vv)))))]) _
    refine XS.dcmpS X_2.here hx rfl (hb hby at_215) rfl rfl ?_
    refine XS.ifNo X_2.here hx rfl (hb hby at_216) rfl (XT.i0_ne_f hfin) ?_
    refine XS.iconst X_2.here hx rfl (hb hby at_219) ?_
    refine XS.goto X_2.here hx rfl (pc0 := 220) (pc' := 224) rfl (hb hby at_220) (by decide) (by decide) ?_
    show oS pP eE below T_2 (mkF mM 224 (lc130 p1 p2 p3 p4 fl sv mv rv vv) [(.int (1 : Int32))]) _
    exact retN X_2 hx (t := .boolean) Bd.returns (by simp) (hb hby at_224) hr
  · show Q_law61z Z p1 p2 p3 p4 sv mv rv vv fl h0 n0 _ T_2.heap _
    exact ⟨rfl, N_2⟩
abbrev lc131 (p1 : Int32) (p2 : Int32) (p3 : Int32) (p4 : Int64) (fl : Addr) (sv : Int32) (mv : Int64) (rv : Int64) (vv : Int64) : Array Slot := #[.val (.int p1), .val (.int p2), .val (.int p3), .val (.long p4), .second, .val (.int (6 : Int32)), .val (.int (1 : Int32)), .val (.ref fl), .val (.int sv), .val (.long mv), .second, .val (.long rv), .second, .val (.long vv), .second, .val (.double (FP.dneg (FP.l2d vv))), .second, .val (.double (FP.f2d (FP.d2f (FP.dneg (FP.l2d vv))))), .second, .unset, .unset, .val (.long ((1 : Int64) <<< ((sv - (1 : Int32)).toInt64 &&& 63))), .second, .unset, .unset]
abbrev lc132 (p1 : Int32) (p2 : Int32) (p3 : Int32) (p4 : Int64) (fl : Addr) (sv : Int32) (mv : Int64) (rv : Int64) (vv : Int64) : Array Slot := #[.val (.int p1), .val (.int p2), .val (.int p3), .val (.long p4), .second, .val (.int (6 : Int32)), .val (.int (1 : Int32)), .val (.ref fl), .val (.int sv), .val (.long mv), .second, .val (.long rv), .second, .val (.long vv), .second, .val (.double (FP.dneg (FP.l2d vv))), .second, .val (.double (FP.f2d (FP.d2f (FP.dneg (FP.l2d vv))))), .second, .val (.long mv), .second, .val (.long ((1 : Int64) <<< ((sv - (1 : Int32)).toInt64 &&& 63))), .second, .unset, .unset]
theorem ef_law61l (mM : MethodId) (x0 : Int32) (x1 : Int32) (x2 : Int32) (x3 : Int64) : entryFrame mM #[(.int x0), (.int x1), (.int x2), (.long x3)] maxLocals = mkF mM 0 #[.val (.int x0), .val (.int x1), .val (.int x2), .val (.long x3), .second, .unset, .unset, .unset, .unset, .unset, .unset, .unset, .unset, .unset, .unset, .unset, .unset, .unset, .unset, .unset, .unset, .unset, .unset, .unset, .unset] [] := by first | (simp [entryFrame, mkF, argsToLocals, Value.category, maxLocals]; done) | rfl
def Q_law61l (Z : State) (p1 : Int32) (p2 : Int32) (p3 : Int32) (p4 : Int64) (sv : Int32) (mv : Int64) (rv : Int64) (vv : Int64) (fl : Addr) (h0 : Heap) (n0 : Nat) (v_ : Option Value) (h_ : Heap) (L_ : List Loc) : Prop := v_ = some (.int (1 : Int32)) ∧ Fr n0 L_
set_option maxRecDepth 65536 in
set_option maxHeartbeats 40000000 in
theorem rm_law61l (l : Launch) (Z : State) (a0 : Array Value) (hw : ∀ d ∈ tables_1, d.before a0 Z = true) (ws : List Jvm.Cond) (p1 : Int32) (p2 : Int32) (p3 : Int32) (p4 : Int64) (sv : Int32) (mv : Int64) (rv : Int64) (vv : Int64) (fl : Addr) (h0 : Heap) (n0 : Nat) (Z0 : n0 ≤ h0.size) (hk : (p1 &&& (7 : Int32)) = (6 : Int32)) (hg : ¬ ((p1 >>> ((3 : Int32) &&& 31)) &&& (1 : Int32)) = 0) (hsv : ((p3 &&& (31 : Int32)) % (30 : Int32)) = sv) (hmv : ((8388608 : Int64) + ((p2 &&& (8388607 : Int32)).toInt64)) = mv) (hrv : (p4 &&& (((1 : Int64) <<< (sv.toInt64 &&& 63)) - (1 : Int64))) = rv) (hvv : ((mv <<< (sv.toInt64 &&& 63)) + rv) = vv) (hnn : Jvm.Free.Fl.NoNaN64 (FP.dneg (FP.l2d vv))) (S_SampleType_FLOAT32 : Sta Z h0 "com/example/greenweft/greenweft/map/SampleType" "FLOAT32" "Lcom/example/greenweft/greenweft/map/SampleType;" (.ref fl)) (E_fl : Exa Z h0 fl "com/example/greenweft/greenweft/map/SampleType") (hs0 : ¬ sv = 0) (hb1 : rv < ((1 : Int64) <<< ((sv - (1 : Int32)).toInt64 &&& 63))) (hfin : cmpValue (FP.dcmp (FP.f2d (FP.d2f (FP.dneg (FP.l2d vv)))) (FP.dneg (FP.l2d (mv <<< (sv.toInt64 &&& 63))))) .l = 0) :
    MetFree l x (head1 (Jvm.Cond.code x code maxLocals ret :: ws) room_1) (fun aa_ U_ => aa_ = #[(.int p1), (.int p2), (.int p3), (.long p4)] ∧ Z.Warmed39 U_.vm ∧ U_.heap = h0) (fun _ _ _ _ _ => True) (fun _ U_ o_ U'_ => ∃ v_ L_, o_ = .returned v_ ∧ Q_law61l Z p1 p2 p3 p4 sv mv rv vv fl h0 n0 v_ U'_.heap L_ ∧ FrameEnd U_ o_ U'_ L_ 0 0) := by
  refine MetFree.of_bodySF (plainFor_of_name pn_0) hisR ?_
  intro pP eE sS mM argsA below meth cC s₁ Bd hml0 hP hK
  obtain ⟨rfl, hZ, hh⟩ := hP
  have hx := Bd.exec
  have hby := Bd.bytes
  have hml : cC.maxLocals = 25 := hml0
  have hown : sS.vm.findClass "com/example/greenweft/greenweft/map/SampleTypeStoredPinLaw" = some mM.cls := findClass_of_methodNamed Bd.named
  have hnm := (name_of_methodNamed Bd.named Bd.method).1
  have X0 : Stand pP l eE room_1 sS mM #[(.int p1), (.int p2), (.int p3), (.long p4)] below meth cC s₁ [] 0 0 := Stand.of_body Bd
  have e0 : s₁.heap = h0 := by rw [← hh, Bd.state]; rfl
  have N0 := Fr.nil n0
  have pre0 : ∀ t_, Steps pP.tables eE below (s₁.setTop (mkF mM 0 #[.val (.int p1), .val (.int p2), .val (.int p3), .val (.long p4), .second, .unset, .unset, .unset, .unset, .unset, .unset, .unset, .unset, .unset, .unset, .unset, .unset, .unset, .unset, .unset, .unset, .unset, .unset, .unset, .unset] [])) t_ → Steps pP.tables eE below (s₁.setTop (entryFrame mM #[(.int p1), (.int p2), (.int p3), (.long p4)] maxLocals)) t_ := fun t_ k_ => castTop (ef_law61l mM p1 p2 p3 p4) k_
  obtain ⟨_, _, ⟨T_1, L_1, k_1, n_1⟩, -, X_1, ⟨Lc_1, hQ_1, l_1, y_1, z_1⟩, st_1⟩ := Jvm.LawKit.callS X0 hx (y := MN0) hown (mvT hZ (ow hw 0 rfl)) (mvT hZ (ow hw 1 rfl)) (mvT hZ (ow hw 2 rfl)) (mvT hZ (ow hw 3 rfl)) (by decide) (backOf (W := 0) (rm_pick6 l Z a0 hw [] fl h0 n0 Z0 S_SampleType_FLOAT32) hZ (ow hw 3 rfl) (ow hw 2 rfl) (by decide) (by decide)) (g := (mkF mM 23 (lc120 p1 p2 p3 p4) [(.int (6 : Int32))])) rfl (by rw [hml]; rfl) (argsL := [(.int (6 : Int32))]) (rest := []) (lenOf pd_0 rfl) rfl (by show 2 * 0 + _ ≤ _; exact Nat.le_of_eq rfl) (hb hby at_23) (fun _ _ => ⟨rfl, e0, (by decide : 0 + 0 ≤ _), (by decide : 0 + 0 ≤ _)⟩)
  dsimp only [Pt.U, Pt.locs, Pt.cells, Pt.slots] at X_1 l_1 y_1 z_1 st_1 hQ_1
  subst l_1 y_1 z_1
  obtain ⟨rfl, N_1q, eh_1⟩ := hQ_1
  have N_1 := Fr.app N0 N_1q
  obtain ⟨cq_2, kq_2, q_2a, q_2b, q_2c⟩ := isOf hZ eh_1 E_fl
  obtain ⟨_, _, ⟨T_2, L_2, k_2, n_2⟩, -, X_2, ⟨Lc_2, hQ_2, l_2, y_2, z_2⟩, st_2⟩ := X_1.virtualBack hx (y := MN1) (z := MN1) hown (mvT hZ (ow hw 9 rfl)) (mvT hZ (ow hw 10 rfl)) (notFace_of_selects (args := #[]) (mvT hZ (ow hw 12 rfl))) (mvT hZ (ow hw 12 rfl)) (mvT hZ (ow hw 11 rfl)) (by decide) (backOf (W := 0) (rm_stf l Z a0 hw [] fl (FP.dneg (FP.l2d vv)) h0 n0 Z0 S_SampleType_FLOAT32 hnn) hZ (ow hw 13 rfl) (ow hw 5 rfl) (by decide) (by decide)) q_2a q_2c (g := (mkF mM 89 (lc126 p1 p2 p3 p4 fl sv mv rv vv) [(.double (FP.dneg (FP.l2d vv))), (.ref fl)])) rfl (by rw [hml]; rfl) (Steps.refl _) (argsL := [(.double (FP.dneg (FP.l2d vv)))]) (rest := []) (lenOf pd_1 rfl) rfl (by show 2 * 0 + _ ≤ _; exact Nat.le_of_eq rfl) (hb hby at_89) (fun _ _ => ⟨rfl, eh_1, (by decide : 0 + 0 ≤ _), (by decide : 0 + 0 ≤ _)⟩)
  dsimp only [Pt.U, Pt.locs, Pt.cells, Pt.slots] at X_2 l_2 y_2 z_2 st_2 hQ_2
  subst l_2 y_2 z_2
  obtain ⟨rfl, N_2q, eh_2⟩ := hQ_2
  have N_2 := Fr.app N_1 N_2q
  obtain ⟨fs, hr, hrun, hended, hW, hsame⟩ := X_2.leave (v := some (.int (1 : Int32))) (fun h => by rw [Bd.returns] at h; cases h)
  refine ⟨_, _, pre0 _ ?_, hrun, hended, _, _, rfl, ?_, ⟨_, rfl⟩, hW, hsame.mono (by decide) (by decide)⟩
  · show oS pP eE below s₁ (mkF mM 0 (lc0 p1 p2 p3 p4) []) _
    refine XS.iloadN X0.here hx rfl (hb hby at_0) rfl ?_
    refine XS.bipush X0.here hx rfl (hb hby at_1) ?_
    show oS pP eE below s₁ (mkF mM 3 (lc0 p1 p2 p3 p4) [(.int (7 : Int32)), (.int p1)]) _
    refine XS.iand X0.here hx rfl (hb hby at_3) rfl ?_
    show Steps pP.tables eE below (s₁.setTop (mkF mM 4 (lc0 p1 p2 p3 p4) [(.int (p1 &&& (7 : Int32)))])) _
    rw [hk]
    refine XS.istore X0.here hx rfl (hb hby at_4) rfl (l' := (lc103 p1 p2 p3 p4)) rfl ?_
    refine XS.iloadN X0.here hx rfl (hb hby at_6) rfl ?_
    refine XS.iconst X0.here hx rfl (hb hby at_7) ?_
    show oS pP eE below s₁ (mkF mM 8 (lc103 p1 p2 p3 p4) [(.int (3 : Int32)), (.int p1)]) _
    refine XT.ishr X0.here hx rfl (hb hby at_8) rfl ?_
    refine XS.iconst X0.here hx rfl (hb hby at_9) ?_
    show oS pP eE below s₁ (mkF mM 10 (lc103 p1 p2 p3 p4) [(.int (1 : Int32)), (.int (p1 >>> ((3 : Int32) &&& 31)))]) _
    refine XS.iand X0.here hx rfl (hb hby at_10) rfl ?_
    refine XS.ifNo X0.here hx rfl (hb hby at_11) rfl (XT.i0_eq_f hg) ?_
    refine XS.iconst X0.here hx rfl (hb hby at_14) ?_
    refine XS.goto X0.here hx rfl (pc0 := 15) (pc' := 19) rfl (hb hby at_15) (by decide) (by decide) ?_
    refine XS.istore X0.here hx rfl (hb hby at_19) rfl (l' := (lc120 p1 p2 p3 p4)) rfl ?_
    refine XS.iload X0.here hx rfl (hb hby at_21) rfl ?_
    show oS pP eE below s₁ (mkF mM 23 (lc120 p1 p2 p3 p4) [(.int (6 : Int32))]) _
    refine st_1 _ ?_
    show oS pP eE below T_1 (mkF mM 26 (lc120 p1 p2 p3 p4) [(.ref fl)]) _
    refine XS.astore X_1.here hx rfl (hb hby at_26) rfl rfl (l' := (lc121 p1 p2 p3 p4 fl)) rfl ?_
    refine XS.iloadN X_1.here hx rfl (hb hby at_28) rfl ?_
    refine XS.bipush X_1.here hx rfl (hb hby at_29) ?_
    show oS pP eE below T_1 (mkF mM 31 (lc121 p1 p2 p3 p4 fl) [(.int (31 : Int32)), (.int p3)]) _
    refine XS.iand X_1.here hx rfl (hb hby at_31) rfl ?_
    refine XS.bipush X_1.here hx rfl (hb hby at_32) ?_
    show oS pP eE below T_1 (mkF mM 34 (lc121 p1 p2 p3 p4 fl) [(.int (30 : Int32)), (.int (p3 &&& (31 : Int32)))]) _
    refine iremM X_1 hx rfl (hb hby at_34) rfl (by decide) ?_
    show Steps pP.tables eE below (T_1.setTop (mkF mM 35 (lc121 p1 p2 p3 p4 fl) [(.int ((p3 &&& (31 : Int32)) % (30 : Int32)))])) _
    rw [hsv]
    refine XS.istore X_1.here hx rfl (hb hby at_35) rfl (l' := (lc122 p1 p2 p3 p4 fl sv)) rfl ?_
    show oS pP eE below T_1 (mkF mM 37 (lc122 p1 p2 p3 p4 fl sv) []) _
    refine X_1.ldc2J hx hown (mvT hZ (ow hw 7 rfl)) (g := (mkF mM 37 (lc122 p1 p2 p3 p4 fl sv) [])) rfl (hb hby at_37) ?_
    refine XS.iloadN X_1.here hx rfl (hb hby at_40) rfl ?_
    show oS pP eE below T_1 (mkF mM 41 (lc122 p1 p2 p3 p4 fl sv) [(.int p2), (.long (8388608 : Int64))]) _
    refine X_1.ldcI hx hown (mvT hZ (ow hw 8 rfl)) (g := (mkF mM 41 (lc122 p1 p2 p3 p4 fl sv) [(.int p2), (.long (8388608 : Int64))])) rfl (hb hby at_41) ?_
    show oS pP eE below T_1 (mkF mM 43 (lc122 p1 p2 p3 p4 fl sv) [(.int (8388607 : Int32)), (.int p2), (.long (8388608 : Int64))]) _
    refine XS.iand X_1.here hx rfl (hb hby at_43) rfl ?_
    show oS pP eE below T_1 (mkF mM 44 (lc122 p1 p2 p3 p4 fl sv) [(.int (p2 &&& (8388607 : Int32))), (.long (8388608 : Int64))]) _
    refine XT.i2l X_1.here hx rfl (hb hby at_44) rfl ?_
    show oS pP eE below T_1 (mkF mM 45 (lc122 p1 p2 p3 p4 fl sv) [(.long ((p2 &&& (8388607 : Int32)).toInt64)), (.long (8388608 : Int64))]) _
    refine XT.ladd X_1.here hx rfl (hb hby at_45) rfl ?_
    show Steps pP.tables eE below (T_1.setTop (mkF mM 46 (lc122 p1 p2 p3 p4 fl sv) [(.long ((8388608 : Int64) + ((p2 &&& (8388607 : Int32)).toInt64)))])) _
    rw [hmv]
    refine XT.lstore X_1.here hx rfl (hb hby at_46) rfl (l' := (lc123 p1 p2 p3 p4 fl sv mv)) rfl ?_
    refine XT.lloadN X_1.here hx rfl (hb hby at_48) rfl ?_
    refine XT.lconst X_1.here hx rfl (hb hby at_49) ?_
    refine XS.iload X_1.here hx rfl (hb hby at_50) rfl ?_
    show oS pP eE below T_1 (mkF mM 52 (lc123 p1 p2 p3 p4 fl sv mv) [(.int sv), (.long (1 : Int64)), (.long p4)]) _
    refine XT.lshl X_1.here hx rfl (hb hby at_52) rfl ?_
    refine XT.lconst X_1.here hx rfl (hb hby at_53) ?_
    show oS pP eE below T_1 (mkF mM 54 (lc123 p1 p2 p3 p4 fl sv mv) [(.long (1 : Int64)), (.long ((1 : Int64) <<< (sv.toInt64 &&& 63))), (.long p4)]) _
    refine XT.lsub X_1.here hx rfl (hb hby at_54) rfl ?_
    show oS pP eE below T_1 (mkF mM 55 (lc123 p1 p2 p3 p4 fl sv mv) [(.long (((1 : Int64) <<< (sv.toInt64 &&& 63)) - (1 : Int64))), (.long p4)]) _
    refine XT.land X_1.here hx rfl (hb hby at_55) rfl ?_
    show Steps pP.tables eE below (T_1.setTop (mkF mM 56 (lc123 p1 p2 p3 p4 fl sv mv) [(.long (p4 &&& (((1 : Int64) <<< (sv.toInt64 &&& 63)) - (1 : Int64))))])) _
    rw [hrv]
    refine XT.lstore X_1.here hx rfl (hb hby at_56) rfl (l' := (lc124 p1 p2 p3 p4 fl sv mv rv)) rfl ?_
    refine XT.lload X_1.here hx rfl (hb hby at_58) rfl ?_
    refine XS.iload X_1.here hx rfl (hb hby at_60) rfl ?_
    show oS pP eE below T_1 (mkF mM 62 (lc124 p1 p2 p3 p4 fl sv mv rv) [(.int sv), (.long mv)]) _
    refine XT.lshl X_1.here hx rfl (hb hby at_62) rfl ?_
    refine XT.lload X_1.here hx rfl (hb hby at_63) rfl ?_
    show oS pP eE below T_1 (mkF mM 65 (lc124 p1 p2 p3 p4 fl sv mv rv) [(.long rv), (.long (mv <<< (sv.toInt64 &&& 63)))]) _
    refine XT.ladd X_1.here hx rfl (hb hby at_65) rfl ?_
    show Steps pP.tables eE below (T_1.setTop (mkF mM 66 (lc124 p1 p2 p3 p4 fl sv mv rv) [(.long ((mv <<< (sv.toInt64 &&& 63)) + rv))])) _
    rw [hvv]
    refine XT.lstore X_1.here hx rfl (hb hby at_66) rfl (l' := (lc125 p1 p2 p3 p4 fl sv mv rv vv)) rfl ?_
    refine XS.iload X_1.here hx rfl (hb hby at_68) rfl ?_
    refine XS.ifNo X_1.here hx rfl (hb hby at_70) rfl (by decide) ?_
    refine XT.lload X_1.here hx rfl (hb hby at_73) rfl ?_
    show oS pP eE below T_1 (mkF mM 75 (lc125 p1 p2 p3 p4 fl sv mv rv vv) [(.long vv)]) _
    refine XS.l2dS X_1.here hx rfl (hb hby at_75) rfl rfl ?_
    show oS pP eE below T_1 (mkF mM 76 (lc125 p1 p2 p3 p4 fl sv mv rv vv) [(.double (FP.l2d vv))]) _
    refine XS.dnegS X_1.here hx rfl (hb hby at_76) rfl rfl ?_
    refine XS.goto X_1.here hx rfl (pc0 := 77) (pc' := 83) rfl (hb hby at_77) (by decide) (by decide) ?_
    show oS pP eE below T_1 (mkF mM 83 (lc125 p1 p2 p3 p4 fl sv mv rv vv) [(.double (FP.dneg (FP.l2d vv)))]) _
    refine XS.dstore X_1.here hx rfl (hb hby at_83) rfl (l' := (lc126 p1 p2 p3 p4 fl sv mv rv vv)) rfl ?_
    refine XS.aload X_1.here hx rfl (hb hby at_85) rfl rfl ?_
    show oS pP eE below T_1 (mkF mM 87 (lc126 p1 p2 p3 p4 fl sv mv rv vv) [(.ref fl)]) _
    refine XS.dload X_1.here hx rfl (hb hby at_87) rfl ?_
    show oS pP eE below T_1 (mkF mM 89 (lc126 p1 p2 p3 p4 fl sv mv rv vv) [(.double (FP.dneg (FP.l2d vv))), (.ref fl)]) _
    refine st_2.trans ?_
    show oS pP eE below T_2 (mkF mM 92 (lc126 p1 p2 p3 p4 fl sv mv rv vv) [(.double (FP.f2d (FP.d2f (FP.dneg (FP.l2d vv)))))]) _
    refine XS.dstore X_2.here hx rfl (hb hby at_92) rfl (l' := (lc127 p1 p2 p3 p4 fl sv mv rv vv)) rfl ?_
    refine XS.iload X_2.here hx rfl (hb hby at_94) rfl ?_
    refine XS.bipush X_2.here hx rfl (hb hby at_96) ?_
    refine XS.icmpYes X_2.here hx rfl (pc0 := 98) (pc' := 115) rfl (hb hby at_98) rfl (by decide) (by decide) (by decide) ?_
    refine XS.iload X_2.here hx rfl (hb hby at_115) rfl ?_
    refine XS.ifYes X_2.here hx rfl (pc0 := 117) (pc' := 127) rfl (hb hby at_117) rfl (XT.i0_ne_t hs0) (by decide) (by decide) ?_
    refine XT.lconst X_2.here hx rfl (hb hby at_127) ?_
    refine XS.iload X_2.here hx rfl (hb hby at_128) rfl ?_
    show oS pP eE below T_2 (mkF mM 130 (lc127 p1 p2 p3 p4 fl sv mv rv vv) [(.int sv), (.long (1 : Int64))]) _
    refine XS.iconst X_2.here hx rfl (hb hby at_130) ?_
    show oS pP eE below T_2 (mkF mM 131 (lc127 p1 p2 p3 p4 fl sv mv rv vv) [(.int (1 : Int32)), (.int sv), (.long (1 : Int64))]) _
    refine XS.isub X_2.here hx rfl (hb hby at_131) rfl ?_
    show oS pP eE below T_2 (mkF mM 132 (lc127 p1 p2 p3 p4 fl sv mv rv vv) [(.int (sv - (1 : Int32))), (.long (1 : Int64))]) _
    refine XT.lshl X_2.here hx rfl (hb hby at_132) rfl ?_
    refine XT.lstore X_2.here hx rfl (hb hby at_133) rfl (l' := (lc131 p1 p2 p3 p4 fl sv mv rv vv)) rfl ?_
    refine XT.lload X_2.here hx rfl (hb hby at_135) rfl ?_
    refine XT.lload X_2.here hx rfl (hb hby at_137) rfl ?_
    show oS pP eE below T_2 (mkF mM 139 (lc131 p1 p2 p3 p4 fl sv mv rv vv) [(.long ((1 : Int64) <<< ((sv - (1 : Int32)).toInt64 &&& 63))), (.long rv)]) _
    refine XT.lcmp X_2.here hx rfl (hb hby at_139) rfl ?_
    refine XS.ifNo X_2.here hx rfl (hb hby at_140) rfl (XT.ll_ge_f hb1) ?_
    refine XT.lload X_2.here hx rfl (hb hby at_143) rfl ?_
    refine XT.lstore X_2.here hx rfl (hb hby at_145) rfl (l' := (lc132 p1 p2 p3 p4 fl sv mv rv vv)) rfl ?_
    refine XS.goto X_2.here hx rfl (pc0 := 147) (pc' := 187) rfl (hb hby at_147) (by decide) (by decide) ?_
    refine XT.lload X_2.here hx rfl (hb hby at_187) rfl ?_
    refine XS.iload X_2.here hx rfl (hb hby at_189) rfl ?_
    show oS pP eE below T_2 (mkF mM 191 (lc132 p1 p2 p3 p4 fl sv mv rv vv) [(.int sv), (.long mv)]) _
    refine XT.lshl X_2.here hx rfl (hb hby at_191) rfl ?_
    refine XT.lstore X_2.here hx rfl (hb hby at_192) rfl (l' := (lc129 p1 p2 p3 p4 fl sv mv rv vv)) rfl ?_
    refine XS.iload X_2.here hx rfl (hb hby at_194) rfl ?_
    refine XS.ifNo X_2.here hx rfl (hb hby at_196) rfl (by decide) ?_
    refine XT.lload X_2.here hx rfl (hb hby at_199) rfl ?_
    show oS pP eE below T_2 (mkF mM 201 (lc129 p1 p2 p3 p4 fl sv mv rv vv) [(.long (mv <<< (sv.toInt64 &&& 63)))]) _
    refine XS.l2dS X_2.here hx rfl (hb hby at_201) rfl rfl ?_
    show oS pP eE below T_2 (mkF mM 202 (lc129 p1 p2 p3 p4 fl sv mv rv vv) [(.double (FP.l2d (mv <<< (sv.toInt64 &&& 63))))]) _
    refine XS.dnegS X_2.here hx rfl (hb hby at_202) rfl rfl ?_
    refine XS.goto X_2.here hx rfl (pc0 := 203) (pc' := 209) rfl (hb hby at_203) (by decide) (by decide) ?_
    show oS pP eE below T_2 (mkF mM 209 (lc129 p1 p2 p3 p4 fl sv mv rv vv) [(.double (FP.dneg (FP.l2d (mv <<< (sv.toInt64 &&& 63)))))]) _
    refine XS.dstore X_2.here hx rfl (hb hby at_209) rfl (l' := (lc130 p1 p2 p3 p4 fl sv mv rv vv)) rfl ?_
    show oS pP eE below T_2 (mkF mM 211 (lc130 p1 p2 p3 p4 fl sv mv rv vv) []) _
    refine XS.dload X_2.here hx rfl (hb hby at_211) rfl ?_
    show oS pP eE below T_2 (mkF mM 213 (lc130 p1 p2 p3 p4 fl sv mv rv vv) [(.double (FP.f2d (FP.d2f (FP.dneg (FP.l2d vv)))))]) _
    refine XS.dload X_2.here hx rfl (hb hby at_213) rfl ?_
    show oS pP eE below T_2 (mkF mM 215 (lc130 p1 p2 p3 p4 fl sv mv rv vv) [(.double (FP.dneg (FP.l2d (mv <<< (sv.toInt64 &&& 63))))), (.double (FP.f2d (FP.d2f (FP.dneg (FP.l2d vv)))))]) _
    refine XS.dcmpS X_2.here hx rfl (hb hby at_215) rfl rfl ?_
    refine XS.ifNo X_2.here hx rfl (hb hby at_216) rfl (XT.i0_ne_f hfin) ?_
    refine XS.iconst X_2.here hx rfl (hb hby at_219) ?_
    refine XS.goto X_2.here hx rfl (pc0 := 220) (pc' := 224) rfl (hb hby at_220) (by decide) (by decide) ?_
    show oS pP eE below T_2 (mkF mM 224 (lc130 p1 p2 p3 p4 fl sv mv rv vv) [(.int (1 : Int32))]) _
    exact retN X_2 hx (t := .boolean) Bd.returns (by simp) (hb hby at_224) hr
  · show Q_law61l Z p1 p2 p3 p4 sv mv rv vv fl h0 n0 _ T_2.heap _
    exact ⟨rfl, N_2⟩
abbrev lc133 (p1 : Int32) (p2 : Int32) (p3 : Int32) (p4 : Int64) (fl : Addr) (sv : Int32) (mv : Int64) (rv : Int64) (vv : Int64) : Array Slot := #[.val (.int p1), .val (.int p2), .val (.int p3), .val (.long p4), .second, .val (.int (6 : Int32)), .val (.int (1 : Int32)), .val (.ref fl), .val (.int sv), .val (.long mv), .second, .val (.long rv), .second, .val (.long vv), .second, .val (.double (FP.dneg (FP.l2d vv))), .second, .val (.double (FP.f2d (FP.d2f (FP.dneg (FP.l2d vv))))), .second, .val (.long (mv + (1 : Int64))), .second, .val (.long ((1 : Int64) <<< ((sv - (1 : Int32)).toInt64 &&& 63))), .second, .unset, .unset]
abbrev lc134 (p1 : Int32) (p2 : Int32) (p3 : Int32) (p4 : Int64) (fl : Addr) (sv : Int32) (mv : Int64) (rv : Int64) (vv : Int64) : Array Slot := #[.val (.int p1), .val (.int p2), .val (.int p3), .val (.long p4), .second, .val (.int (6 : Int32)), .val (.int (1 : Int32)), .val (.ref fl), .val (.int sv), .val (.long mv), .second, .val (.long rv), .second, .val (.long vv), .second, .val (.double (FP.dneg (FP.l2d vv))), .second, .val (.double (FP.f2d (FP.d2f (FP.dneg (FP.l2d vv))))), .second, .val (.long (mv + (1 : Int64))), .second, .val (.long ((mv + (1 : Int64)) <<< (sv.toInt64 &&& 63))), .second, .unset, .unset]
abbrev lc135 (p1 : Int32) (p2 : Int32) (p3 : Int32) (p4 : Int64) (fl : Addr) (sv : Int32) (mv : Int64) (rv : Int64) (vv : Int64) : Array Slot := #[.val (.int p1), .val (.int p2), .val (.int p3), .val (.long p4), .second, .val (.int (6 : Int32)), .val (.int (1 : Int32)), .val (.ref fl), .val (.int sv), .val (.long mv), .second, .val (.long rv), .second, .val (.long vv), .second, .val (.double (FP.dneg (FP.l2d vv))), .second, .val (.double (FP.f2d (FP.d2f (FP.dneg (FP.l2d vv))))), .second, .val (.long (mv + (1 : Int64))), .second, .val (.long ((mv + (1 : Int64)) <<< (sv.toInt64 &&& 63))), .second, .val (.double (FP.dneg (FP.l2d ((mv + (1 : Int64)) <<< (sv.toInt64 &&& 63))))), .second]
theorem ef_law61g (mM : MethodId) (x0 : Int32) (x1 : Int32) (x2 : Int32) (x3 : Int64) : entryFrame mM #[(.int x0), (.int x1), (.int x2), (.long x3)] maxLocals = mkF mM 0 #[.val (.int x0), .val (.int x1), .val (.int x2), .val (.long x3), .second, .unset, .unset, .unset, .unset, .unset, .unset, .unset, .unset, .unset, .unset, .unset, .unset, .unset, .unset, .unset, .unset, .unset, .unset, .unset, .unset] [] := by first | (simp [entryFrame, mkF, argsToLocals, Value.category, maxLocals]; done) | rfl
def Q_law61g (Z : State) (p1 : Int32) (p2 : Int32) (p3 : Int32) (p4 : Int64) (sv : Int32) (mv : Int64) (rv : Int64) (vv : Int64) (fl : Addr) (h0 : Heap) (n0 : Nat) (v_ : Option Value) (h_ : Heap) (L_ : List Loc) : Prop := v_ = some (.int (1 : Int32)) ∧ Fr n0 L_
set_option maxRecDepth 65536 in
set_option maxHeartbeats 40000000 in
theorem rm_law61g (l : Launch) (Z : State) (a0 : Array Value) (hw : ∀ d ∈ tables_1, d.before a0 Z = true) (ws : List Jvm.Cond) (p1 : Int32) (p2 : Int32) (p3 : Int32) (p4 : Int64) (sv : Int32) (mv : Int64) (rv : Int64) (vv : Int64) (fl : Addr) (h0 : Heap) (n0 : Nat) (Z0 : n0 ≤ h0.size) (hk : (p1 &&& (7 : Int32)) = (6 : Int32)) (hg : ¬ ((p1 >>> ((3 : Int32) &&& 31)) &&& (1 : Int32)) = 0) (hsv : ((p3 &&& (31 : Int32)) % (30 : Int32)) = sv) (hmv : ((8388608 : Int64) + ((p2 &&& (8388607 : Int32)).toInt64)) = mv) (hrv : (p4 &&& (((1 : Int64) <<< (sv.toInt64 &&& 63)) - (1 : Int64))) = rv) (hvv : ((mv <<< (sv.toInt64 &&& 63)) + rv) = vv) (hnn : Jvm.Free.Fl.NoNaN64 (FP.dneg (FP.l2d vv))) (S_SampleType_FLOAT32 : Sta Z h0 "com/example/greenweft/greenweft/map/SampleType" "FLOAT32" "Lcom/example/greenweft/greenweft/map/SampleType;" (.ref fl)) (E_fl : Exa Z h0 fl "com/example/greenweft/greenweft/map/SampleType") (hs0 : ¬ sv = 0) (hb1 : ¬ rv < ((1 : Int64) <<< ((sv - (1 : Int32)).toInt64 &&& 63))) (hb2 : ((1 : Int64) <<< ((sv - (1 : Int32)).toInt64 &&& 63)) < rv) (hfin : cmpValue (FP.dcmp (FP.f2d (FP.d2f (FP.dneg (FP.l2d vv)))) (FP.dneg (FP.l2d ((mv + (1 : Int64)) <<< (sv.toInt64 &&& 63))))) .l = 0) :
    MetFree l x (head1 (Jvm.Cond.code x code maxLocals ret :: ws) room_1) (fun aa_ U_ => aa_ = #[(.int p1), (.int p2), (.int p3), (.long p4)] ∧ Z.Warmed39 U_.vm ∧ U_.heap = h0) (fun _ _ _ _ _ => True) (fun _ U_ o_ U'_ => ∃ v_ L_, o_ = .returned v_ ∧ Q_law61g Z p1 p2 p3 p4 sv mv rv vv fl h0 n0 v_ U'_.heap L_ ∧ FrameEnd U_ o_ U'_ L_ 0 0) := by
  refine MetFree.of_bodySF (plainFor_of_name pn_0) hisR ?_
  intro pP eE sS mM argsA below meth cC s₁ Bd hml0 hP hK
  obtain ⟨rfl, hZ, hh⟩ := hP
  have hx := Bd.exec
  have hby := Bd.bytes
  have hml : cC.maxLocals = 25 := hml0
  have hown : sS.vm.findClass "com/example/greenweft/greenweft/map/SampleTypeStoredPinLaw" = some mM.cls := findClass_of_methodNamed Bd.named
  have hnm := (name_of_methodNamed Bd.named Bd.method).1
  have X0 : Stand pP l eE room_1 sS mM #[(.int p1), (.int p2), (.int p3), (.long p4)] below meth cC s₁ [] 0 0 := Stand.of_body Bd
  have e0 : s₁.heap = h0 := by rw [← hh, Bd.state]; rfl
  have N0 := Fr.nil n0
  have pre0 : ∀ t_, Steps pP.tables eE below (s₁.setTop (mkF mM 0 #[.val (.int p1), .val (.int p2), .val (.int p3), .val (.long p4), .second, .unset, .unset, .unset, .unset, .unset, .unset, .unset, .unset, .unset, .unset, .unset, .unset, .unset, .unset, .unset, .unset, .unset, .unset, .unset, .unset] [])) t_ → Steps pP.tables eE below (s₁.setTop (entryFrame mM #[(.int p1), (.int p2), (.int p3), (.long p4)] maxLocals)) t_ := fun t_ k_ => castTop (ef_law61g mM p1 p2 p3 p4) k_
  obtain ⟨_, _, ⟨T_1, L_1, k_1, n_1⟩, -, X_1, ⟨Lc_1, hQ_1, l_1, y_1, z_1⟩, st_1⟩ := Jvm.LawKit.callS X0 hx (y := MN0) hown (mvT hZ (ow hw 0 rfl)) (mvT hZ (ow hw 1 rfl)) (mvT hZ (ow hw 2 rfl)) (mvT hZ (ow hw 3 rfl)) (by decide) (backOf (W := 0) (rm_pick6 l Z a0 hw [] fl h0 n0 Z0 S_SampleType_FLOAT32) hZ (ow hw 3 rfl) (ow hw 2 rfl) (by decide) (by decide)) (g := (mkF mM 23 (lc120 p1 p2 p3 p4) [(.int (6 : Int32))])) rfl (by rw [hml]; rfl) (argsL := [(.int (6 : Int32))]) (rest := []) (lenOf pd_0 rfl) rfl (by show 2 * 0 + _ ≤ _; exact Nat.le_of_eq rfl) (hb hby at_23) (fun _ _ => ⟨rfl, e0, (by decide : 0 + 0 ≤ _), (by decide : 0 + 0 ≤ _)⟩)
  dsimp only [Pt.U, Pt.locs, Pt.cells, Pt.slots] at X_1 l_1 y_1 z_1 st_1 hQ_1
  subst l_1 y_1 z_1
  obtain ⟨rfl, N_1q, eh_1⟩ := hQ_1
  have N_1 := Fr.app N0 N_1q
  obtain ⟨cq_2, kq_2, q_2a, q_2b, q_2c⟩ := isOf hZ eh_1 E_fl
  obtain ⟨_, _, ⟨T_2, L_2, k_2, n_2⟩, -, X_2, ⟨Lc_2, hQ_2, l_2, y_2, z_2⟩, st_2⟩ := X_1.virtualBack hx (y := MN1) (z := MN1) hown (mvT hZ (ow hw 9 rfl)) (mvT hZ (ow hw 10 rfl)) (notFace_of_selects (args := #[]) (mvT hZ (ow hw 12 rfl))) (mvT hZ (ow hw 12 rfl)) (mvT hZ (ow hw 11 rfl)) (by decide) (backOf (W := 0) (rm_stf l Z a0 hw [] fl (FP.dneg (FP.l2d vv)) h0 n0 Z0 S_SampleType_FLOAT32 hnn) hZ (ow hw 13 rfl) (ow hw 5 rfl) (by decide) (by decide)) q_2a q_2c (g := (mkF mM 89 (lc126 p1 p2 p3 p4 fl sv mv rv vv) [(.double (FP.dneg (FP.l2d vv))), (.ref fl)])) rfl (by rw [hml]; rfl) (Steps.refl _) (argsL := [(.double (FP.dneg (FP.l2d vv)))]) (rest := []) (lenOf pd_1 rfl) rfl (by show 2 * 0 + _ ≤ _; exact Nat.le_of_eq rfl) (hb hby at_89) (fun _ _ => ⟨rfl, eh_1, (by decide : 0 + 0 ≤ _), (by decide : 0 + 0 ≤ _)⟩)
  dsimp only [Pt.U, Pt.locs, Pt.cells, Pt.slots] at X_2 l_2 y_2 z_2 st_2 hQ_2
  subst l_2 y_2 z_2
  obtain ⟨rfl, N_2q, eh_2⟩ := hQ_2
  have N_2 := Fr.app N_1 N_2q
  obtain ⟨fs, hr, hrun, hended, hW, hsame⟩ := X_2.leave (v := some (.int (1 : Int32))) (fun h => by rw [Bd.returns] at h; cases h)
  refine ⟨_, _, pre0 _ ?_, hrun, hended, _, _, rfl, ?_, ⟨_, rfl⟩, hW, hsame.mono (by decide) (by decide)⟩
  · show oS pP eE below s₁ (mkF mM 0 (lc0 p1 p2 p3 p4) []) _
    refine XS.iloadN X0.here hx rfl (hb hby at_0) rfl ?_
    refine XS.bipush X0.here hx rfl (hb hby at_1) ?_
    show oS pP eE below s₁ (mkF mM 3 (lc0 p1 p2 p3 p4) [(.int (7 : Int32)), (.int p1)]) _
    refine XS.iand X0.here hx rfl (hb hby at_3) rfl ?_
    show Steps pP.tables eE below (s₁.setTop (mkF mM 4 (lc0 p1 p2 p3 p4) [(.int (p1 &&& (7 : Int32)))])) _
    rw [hk]
    refine XS.istore X0.here hx rfl (hb hby at_4) rfl (l' := (lc103 p1 p2 p3 p4)) rfl ?_
    refine XS.iloadN X0.here hx rfl (hb hby at_6) rfl ?_
    refine XS.iconst X0.here hx rfl (hb hby at_7) ?_
    show oS pP eE below s₁ (mkF mM 8 (lc103 p1 p2 p3 p4) [(.int (3 : Int32)), (.int p1)]) _
    refine XT.ishr X0.here hx rfl (hb hby at_8) rfl ?_
    refine XS.iconst X0.here hx rfl (hb hby at_9) ?_
    show oS pP eE below s₁ (mkF mM 10 (lc103 p1 p2 p3 p4) [(.int (1 : Int32)), (.int (p1 >>> ((3 : Int32) &&& 31)))]) _
    refine XS.iand X0.here hx rfl (hb hby at_10) rfl ?_
    refine XS.ifNo X0.here hx rfl (hb hby at_11) rfl (XT.i0_eq_f hg) ?_
    refine XS.iconst X0.here hx rfl (hb hby at_14) ?_
    refine XS.goto X0.here hx rfl (pc0 := 15) (pc' := 19) rfl (hb hby at_15) (by decide) (by decide) ?_
    refine XS.istore X0.here hx rfl (hb hby at_19) rfl (l' := (lc120 p1 p2 p3 p4)) rfl ?_
    refine XS.iload X0.here hx rfl (hb hby at_21) rfl ?_
    show oS pP eE below s₁ (mkF mM 23 (lc120 p1 p2 p3 p4) [(.int (6 : Int32))]) _
    refine st_1 _ ?_
    show oS pP eE below T_1 (mkF mM 26 (lc120 p1 p2 p3 p4) [(.ref fl)]) _
    refine XS.astore X_1.here hx rfl (hb hby at_26) rfl rfl (l' := (lc121 p1 p2 p3 p4 fl)) rfl ?_
    refine XS.iloadN X_1.here hx rfl (hb hby at_28) rfl ?_
    refine XS.bipush X_1.here hx rfl (hb hby at_29) ?_
    show oS pP eE below T_1 (mkF mM 31 (lc121 p1 p2 p3 p4 fl) [(.int (31 : Int32)), (.int p3)]) _
    refine XS.iand X_1.here hx rfl (hb hby at_31) rfl ?_
    refine XS.bipush X_1.here hx rfl (hb hby at_32) ?_
    show oS pP eE below T_1 (mkF mM 34 (lc121 p1 p2 p3 p4 fl) [(.int (30 : Int32)), (.int (p3 &&& (31 : Int32)))]) _
    refine iremM X_1 hx rfl (hb hby at_34) rfl (by decide) ?_
    show Steps pP.tables eE below (T_1.setTop (mkF mM 35 (lc121 p1 p2 p3 p4 fl) [(.int ((p3 &&& (31 : Int32)) % (30 : Int32)))])) _
    rw [hsv]
    refine XS.istore X_1.here hx rfl (hb hby at_35) rfl (l' := (lc122 p1 p2 p3 p4 fl sv)) rfl ?_
    show oS pP eE below T_1 (mkF mM 37 (lc122 p1 p2 p3 p4 fl sv) []) _
    refine X_1.ldc2J hx hown (mvT hZ (ow hw 7 rfl)) (g := (mkF mM 37 (lc122 p1 p2 p3 p4 fl sv) [])) rfl (hb hby at_37) ?_
    refine XS.iloadN X_1.here hx rfl (hb hby at_40) rfl ?_
    show oS pP eE below T_1 (mkF mM 41 (lc122 p1 p2 p3 p4 fl sv) [(.int p2), (.long (8388608 : Int64))]) _
    refine X_1.ldcI hx hown (mvT hZ (ow hw 8 rfl)) (g := (mkF mM 41 (lc122 p1 p2 p3 p4 fl sv) [(.int p2), (.long (8388608 : Int64))])) rfl (hb hby at_41) ?_
    show oS pP eE below T_1 (mkF mM 43 (lc122 p1 p2 p3 p4 fl sv) [(.int (8388607 : Int32)), (.int p2), (.long (8388608 : Int64))]) _
    refine XS.iand X_1.here hx rfl (hb hby at_43) rfl ?_
    show oS pP eE below T_1 (mkF mM 44 (lc122 p1 p2 p3 p4 fl sv) [(.int (p2 &&& (8388607 : Int32))), (.long (8388608 : Int64))]) _
    refine XT.i2l X_1.here hx rfl (hb hby at_44) rfl ?_
    show oS pP eE below T_1 (mkF mM 45 (lc122 p1 p2 p3 p4 fl sv) [(.long ((p2 &&& (8388607 : Int32)).toInt64)), (.long (8388608 : Int64))]) _
    refine XT.ladd X_1.here hx rfl (hb hby at_45) rfl ?_
    show Steps pP.tables eE below (T_1.setTop (mkF mM 46 (lc122 p1 p2 p3 p4 fl sv) [(.long ((8388608 : Int64) + ((p2 &&& (8388607 : Int32)).toInt64)))])) _
    rw [hmv]
    refine XT.lstore X_1.here hx rfl (hb hby at_46) rfl (l' := (lc123 p1 p2 p3 p4 fl sv mv)) rfl ?_
    refine XT.lloadN X_1.here hx rfl (hb hby at_48) rfl ?_
    refine XT.lconst X_1.here hx rfl (hb hby at_49) ?_
    refine XS.iload X_1.here hx rfl (hb hby at_50) rfl ?_
    show oS pP eE below T_1 (mkF mM 52 (lc123 p1 p2 p3 p4 fl sv mv) [(.int sv), (.long (1 : Int64)), (.long p4)]) _
    refine XT.lshl X_1.here hx rfl (hb hby at_52) rfl ?_
    refine XT.lconst X_1.here hx rfl (hb hby at_53) ?_
    show oS pP eE below T_1 (mkF mM 54 (lc123 p1 p2 p3 p4 fl sv mv) [(.long (1 : Int64)), (.long ((1 : Int64) <<< (sv.toInt64 &&& 63))), (.long p4)]) _
    refine XT.lsub X_1.here hx rfl (hb hby at_54) rfl ?_
    show oS pP eE below T_1 (mkF mM 55 (lc123 p1 p2 p3 p4 fl sv mv) [(.long (((1 : Int64) <<< (sv.toInt64 &&& 63)) - (1 : Int64))), (.long p4)]) _
    refine XT.land X_1.here hx rfl (hb hby at_55) rfl ?_
    show Steps pP.tables eE below (T_1.setTop (mkF mM 56 (lc123 p1 p2 p3 p4 fl sv mv) [(.long (p4 &&& (((1 : Int64) <<< (sv.toInt64 &&& 63)) - (1 : Int64))))])) _
    rw [hrv]
    refine XT.lstore X_1.here hx rfl (hb hby at_56) rfl (l' := (lc124 p1 p2 p3 p4 fl sv mv rv)) rfl ?_
    refine XT.lload X_1.here hx rfl (hb hby at_58) rfl ?_
    refine XS.iload X_1.here hx rfl (hb hby at_60) rfl ?_
    show oS pP eE below T_1 (mkF mM 62 (lc124 p1 p2 p3 p4 fl sv mv rv) [(.int sv), (.long mv)]) _
    refine XT.lshl X_1.here hx rfl (hb hby at_62) rfl ?_
    refine XT.lload X_1.here hx rfl (hb hby at_63) rfl ?_
    show oS pP eE below T_1 (mkF mM 65 (lc124 p1 p2 p3 p4 fl sv mv rv) [(.long rv), (.long (mv <<< (sv.toInt64 &&& 63)))]) _
    refine XT.ladd X_1.here hx rfl (hb hby at_65) rfl ?_
    show Steps pP.tables eE below (T_1.setTop (mkF mM 66 (lc124 p1 p2 p3 p4 fl sv mv rv) [(.long ((mv <<< (sv.toInt64 &&& 63)) + rv))])) _
    rw [hvv]
    refine XT.lstore X_1.here hx rfl (hb hby at_66) rfl (l' := (lc125 p1 p2 p3 p4 fl sv mv rv vv)) rfl ?_
    refine XS.iload X_1.here hx rfl (hb hby at_68) rfl ?_
    refine XS.ifNo X_1.here hx rfl (hb hby at_70) rfl (by decide) ?_
    refine XT.lload X_1.here hx rfl (hb hby at_73) rfl ?_
    show oS pP eE below T_1 (mkF mM 75 (lc125 p1 p2 p3 p4 fl sv mv rv vv) [(.long vv)]) _
    refine XS.l2dS X_1.here hx rfl (hb hby at_75) rfl rfl ?_
    show oS pP eE below T_1 (mkF mM 76 (lc125 p1 p2 p3 p4 fl sv mv rv vv) [(.double (FP.l2d vv))]) _
    refine XS.dnegS X_1.here hx rfl (hb hby at_76) rfl rfl ?_
    refine XS.goto X_1.here hx rfl (pc0 := 77) (pc' := 83) rfl (hb hby at_77) (by decide) (by decide) ?_
    show oS pP eE below T_1 (mkF mM 83 (lc125 p1 p2 p3 p4 fl sv mv rv vv) [(.double (FP.dneg (FP.l2d vv)))]) _
    refine XS.dstore X_1.here hx rfl (hb hby at_83) rfl (l' := (lc126 p1 p2 p3 p4 fl sv mv rv vv)) rfl ?_
    refine XS.aload X_1.here hx rfl (hb hby at_85) rfl rfl ?_
    show oS pP eE below T_1 (mkF mM 87 (lc126 p1 p2 p3 p4 fl sv mv rv vv) [(.ref fl)]) _
    refine XS.dload X_1.here hx rfl (hb hby at_87) rfl ?_
    show oS pP eE below T_1 (mkF mM 89 (lc126 p1 p2 p3 p4 fl sv mv rv vv) [(.double (FP.dneg (FP.l2d vv))), (.ref fl)]) _
    refine st_2.trans ?_
    show oS pP eE below T_2 (mkF mM 92 (lc126 p1 p2 p3 p4 fl sv mv rv vv) [(.double (FP.f2d (FP.d2f (FP.dneg (FP.l2d vv)))))]) _
    refine XS.dstore X_2.here hx rfl (hb hby at_92) rfl (l' := (lc127 p1 p2 p3 p4 fl sv mv rv vv)) rfl ?_
    refine XS.iload X_2.here hx rfl (hb hby at_94) rfl ?_
    refine XS.bipush X_2.here hx rfl (hb hby at_96) ?_
    refine XS.icmpYes X_2.here hx rfl (pc0 := 98) (pc' := 115) rfl (hb hby at_98) rfl (by decide) (by decide) (by decide) ?_
    refine XS.iload X_2.here hx rfl (hb hby at_115) rfl ?_
    refine XS.ifYes X_2.here hx rfl (pc0 := 117) (pc' := 127) rfl (hb hby at_117) rfl (XT.i0_ne_t hs0) (by decide) (by decide) ?_
    refine XT.lconst X_2.here hx rfl (hb hby at_127) ?_
    refine XS.iload X_2.here hx rfl (hb hby at_128) rfl ?_
    show oS pP eE below T_2 (mkF mM 130 (lc127 p1 p2 p3 p4 fl sv mv rv vv) [(.int sv), (.long (1 : Int64))]) _
    refine XS.iconst X_2.here hx rfl (hb hby at_130) ?_
    show oS pP eE below T_2 (mkF mM 131 (lc127 p1 p2 p3 p4 fl sv mv rv vv) [(.int (1 : Int32)), (.int sv), (.long (1 : Int64))]) _
    refine XS.isub X_2.here hx rfl (hb hby at_131) rfl ?_
    show oS pP eE below T_2 (mkF mM 132 (lc127 p1 p2 p3 p4 fl sv mv rv vv) [(.int (sv - (1 : Int32))), (.long (1 : Int64))]) _
    refine XT.lshl X_2.here hx rfl (hb hby at_132) rfl ?_
    refine XT.lstore X_2.here hx rfl (hb hby at_133) rfl (l' := (lc131 p1 p2 p3 p4 fl sv mv rv vv)) rfl ?_
    refine XT.lload X_2.here hx rfl (hb hby at_135) rfl ?_
    refine XT.lload X_2.here hx rfl (hb hby at_137) rfl ?_
    show oS pP eE below T_2 (mkF mM 139 (lc131 p1 p2 p3 p4 fl sv mv rv vv) [(.long ((1 : Int64) <<< ((sv - (1 : Int32)).toInt64 &&& 63))), (.long rv)]) _
    refine XT.lcmp X_2.here hx rfl (hb hby at_139) rfl ?_
    refine XS.ifYes X_2.here hx rfl (pc0 := 140) (pc' := 150) rfl (hb hby at_140) rfl (XT.ll_ge_t hb1) (by decide) (by decide) ?_
    refine XT.lload X_2.here hx rfl (hb hby at_150) rfl ?_
    refine XT.lload X_2.here hx rfl (hb hby at_152) rfl ?_
    show oS pP eE below T_2 (mkF mM 154 (lc131 p1 p2 p3 p4 fl sv mv rv vv) [(.long ((1 : Int64) <<< ((sv - (1 : Int32)).toInt64 &&& 63))), (.long rv)]) _
    refine XT.lcmp X_2.here hx rfl (hb hby at_154) rfl ?_
    refine XS.ifNo X_2.here hx rfl (hb hby at_155) rfl (XT.ll_le_f hb2) ?_
    refine XT.lload X_2.here hx rfl (hb hby at_158) rfl ?_
    refine XT.lconst X_2.here hx rfl (hb hby at_160) ?_
    show oS pP eE below T_2 (mkF mM 161 (lc131 p1 p2 p3 p4 fl sv mv rv vv) [(.long (1 : Int64)), (.long mv)]) _
    refine XT.ladd X_2.here hx rfl (hb hby at_161) rfl ?_
    refine XT.lstore X_2.here hx rfl (hb hby at_162) rfl (l' := (lc133 p1 p2 p3 p4 fl sv mv rv vv)) rfl ?_
    refine XS.goto X_2.here hx rfl (pc0 := 164) (pc' := 187) rfl (hb hby at_164) (by decide) (by decide) ?_
    refine XT.lload X_2.here hx rfl (hb hby at_187) rfl ?_
    refine XS.iload X_2.here hx rfl (hb hby at_189) rfl ?_
    show oS pP eE below T_2 (mkF mM 191 (lc133 p1 p2 p3 p4 fl sv mv rv vv) [(.int sv), (.long (mv + (1 : Int64)))]) _
    refine XT.lshl X_2.here hx rfl (hb hby at_191) rfl ?_
    refine XT.lstore X_2.here hx rfl (hb hby at_192) rfl (l' := (lc134 p1 p2 p3 p4 fl sv mv rv vv)) rfl ?_
    refine XS.iload X_2.here hx rfl (hb hby at_194) rfl ?_
    refine XS.ifNo X_2.here hx rfl (hb hby at_196) rfl (by decide) ?_
    refine XT.lload X_2.here hx rfl (hb hby at_199) rfl ?_
    show oS pP eE below T_2 (mkF mM 201 (lc134 p1 p2 p3 p4 fl sv mv rv vv) [(.long ((mv + (1 : Int64)) <<< (sv.toInt64 &&& 63)))]) _
    refine XS.l2dS X_2.here hx rfl (hb hby at_201) rfl rfl ?_
    show oS pP eE below T_2 (mkF mM 202 (lc134 p1 p2 p3 p4 fl sv mv rv vv) [(.double (FP.l2d ((mv + (1 : Int64)) <<< (sv.toInt64 &&& 63))))]) _
    refine XS.dnegS X_2.here hx rfl (hb hby at_202) rfl rfl ?_
    refine XS.goto X_2.here hx rfl (pc0 := 203) (pc' := 209) rfl (hb hby at_203) (by decide) (by decide) ?_
    show oS pP eE below T_2 (mkF mM 209 (lc134 p1 p2 p3 p4 fl sv mv rv vv) [(.double (FP.dneg (FP.l2d ((mv + (1 : Int64)) <<< (sv.toInt64 &&& 63)))))]) _
    refine XS.dstore X_2.here hx rfl (hb hby at_209) rfl (l' := (lc135 p1 p2 p3 p4 fl sv mv rv vv)) rfl ?_
    show oS pP eE below T_2 (mkF mM 211 (lc135 p1 p2 p3 p4 fl sv mv rv vv) []) _
    refine XS.dload X_2.here hx rfl (hb hby at_211) rfl ?_
    show oS pP eE below T_2 (mkF mM 213 (lc135 p1 p2 p3 p4 fl sv mv rv vv) [(.double (FP.f2d (FP.d2f (FP.dneg (FP.l2d vv)))))]) _
    refine XS.dload X_2.here hx rfl (hb hby at_213) rfl ?_
    show oS pP eE below T_2 (mkF mM 215 (lc135 p1 p2 p3 p4 fl sv mv rv vv) [(.double (FP.dneg (FP.l2d ((mv + (1 : Int64)) <<< (sv.toInt64 &&& 63))))), (.double (FP.f2d (FP.d2f (FP.dneg (FP.l2d vv)))))]) _
    refine XS.dcmpS X_2.here hx rfl (hb hby at_215) rfl rfl ?_
    refine XS.ifNo X_2.here hx rfl (hb hby at_216) rfl (XT.i0_ne_f hfin) ?_
    refine XS.iconst X_2.here hx rfl (hb hby at_219) ?_
    refine XS.goto X_2.here hx rfl (pc0 := 220) (pc' := 224) rfl (hb hby at_220) (by decide) (by decide) ?_
    show oS pP eE below T_2 (mkF mM 224 (lc135 p1 p2 p3 p4 fl sv mv rv vv) [(.int (1 : Int32))]) _
    exact retN X_2 hx (t := .boolean) Bd.returns (by simp) (hb hby at_224) hr
  · show Q_law61g Z p1 p2 p3 p4 sv mv rv vv fl h0 n0 _ T_2.heap _
    exact ⟨rfl, N_2⟩
theorem ef_law61e (mM : MethodId) (x0 : Int32) (x1 : Int32) (x2 : Int32) (x3 : Int64) : entryFrame mM #[(.int x0), (.int x1), (.int x2), (.long x3)] maxLocals = mkF mM 0 #[.val (.int x0), .val (.int x1), .val (.int x2), .val (.long x3), .second, .unset, .unset, .unset, .unset, .unset, .unset, .unset, .unset, .unset, .unset, .unset, .unset, .unset, .unset, .unset, .unset, .unset, .unset, .unset, .unset] [] := by first | (simp [entryFrame, mkF, argsToLocals, Value.category, maxLocals]; done) | rfl
def Q_law61e (Z : State) (p1 : Int32) (p2 : Int32) (p3 : Int32) (p4 : Int64) (sv : Int32) (mv : Int64) (rv : Int64) (vv : Int64) (fl : Addr) (h0 : Heap) (n0 : Nat) (v_ : Option Value) (h_ : Heap) (L_ : List Loc) : Prop := v_ = some (.int (1 : Int32)) ∧ Fr n0 L_
set_option maxRecDepth 65536 in
set_option maxHeartbeats 40000000 in
theorem rm_law61e (l : Launch) (Z : State) (a0 : Array Value) (hw : ∀ d ∈ tables_1, d.before a0 Z = true) (ws : List Jvm.Cond) (p1 : Int32) (p2 : Int32) (p3 : Int32) (p4 : Int64) (sv : Int32) (mv : Int64) (rv : Int64) (vv : Int64) (fl : Addr) (h0 : Heap) (n0 : Nat) (Z0 : n0 ≤ h0.size) (hk : (p1 &&& (7 : Int32)) = (6 : Int32)) (hg : ¬ ((p1 >>> ((3 : Int32) &&& 31)) &&& (1 : Int32)) = 0) (hsv : ((p3 &&& (31 : Int32)) % (30 : Int32)) = sv) (hmv : ((8388608 : Int64) + ((p2 &&& (8388607 : Int32)).toInt64)) = mv) (hrv : (p4 &&& (((1 : Int64) <<< (sv.toInt64 &&& 63)) - (1 : Int64))) = rv) (hvv : ((mv <<< (sv.toInt64 &&& 63)) + rv) = vv) (hnn : Jvm.Free.Fl.NoNaN64 (FP.dneg (FP.l2d vv))) (S_SampleType_FLOAT32 : Sta Z h0 "com/example/greenweft/greenweft/map/SampleType" "FLOAT32" "Lcom/example/greenweft/greenweft/map/SampleType;" (.ref fl)) (E_fl : Exa Z h0 fl "com/example/greenweft/greenweft/map/SampleType") (hs0 : ¬ sv = 0) (hb1 : ¬ rv < ((1 : Int64) <<< ((sv - (1 : Int32)).toInt64 &&& 63))) (hb2 : ¬ ((1 : Int64) <<< ((sv - (1 : Int32)).toInt64 &&& 63)) < rv) (hb3 : (mv &&& (1 : Int64)) = (0 : Int64)) (hfin : cmpValue (FP.dcmp (FP.f2d (FP.d2f (FP.dneg (FP.l2d vv)))) (FP.dneg (FP.l2d (mv <<< (sv.toInt64 &&& 63))))) .l = 0) :
    MetFree l x (head1 (Jvm.Cond.code x code maxLocals ret :: ws) room_1) (fun aa_ U_ => aa_ = #[(.int p1), (.int p2), (.int p3), (.long p4)] ∧ Z.Warmed39 U_.vm ∧ U_.heap = h0) (fun _ _ _ _ _ => True) (fun _ U_ o_ U'_ => ∃ v_ L_, o_ = .returned v_ ∧ Q_law61e Z p1 p2 p3 p4 sv mv rv vv fl h0 n0 v_ U'_.heap L_ ∧ FrameEnd U_ o_ U'_ L_ 0 0) := by
  refine MetFree.of_bodySF (plainFor_of_name pn_0) hisR ?_
  intro pP eE sS mM argsA below meth cC s₁ Bd hml0 hP hK
  obtain ⟨rfl, hZ, hh⟩ := hP
  have hx := Bd.exec
  have hby := Bd.bytes
  have hml : cC.maxLocals = 25 := hml0
  have hown : sS.vm.findClass "com/example/greenweft/greenweft/map/SampleTypeStoredPinLaw" = some mM.cls := findClass_of_methodNamed Bd.named
  have hnm := (name_of_methodNamed Bd.named Bd.method).1
  have X0 : Stand pP l eE room_1 sS mM #[(.int p1), (.int p2), (.int p3), (.long p4)] below meth cC s₁ [] 0 0 := Stand.of_body Bd
  have e0 : s₁.heap = h0 := by rw [← hh, Bd.state]; rfl
  have N0 := Fr.nil n0
  have pre0 : ∀ t_, Steps pP.tables eE below (s₁.setTop (mkF mM 0 #[.val (.int p1), .val (.int p2), .val (.int p3), .val (.long p4), .second, .unset, .unset, .unset, .unset, .unset, .unset, .unset, .unset, .unset, .unset, .unset, .unset, .unset, .unset, .unset, .unset, .unset, .unset, .unset, .unset] [])) t_ → Steps pP.tables eE below (s₁.setTop (entryFrame mM #[(.int p1), (.int p2), (.int p3), (.long p4)] maxLocals)) t_ := fun t_ k_ => castTop (ef_law61e mM p1 p2 p3 p4) k_
  obtain ⟨_, _, ⟨T_1, L_1, k_1, n_1⟩, -, X_1, ⟨Lc_1, hQ_1, l_1, y_1, z_1⟩, st_1⟩ := Jvm.LawKit.callS X0 hx (y := MN0) hown (mvT hZ (ow hw 0 rfl)) (mvT hZ (ow hw 1 rfl)) (mvT hZ (ow hw 2 rfl)) (mvT hZ (ow hw 3 rfl)) (by decide) (backOf (W := 0) (rm_pick6 l Z a0 hw [] fl h0 n0 Z0 S_SampleType_FLOAT32) hZ (ow hw 3 rfl) (ow hw 2 rfl) (by decide) (by decide)) (g := (mkF mM 23 (lc120 p1 p2 p3 p4) [(.int (6 : Int32))])) rfl (by rw [hml]; rfl) (argsL := [(.int (6 : Int32))]) (rest := []) (lenOf pd_0 rfl) rfl (by show 2 * 0 + _ ≤ _; exact Nat.le_of_eq rfl) (hb hby at_23) (fun _ _ => ⟨rfl, e0, (by decide : 0 + 0 ≤ _), (by decide : 0 + 0 ≤ _)⟩)
  dsimp only [Pt.U, Pt.locs, Pt.cells, Pt.slots] at X_1 l_1 y_1 z_1 st_1 hQ_1
  subst l_1 y_1 z_1
  obtain ⟨rfl, N_1q, eh_1⟩ := hQ_1
  have N_1 := Fr.app N0 N_1q
  obtain ⟨cq_2, kq_2, q_2a, q_2b, q_2c⟩ := isOf hZ eh_1 E_fl
  obtain ⟨_, _, ⟨T_2, L_2, k_2, n_2⟩, -, X_2, ⟨Lc_2, hQ_2, l_2, y_2, z_2⟩, st_2⟩ := X_1.virtualBack hx (y := MN1) (z := MN1) hown (mvT hZ (ow hw 9 rfl)) (mvT hZ (ow hw 10 rfl)) (notFace_of_selects (args := #[]) (mvT hZ (ow hw 12 rfl))) (mvT hZ (ow hw 12 rfl)) (mvT hZ (ow hw 11 rfl)) (by decide) (backOf (W := 0) (rm_stf l Z a0 hw [] fl (FP.dneg (FP.l2d vv)) h0 n0 Z0 S_SampleType_FLOAT32 hnn) hZ (ow hw 13 rfl) (ow hw 5 rfl) (by decide) (by decide)) q_2a q_2c (g := (mkF mM 89 (lc126 p1 p2 p3 p4 fl sv mv rv vv) [(.double (FP.dneg (FP.l2d vv))), (.ref fl)])) rfl (by rw [hml]; rfl) (Steps.refl _) (argsL := [(.double (FP.dneg (FP.l2d vv)))]) (rest := []) (lenOf pd_1 rfl) rfl (by show 2 * 0 + _ ≤ _; exact Nat.le_of_eq rfl) (hb hby at_89) (fun _ _ => ⟨rfl, eh_1, (by decide : 0 + 0 ≤ _), (by decide : 0 + 0 ≤ _)⟩)
  dsimp only [Pt.U, Pt.locs, Pt.cells, Pt.slots] at X_2 l_2 y_2 z_2 st_2 hQ_2
  subst l_2 y_2 z_2
  obtain ⟨rfl, N_2q, eh_2⟩ := hQ_2
  have N_2 := Fr.app N_1 N_2q
  obtain ⟨fs, hr, hrun, hended, hW, hsame⟩ := X_2.leave (v := some (.int (1 : Int32))) (fun h => by rw [Bd.returns] at h; cases h)
  refine ⟨_, _, pre0 _ ?_, hrun, hended, _, _, rfl, ?_, ⟨_, rfl⟩, hW, hsame.mono (by decide) (by decide)⟩
  · show oS pP eE below s₁ (mkF mM 0 (lc0 p1 p2 p3 p4) []) _
    refine XS.iloadN X0.here hx rfl (hb hby at_0) rfl ?_
    refine XS.bipush X0.here hx rfl (hb hby at_1) ?_
    show oS pP eE below s₁ (mkF mM 3 (lc0 p1 p2 p3 p4) [(.int (7 : Int32)), (.int p1)]) _
    refine XS.iand X0.here hx rfl (hb hby at_3) rfl ?_
    show Steps pP.tables eE below (s₁.setTop (mkF mM 4 (lc0 p1 p2 p3 p4) [(.int (p1 &&& (7 : Int32)))])) _
    rw [hk]
    refine XS.istore X0.here hx rfl (hb hby at_4) rfl (l' := (lc103 p1 p2 p3 p4)) rfl ?_
    refine XS.iloadN X0.here hx rfl (hb hby at_6) rfl ?_
    refine XS.iconst X0.here hx rfl (hb hby at_7) ?_
    show oS pP eE below s₁ (mkF mM 8 (lc103 p1 p2 p3 p4) [(.int (3 : Int32)), (.int p1)]) _
    refine XT.ishr X0.here hx rfl (hb hby at_8) rfl ?_
    refine XS.iconst X0.here hx rfl (hb hby at_9) ?_
    show oS pP eE below s₁ (mkF mM 10 (lc103 p1 p2 p3 p4) [(.int (1 : Int32)), (.int (p1 >>> ((3 : Int32) &&& 31)))]) _
    refine XS.iand X0.here hx rfl (hb hby at_10) rfl ?_
    refine XS.ifNo X0.here hx rfl (hb hby at_11) rfl (XT.i0_eq_f hg) ?_
    refine XS.iconst X0.here hx rfl (hb hby at_14) ?_
    refine XS.goto X0.here hx rfl (pc0 := 15) (pc' := 19) rfl (hb hby at_15) (by decide) (by decide) ?_
    refine XS.istore X0.here hx rfl (hb hby at_19) rfl (l' := (lc120 p1 p2 p3 p4)) rfl ?_
    refine XS.iload X0.here hx rfl (hb hby at_21) rfl ?_
    show oS pP eE below s₁ (mkF mM 23 (lc120 p1 p2 p3 p4) [(.int (6 : Int32))]) _
    refine st_1 _ ?_
    show oS pP eE below T_1 (mkF mM 26 (lc120 p1 p2 p3 p4) [(.ref fl)]) _
    refine XS.astore X_1.here hx rfl (hb hby at_26) rfl rfl (l' := (lc121 p1 p2 p3 p4 fl)) rfl ?_
    refine XS.iloadN X_1.here hx rfl (hb hby at_28) rfl ?_
    refine XS.bipush X_1.here hx rfl (hb hby at_29) ?_
    show oS pP eE below T_1 (mkF mM 31 (lc121 p1 p2 p3 p4 fl) [(.int (31 : Int32)), (.int p3)]) _
    refine XS.iand X_1.here hx rfl (hb hby at_31) rfl ?_
    refine XS.bipush X_1.here hx rfl (hb hby at_32) ?_
    show oS pP eE below T_1 (mkF mM 34 (lc121 p1 p2 p3 p4 fl) [(.int (30 : Int32)), (.int (p3 &&& (31 : Int32)))]) _
    refine iremM X_1 hx rfl (hb hby at_34) rfl (by decide) ?_
    show Steps pP.tables eE below (T_1.setTop (mkF mM 35 (lc121 p1 p2 p3 p4 fl) [(.int ((p3 &&& (31 : Int32)) % (30 : Int32)))])) _
    rw [hsv]
    refine XS.istore X_1.here hx rfl (hb hby at_35) rfl (l' := (lc122 p1 p2 p3 p4 fl sv)) rfl ?_
    show oS pP eE below T_1 (mkF mM 37 (lc122 p1 p2 p3 p4 fl sv) []) _
    refine X_1.ldc2J hx hown (mvT hZ (ow hw 7 rfl)) (g := (mkF mM 37 (lc122 p1 p2 p3 p4 fl sv) [])) rfl (hb hby at_37) ?_
    refine XS.iloadN X_1.here hx rfl (hb hby at_40) rfl ?_
    show oS pP eE below T_1 (mkF mM 41 (lc122 p1 p2 p3 p4 fl sv) [(.int p2), (.long (8388608 : Int64))]) _
    refine X_1.ldcI hx hown (mvT hZ (ow hw 8 rfl)) (g := (mkF mM 41 (lc122 p1 p2 p3 p4 fl sv) [(.int p2), (.long (8388608 : Int64))])) rfl (hb hby at_41) ?_
    show oS pP eE below T_1 (mkF mM 43 (lc122 p1 p2 p3 p4 fl sv) [(.int (8388607 : Int32)), (.int p2), (.long (8388608 : Int64))]) _
    refine XS.iand X_1.here hx rfl (hb hby at_43) rfl ?_
    show oS pP eE below T_1 (mkF mM 44 (lc122 p1 p2 p3 p4 fl sv) [(.int (p2 &&& (8388607 : Int32))), (.long (8388608 : Int64))]) _
    refine XT.i2l X_1.here hx rfl (hb hby at_44) rfl ?_
    show oS pP eE below T_1 (mkF mM 45 (lc122 p1 p2 p3 p4 fl sv) [(.long ((p2 &&& (8388607 : Int32)).toInt64)), (.long (8388608 : Int64))]) _
    refine XT.ladd X_1.here hx rfl (hb hby at_45) rfl ?_
    show Steps pP.tables eE below (T_1.setTop (mkF mM 46 (lc122 p1 p2 p3 p4 fl sv) [(.long ((8388608 : Int64) + ((p2 &&& (8388607 : Int32)).toInt64)))])) _
    rw [hmv]
    refine XT.lstore X_1.here hx rfl (hb hby at_46) rfl (l' := (lc123 p1 p2 p3 p4 fl sv mv)) rfl ?_
    refine XT.lloadN X_1.here hx rfl (hb hby at_48) rfl ?_
    refine XT.lconst X_1.here hx rfl (hb hby at_49) ?_
    refine XS.iload X_1.here hx rfl (hb hby at_50) rfl ?_
    show oS pP eE below T_1 (mkF mM 52 (lc123 p1 p2 p3 p4 fl sv mv) [(.int sv), (.long (1 : Int64)), (.long p4)]) _
    refine XT.lshl X_1.here hx rfl (hb hby at_52) rfl ?_
    refine XT.lconst X_1.here hx rfl (hb hby at_53) ?_
    show oS pP eE below T_1 (mkF mM 54 (lc123 p1 p2 p3 p4 fl sv mv) [(.long (1 : Int64)), (.long ((1 : Int64) <<< (sv.toInt64 &&& 63))), (.long p4)]) _
    refine XT.lsub X_1.here hx rfl (hb hby at_54) rfl ?_
    show oS pP eE below T_1 (mkF mM 55 (lc123 p1 p2 p3 p4 fl sv mv) [(.long (((1 : Int64) <<< (sv.toInt64 &&& 63)) - (1 : Int64))), (.long p4)]) _
    refine XT.land X_1.here hx rfl (hb hby at_55) rfl ?_
    show Steps pP.tables eE below (T_1.setTop (mkF mM 56 (lc123 p1 p2 p3 p4 fl sv mv) [(.long (p4 &&& (((1 : Int64) <<< (sv.toInt64 &&& 63)) - (1 : Int64))))])) _
    rw [hrv]
    refine XT.lstore X_1.here hx rfl (hb hby at_56) rfl (l' := (lc124 p1 p2 p3 p4 fl sv mv rv)) rfl ?_
    refine XT.lload X_1.here hx rfl (hb hby at_58) rfl ?_
    refine XS.iload X_1.here hx rfl (hb hby at_60) rfl ?_
    show oS pP eE below T_1 (mkF mM 62 (lc124 p1 p2 p3 p4 fl sv mv rv) [(.int sv), (.long mv)]) _
    refine XT.lshl X_1.here hx rfl (hb hby at_62) rfl ?_
    refine XT.lload X_1.here hx rfl (hb hby at_63) rfl ?_
    show oS pP eE below T_1 (mkF mM 65 (lc124 p1 p2 p3 p4 fl sv mv rv) [(.long rv), (.long (mv <<< (sv.toInt64 &&& 63)))]) _
    refine XT.ladd X_1.here hx rfl (hb hby at_65) rfl ?_
    show Steps pP.tables eE below (T_1.setTop (mkF mM 66 (lc124 p1 p2 p3 p4 fl sv mv rv) [(.long ((mv <<< (sv.toInt64 &&& 63)) + rv))])) _
    rw [hvv]
    refine XT.lstore X_1.here hx rfl (hb hby at_66) rfl (l' := (lc125 p1 p2 p3 p4 fl sv mv rv vv)) rfl ?_
    refine XS.iload X_1.here hx rfl (hb hby at_68) rfl ?_
    refine XS.ifNo X_1.here hx rfl (hb hby at_70) rfl (by decide) ?_
    refine XT.lload X_1.here hx rfl (hb hby at_73) rfl ?_
    show oS pP eE below T_1 (mkF mM 75 (lc125 p1 p2 p3 p4 fl sv mv rv vv) [(.long vv)]) _
    refine XS.l2dS X_1.here hx rfl (hb hby at_75) rfl rfl ?_
    show oS pP eE below T_1 (mkF mM 76 (lc125 p1 p2 p3 p4 fl sv mv rv vv) [(.double (FP.l2d vv))]) _
    refine XS.dnegS X_1.here hx rfl (hb hby at_76) rfl rfl ?_
    refine XS.goto X_1.here hx rfl (pc0 := 77) (pc' := 83) rfl (hb hby at_77) (by decide) (by decide) ?_
    show oS pP eE below T_1 (mkF mM 83 (lc125 p1 p2 p3 p4 fl sv mv rv vv) [(.double (FP.dneg (FP.l2d vv)))]) _
    refine XS.dstore X_1.here hx rfl (hb hby at_83) rfl (l' := (lc126 p1 p2 p3 p4 fl sv mv rv vv)) rfl ?_
    refine XS.aload X_1.here hx rfl (hb hby at_85) rfl rfl ?_
    show oS pP eE below T_1 (mkF mM 87 (lc126 p1 p2 p3 p4 fl sv mv rv vv) [(.ref fl)]) _
    refine XS.dload X_1.here hx rfl (hb hby at_87) rfl ?_
    show oS pP eE below T_1 (mkF mM 89 (lc126 p1 p2 p3 p4 fl sv mv rv vv) [(.double (FP.dneg (FP.l2d vv))), (.ref fl)]) _
    refine st_2.trans ?_
    show oS pP eE below T_2 (mkF mM 92 (lc126 p1 p2 p3 p4 fl sv mv rv vv) [(.double (FP.f2d (FP.d2f (FP.dneg (FP.l2d vv)))))]) _
    refine XS.dstore X_2.here hx rfl (hb hby at_92) rfl (l' := (lc127 p1 p2 p3 p4 fl sv mv rv vv)) rfl ?_
    refine XS.iload X_2.here hx rfl (hb hby at_94) rfl ?_
    refine XS.bipush X_2.here hx rfl (hb hby at_96) ?_
    refine XS.icmpYes X_2.here hx rfl (pc0 := 98) (pc' := 115) rfl (hb hby at_98) rfl (by decide) (by decide) (by decide) ?_
    refine XS.iload X_2.here hx rfl (hb hby at_115) rfl ?_
    refine XS.ifYes X_2.here hx rfl (pc0 := 117) (pc' := 127) rfl (hb hby at_117) rfl (XT.i0_ne_t hs0) (by decide) (by decide) ?_
    refine XT.lconst X_2.here hx rfl (hb hby at_127) ?_
    refine XS.iload X_2.here hx rfl (hb hby at_128) rfl ?_
    show oS pP eE below T_2 (mkF mM 130 (lc127 p1 p2 p3 p4 fl sv mv rv vv) [(.int sv), (.long (1 : Int64))]) _
    refine XS.iconst X_2.here hx rfl (hb hby at_130) ?_
    show oS pP eE below T_2 (mkF mM 131 (lc127 p1 p2 p3 p4 fl sv mv rv vv) [(.int (1 : Int32)), (.int sv), (.long (1 : Int64))]) _
    refine XS.isub X_2.here hx rfl (hb hby at_131) rfl ?_
    show oS pP eE below T_2 (mkF mM 132 (lc127 p1 p2 p3 p4 fl sv mv rv vv) [(.int (sv - (1 : Int32))), (.long (1 : Int64))]) _
    refine XT.lshl X_2.here hx rfl (hb hby at_132) rfl ?_
    refine XT.lstore X_2.here hx rfl (hb hby at_133) rfl (l' := (lc131 p1 p2 p3 p4 fl sv mv rv vv)) rfl ?_
    refine XT.lload X_2.here hx rfl (hb hby at_135) rfl ?_
    refine XT.lload X_2.here hx rfl (hb hby at_137) rfl ?_
    show oS pP eE below T_2 (mkF mM 139 (lc131 p1 p2 p3 p4 fl sv mv rv vv) [(.long ((1 : Int64) <<< ((sv - (1 : Int32)).toInt64 &&& 63))), (.long rv)]) _
    refine XT.lcmp X_2.here hx rfl (hb hby at_139) rfl ?_
    refine XS.ifYes X_2.here hx rfl (pc0 := 140) (pc' := 150) rfl (hb hby at_140) rfl (XT.ll_ge_t hb1) (by decide) (by decide) ?_
    refine XT.lload X_2.here hx rfl (hb hby at_150) rfl ?_
    refine XT.lload X_2.here hx rfl (hb hby at_152) rfl ?_
    show oS pP eE below T_2 (mkF mM 154 (lc131 p1 p2 p3 p4 fl sv mv rv vv) [(.long ((1 : Int64) <<< ((sv - (1 : Int32)).toInt64 &&& 63))), (.long rv)]) _
    refine XT.lcmp X_2.here hx rfl (hb hby at_154) rfl ?_
    refine XS.ifYes X_2.here hx rfl (pc0 := 155) (pc' := 167) rfl (hb hby at_155) rfl (XT.ll_le_t hb2) (by decide) (by decide) ?_
    refine XT.lload X_2.here hx rfl (hb hby at_167) rfl ?_
    refine XT.lconst X_2.here hx rfl (hb hby at_169) ?_
    show oS pP eE below T_2 (mkF mM 170 (lc131 p1 p2 p3 p4 fl sv mv rv vv) [(.long (1 : Int64)), (.long mv)]) _
    refine XT.land X_2.here hx rfl (hb hby at_170) rfl ?_
    refine XT.lconst X_2.here hx rfl (hb hby at_171) ?_
    show oS pP eE below T_2 (mkF mM 172 (lc131 p1 p2 p3 p4 fl sv mv rv vv) [(.long (0 : Int64)), (.long (mv &&& (1 : Int64)))]) _
    refine XT.lcmp X_2.here hx rfl (hb hby at_172) rfl ?_
    refine XS.ifNo X_2.here hx rfl (hb hby at_173) rfl (XT.ll_ne_f hb3) ?_
    refine XT.lload X_2.here hx rfl (hb hby at_176) rfl ?_
    refine XS.goto X_2.here hx rfl (pc0 := 178) (pc' := 185) rfl (hb hby at_178) (by decide) (by decide) ?_
    refine XT.lstore X_2.here hx rfl (hb hby at_185) rfl (l' := (lc132 p1 p2 p3 p4 fl sv mv rv vv)) rfl ?_
    refine XT.lload X_2.here hx rfl (hb hby at_187) rfl ?_
    refine XS.iload X_2.here hx rfl (hb hby at_189) rfl ?_
    show oS pP eE below T_2 (mkF mM 191 (lc132 p1 p2 p3 p4 fl sv mv rv vv) [(.int sv), (.long mv)]) _
    refine XT.lshl X_2.here hx rfl (hb hby at_191) rfl ?_
    refine XT.lstore X_2.here hx rfl (hb hby at_192) rfl (l' := (lc129 p1 p2 p3 p4 fl sv mv rv vv)) rfl ?_
    refine XS.iload X_2.here hx rfl (hb hby at_194) rfl ?_
    refine XS.ifNo X_2.here hx rfl (hb hby at_196) rfl (by decide) ?_
    refine XT.lload X_2.here hx rfl (hb hby at_199) rfl ?_
    show oS pP eE below T_2 (mkF mM 201 (lc129 p1 p2 p3 p4 fl sv mv rv vv) [(.long (mv <<< (sv.toInt64 &&& 63)))]) _
    refine XS.l2dS X_2.here hx rfl (hb hby at_201) rfl rfl ?_
    show oS pP eE below T_2 (mkF mM 202 (lc129 p1 p2 p3 p4 fl sv mv rv vv) [(.double (FP.l2d (mv <<< (sv.toInt64 &&& 63))))]) _
    refine XS.dnegS X_2.here hx rfl (hb hby at_202) rfl rfl ?_
    refine XS.goto X_2.here hx rfl (pc0 := 203) (pc' := 209) rfl (hb hby at_203) (by decide) (by decide) ?_
    show oS pP eE below T_2 (mkF mM 209 (lc129 p1 p2 p3 p4 fl sv mv rv vv) [(.double (FP.dneg (FP.l2d (mv <<< (sv.toInt64 &&& 63)))))]) _
    refine XS.dstore X_2.here hx rfl (hb hby at_209) rfl (l' := (lc130 p1 p2 p3 p4 fl sv mv rv vv)) rfl ?_
    show oS pP eE below T_2 (mkF mM 211 (lc130 p1 p2 p3 p4 fl sv mv rv vv) []) _
    refine XS.dload X_2.here hx rfl (hb hby at_211) rfl ?_
    show oS pP eE below T_2 (mkF mM 213 (lc130 p1 p2 p3 p4 fl sv mv rv vv) [(.double (FP.f2d (FP.d2f (FP.dneg (FP.l2d vv)))))]) _
    refine XS.dload X_2.here hx rfl (hb hby at_213) rfl ?_
    show oS pP eE below T_2 (mkF mM 215 (lc130 p1 p2 p3 p4 fl sv mv rv vv) [(.double (FP.dneg (FP.l2d (mv <<< (sv.toInt64 &&& 63))))), (.double (FP.f2d (FP.d2f (FP.dneg (FP.l2d vv)))))]) _
    refine XS.dcmpS X_2.here hx rfl (hb hby at_215) rfl rfl ?_
    refine XS.ifNo X_2.here hx rfl (hb hby at_216) rfl (XT.i0_ne_f hfin) ?_
    refine XS.iconst X_2.here hx rfl (hb hby at_219) ?_
    refine XS.goto X_2.here hx rfl (pc0 := 220) (pc' := 224) rfl (hb hby at_220) (by decide) (by decide) ?_
    show oS pP eE below T_2 (mkF mM 224 (lc130 p1 p2 p3 p4 fl sv mv rv vv) [(.int (1 : Int32))]) _
    exact retN X_2 hx (t := .boolean) Bd.returns (by simp) (hb hby at_224) hr
  · show Q_law61e Z p1 p2 p3 p4 sv mv rv vv fl h0 n0 _ T_2.heap _
    exact ⟨rfl, N_2⟩
theorem ef_law61o (mM : MethodId) (x0 : Int32) (x1 : Int32) (x2 : Int32) (x3 : Int64) : entryFrame mM #[(.int x0), (.int x1), (.int x2), (.long x3)] maxLocals = mkF mM 0 #[.val (.int x0), .val (.int x1), .val (.int x2), .val (.long x3), .second, .unset, .unset, .unset, .unset, .unset, .unset, .unset, .unset, .unset, .unset, .unset, .unset, .unset, .unset, .unset, .unset, .unset, .unset, .unset, .unset] [] := by first | (simp [entryFrame, mkF, argsToLocals, Value.category, maxLocals]; done) | rfl
def Q_law61o (Z : State) (p1 : Int32) (p2 : Int32) (p3 : Int32) (p4 : Int64) (sv : Int32) (mv : Int64) (rv : Int64) (vv : Int64) (fl : Addr) (h0 : Heap) (n0 : Nat) (v_ : Option Value) (h_ : Heap) (L_ : List Loc) : Prop := v_ = some (.int (1 : Int32)) ∧ Fr n0 L_
set_option maxRecDepth 65536 in
set_option maxHeartbeats 40000000 in
theorem rm_law61o (l : Launch) (Z : State) (a0 : Array Value) (hw : ∀ d ∈ tables_1, d.before a0 Z = true) (ws : List Jvm.Cond) (p1 : Int32) (p2 : Int32) (p3 : Int32) (p4 : Int64) (sv : Int32) (mv : Int64) (rv : Int64) (vv : Int64) (fl : Addr) (h0 : Heap) (n0 : Nat) (Z0 : n0 ≤ h0.size) (hk : (p1 &&& (7 : Int32)) = (6 : Int32)) (hg : ¬ ((p1 >>> ((3 : Int32) &&& 31)) &&& (1 : Int32)) = 0) (hsv : ((p3 &&& (31 : Int32)) % (30 : Int32)) = sv) (hmv : ((8388608 : Int64) + ((p2 &&& (8388607 : Int32)).toInt64)) = mv) (hrv : (p4 &&& (((1 : Int64) <<< (sv.toInt64 &&& 63)) - (1 : Int64))) = rv) (hvv : ((mv <<< (sv.toInt64 &&& 63)) + rv) = vv) (hnn : Jvm.Free.Fl.NoNaN64 (FP.dneg (FP.l2d vv))) (S_SampleType_FLOAT32 : Sta Z h0 "com/example/greenweft/greenweft/map/SampleType" "FLOAT32" "Lcom/example/greenweft/greenweft/map/SampleType;" (.ref fl)) (E_fl : Exa Z h0 fl "com/example/greenweft/greenweft/map/SampleType") (hs0 : ¬ sv = 0) (hb1 : ¬ rv < ((1 : Int64) <<< ((sv - (1 : Int32)).toInt64 &&& 63))) (hb2 : ¬ ((1 : Int64) <<< ((sv - (1 : Int32)).toInt64 &&& 63)) < rv) (hb3 : ¬ (mv &&& (1 : Int64)) = (0 : Int64)) (hfin : cmpValue (FP.dcmp (FP.f2d (FP.d2f (FP.dneg (FP.l2d vv)))) (FP.dneg (FP.l2d ((mv + (1 : Int64)) <<< (sv.toInt64 &&& 63))))) .l = 0) :
    MetFree l x (head1 (Jvm.Cond.code x code maxLocals ret :: ws) room_1) (fun aa_ U_ => aa_ = #[(.int p1), (.int p2), (.int p3), (.long p4)] ∧ Z.Warmed39 U_.vm ∧ U_.heap = h0) (fun _ _ _ _ _ => True) (fun _ U_ o_ U'_ => ∃ v_ L_, o_ = .returned v_ ∧ Q_law61o Z p1 p2 p3 p4 sv mv rv vv fl h0 n0 v_ U'_.heap L_ ∧ FrameEnd U_ o_ U'_ L_ 0 0) := by
  refine MetFree.of_bodySF (plainFor_of_name pn_0) hisR ?_
  intro pP eE sS mM argsA below meth cC s₁ Bd hml0 hP hK
  obtain ⟨rfl, hZ, hh⟩ := hP
  have hx := Bd.exec
  have hby := Bd.bytes
  have hml : cC.maxLocals = 25 := hml0
  have hown : sS.vm.findClass "com/example/greenweft/greenweft/map/SampleTypeStoredPinLaw" = some mM.cls := findClass_of_methodNamed Bd.named
  have hnm := (name_of_methodNamed Bd.named Bd.method).1
  have X0 : Stand pP l eE room_1 sS mM #[(.int p1), (.int p2), (.int p3), (.long p4)] below meth cC s₁ [] 0 0 := Stand.of_body Bd
  have e0 : s₁.heap = h0 := by rw [← hh, Bd.state]; rfl
  have N0 := Fr.nil n0
  have pre0 : ∀ t_, Steps pP.tables eE below (s₁.setTop (mkF mM 0 #[.val (.int p1), .val (.int p2), .val (.int p3), .val (.long p4), .second, .unset, .unset, .unset, .unset, .unset, .unset, .unset, .unset, .unset, .unset, .unset, .unset, .unset, .unset, .unset, .unset, .unset, .unset, .unset, .unset] [])) t_ → Steps pP.tables eE below (s₁.setTop (entryFrame mM #[(.int p1), (.int p2), (.int p3), (.long p4)] maxLocals)) t_ := fun t_ k_ => castTop (ef_law61o mM p1 p2 p3 p4) k_
  obtain ⟨_, _, ⟨T_1, L_1, k_1, n_1⟩, -, X_1, ⟨Lc_1, hQ_1, l_1, y_1, z_1⟩, st_1⟩ := Jvm.LawKit.callS X0 hx (y := MN0) hown (mvT hZ (ow hw 0 rfl)) (mvT hZ (ow hw 1 rfl)) (mvT hZ (ow hw 2 rfl)) (mvT hZ (ow hw 3 rfl)) (by decide) (backOf (W := 0) (rm_pick6 l Z a0 hw [] fl h0 n0 Z0 S_SampleType_FLOAT32) hZ (ow hw 3 rfl) (ow hw 2 rfl) (by decide) (by decide)) (g := (mkF mM 23 (lc120 p1 p2 p3 p4) [(.int (6 : Int32))])) rfl (by rw [hml]; rfl) (argsL := [(.int (6 : Int32))]) (rest := []) (lenOf pd_0 rfl) rfl (by show 2 * 0 + _ ≤ _; exact Nat.le_of_eq rfl) (hb hby at_23) (fun _ _ => ⟨rfl, e0, (by decide : 0 + 0 ≤ _), (by decide : 0 + 0 ≤ _)⟩)
  dsimp only [Pt.U, Pt.locs, Pt.cells, Pt.slots] at X_1 l_1 y_1 z_1 st_1 hQ_1
  subst l_1 y_1 z_1
  obtain ⟨rfl, N_1q, eh_1⟩ := hQ_1
  have N_1 := Fr.app N0 N_1q
  obtain ⟨cq_2, kq_2, q_2a, q_2b, q_2c⟩ := isOf hZ eh_1 E_fl
  obtain ⟨_, _, ⟨T_2, L_2, k_2, n_2⟩, -, X_2, ⟨Lc_2, hQ_2, l_2, y_2, z_2⟩, st_2⟩ := X_1.virtualBack hx (y := MN1) (z := MN1) hown (mvT hZ (ow hw 9 rfl)) (mvT hZ (ow hw 10 rfl)) (notFace_of_selects (args := #[]) (mvT hZ (ow hw 12 rfl))) (mvT hZ (ow hw 12 rfl)) (mvT hZ (ow hw 11 rfl)) (by decide) (backOf (W := 0) (rm_stf l Z a0 hw [] fl (FP.dneg (FP.l2d vv)) h0 n0 Z0 S_SampleType_FLOAT32 hnn) hZ (ow hw 13 rfl) (ow hw 5 rfl) (by decide) (by decide)) q_2a q_2c (g := (mkF mM 89 (lc126 p1 p2 p3 p4 fl sv mv rv vv) [(.double (FP.dneg (FP.l2d vv))), (.ref fl)])) rfl (by rw [hml]; rfl) (Steps.refl _) (argsL := [(.double (FP.dneg (FP.l2d vv)))]) (rest := []) (lenOf pd_1 rfl) rfl (by show 2 * 0 + _ ≤ _; exact Nat.le_of_eq rfl) (hb hby at_89) (fun _ _ => ⟨rfl, eh_1, (by decide : 0 + 0 ≤ _), (by decide : 0 + 0 ≤ _)⟩)
  dsimp only [Pt.U, Pt.locs, Pt.cells, Pt.slots] at X_2 l_2 y_2 z_2 st_2 hQ_2
  subst l_2 y_2 z_2
  obtain ⟨rfl, N_2q, eh_2⟩ := hQ_2
  have N_2 := Fr.app N_1 N_2q
  obtain ⟨fs, hr, hrun, hended, hW, hsame⟩ := X_2.leave (v := some (.int (1 : Int32))) (fun h => by rw [Bd.returns] at h; cases h)
  refine ⟨_, _, pre0 _ ?_, hrun, hended, _, _, rfl, ?_, ⟨_, rfl⟩, hW, hsame.mono (by decide) (by decide)⟩
  · show oS pP eE below s₁ (mkF mM 0 (lc0 p1 p2 p3 p4) []) _
    refine XS.iloadN X0.here hx rfl (hb hby at_0) rfl ?_
    refine XS.bipush X0.here hx rfl (hb hby at_1) ?_
    show oS pP eE below s₁ (mkF mM 3 (lc0 p1 p2 p3 p4) [(.int (7 : Int32)), (.int p1)]) _
    refine XS.iand X0.here hx rfl (hb hby at_3) rfl ?_
    show Steps pP.tables eE below (s₁.setTop (mkF mM 4 (lc0 p1 p2 p3 p4) [(.int (p1 &&& (7 : Int32)))])) _
    rw [hk]
    refine XS.istore X0.here hx rfl (hb hby at_4) rfl (l' := (lc103 p1 p2 p3 p4)) rfl ?_
    refine XS.iloadN X0.here hx rfl (hb hby at_6) rfl ?_
    refine XS.iconst X0.here hx rfl (hb hby at_7) ?_
    show oS pP eE below s₁ (mkF mM 8 (lc103 p1 p2 p3 p4) [(.int (3 : Int32)), (.int p1)]) _
    refine XT.ishr X0.here hx rfl (hb hby at_8) rfl ?_
    refine XS.iconst X0.here hx rfl (hb hby at_9) ?_
    show oS pP eE below s₁ (mkF mM 10 (lc103 p1 p2 p3 p4) [(.int (1 : Int32)), (.int (p1 >>> ((3 : Int32) &&& 31)))]) _
    refine XS.iand X0.here hx rfl (hb hby at_10) rfl ?_
    refine XS.ifNo X0.here hx rfl (hb hby at_11) rfl (XT.i0_eq_f hg) ?_
    refine XS.iconst X0.here hx rfl (hb hby at_14) ?_
    refine XS.goto X0.here hx rfl (pc0 := 15) (pc' := 19) rfl (hb hby at_15) (by decide) (by decide) ?_
    refine XS.istore X0.here hx rfl (hb hby at_19) rfl (l' := (lc120 p1 p2 p3 p4)) rfl ?_
    refine XS.iload X0.here hx rfl (hb hby at_21) rfl ?_
    show oS pP eE below s₁ (mkF mM 23 (lc120 p1 p2 p3 p4) [(.int (6 : Int32))]) _
    refine st_1 _ ?_
    show oS pP eE below T_1 (mkF mM 26 (lc120 p1 p2 p3 p4) [(.ref fl)]) _
    refine XS.astore X_1.here hx rfl (hb hby at_26) rfl rfl (l' := (lc121 p1 p2 p3 p4 fl)) rfl ?_
    refine XS.iloadN X_1.here hx rfl (hb hby at_28) rfl ?_
    refine XS.bipush X_1.here hx rfl (hb hby at_29) ?_
    show oS pP eE below T_1 (mkF mM 31 (lc121 p1 p2 p3 p4 fl) [(.int (31 : Int32)), (.int p3)]) _
    refine XS.iand X_1.here hx rfl (hb hby at_31) rfl ?_
    refine XS.bipush X_1.here hx rfl (hb hby at_32) ?_
    show oS pP eE below T_1 (mkF mM 34 (lc121 p1 p2 p3 p4 fl) [(.int (30 : Int32)), (.int (p3 &&& (31 : Int32)))]) _
    refine iremM X_1 hx rfl (hb hby at_34) rfl (by decide) ?_
    show Steps pP.tables eE below (T_1.setTop (mkF mM 35 (lc121 p1 p2 p3 p4 fl) [(.int ((p3 &&& (31 : Int32)) % (30 : Int32)))])) _
    rw [hsv]
    refine XS.istore X_1.here hx rfl (hb hby at_35) rfl (l' := (lc122 p1 p2 p3 p4 fl sv)) rfl ?_
    show oS pP eE below T_1 (mkF mM 37 (lc122 p1 p2 p3 p4 fl sv) []) _
    refine X_1.ldc2J hx hown (mvT hZ (ow hw 7 rfl)) (g := (mkF mM 37 (lc122 p1 p2 p3 p4 fl sv) [])) rfl (hb hby at_37) ?_
    refine XS.iloadN X_1.here hx rfl (hb hby at_40) rfl ?_
    show oS pP eE below T_1 (mkF mM 41 (lc122 p1 p2 p3 p4 fl sv) [(.int p2), (.long (8388608 : Int64))]) _
    refine X_1.ldcI hx hown (mvT hZ (ow hw 8 rfl)) (g := (mkF mM 41 (lc122 p1 p2 p3 p4 fl sv) [(.int p2), (.long (8388608 : Int64))])) rfl (hb hby at_41) ?_
    show oS pP eE below T_1 (mkF mM 43 (lc122 p1 p2 p3 p4 fl sv) [(.int (8388607 : Int32)), (.int p2), (.long (8388608 : Int64))]) _
    refine XS.iand X_1.here hx rfl (hb hby at_43) rfl ?_
    show oS pP eE below T_1 (mkF mM 44 (lc122 p1 p2 p3 p4 fl sv) [(.int (p2 &&& (8388607 : Int32))), (.long (8388608 : Int64))]) _
    refine XT.i2l X_1.here hx rfl (hb hby at_44) rfl ?_
    show oS pP eE below T_1 (mkF mM 45 (lc122 p1 p2 p3 p4 fl sv) [(.long ((p2 &&& (8388607 : Int32)).toInt64)), (.long (8388608 : Int64))]) _
    refine XT.ladd X_1.here hx rfl (hb hby at_45) rfl ?_
    show Steps pP.tables eE below (T_1.setTop (mkF mM 46 (lc122 p1 p2 p3 p4 fl sv) [(.long ((8388608 : Int64) + ((p2 &&& (8388607 : Int32)).toInt64)))])) _
    rw [hmv]
    refine XT.lstore X_1.here hx rfl (hb hby at_46) rfl (l' := (lc123 p1 p2 p3 p4 fl sv mv)) rfl ?_
    refine XT.lloadN X_1.here hx rfl (hb hby at_48) rfl ?_
    refine XT.lconst X_1.here hx rfl (hb hby at_49) ?_
    refine XS.iload X_1.here hx rfl (hb hby at_50) rfl ?_
    show oS pP eE below T_1 (mkF mM 52 (lc123 p1 p2 p3 p4 fl sv mv) [(.int sv), (.long (1 : Int64)), (.long p4)]) _
    refine XT.lshl X_1.here hx rfl (hb hby at_52) rfl ?_
    refine XT.lconst X_1.here hx rfl (hb hby at_53) ?_
    show oS pP eE below T_1 (mkF mM 54 (lc123 p1 p2 p3 p4 fl sv mv) [(.long (1 : Int64)), (.long ((1 : Int64) <<< (sv.toInt64 &&& 63))), (.long p4)]) _
    refine XT.lsub X_1.here hx rfl (hb hby at_54) rfl ?_
    show oS pP eE below T_1 (mkF mM 55 (lc123 p1 p2 p3 p4 fl sv mv) [(.long (((1 : Int64) <<< (sv.toInt64 &&& 63)) - (1 : Int64))), (.long p4)]) _
    refine XT.land X_1.here hx rfl (hb hby at_55) rfl ?_
    show Steps pP.tables eE below (T_1.setTop (mkF mM 56 (lc123 p1 p2 p3 p4 fl sv mv) [(.long (p4 &&& (((1 : Int64) <<< (sv.toInt64 &&& 63)) - (1 : Int64))))])) _
    rw [hrv]
    refine XT.lstore X_1.here hx rfl (hb hby at_56) rfl (l' := (lc124 p1 p2 p3 p4 fl sv mv rv)) rfl ?_
    refine XT.lload X_1.here hx rfl (hb hby at_58) rfl ?_
    refine XS.iload X_1.here hx rfl (hb hby at_60) rfl ?_
    show oS pP eE below T_1 (mkF mM 62 (lc124 p1 p2 p3 p4 fl sv mv rv) [(.int sv), (.long mv)]) _
    refine XT.lshl X_1.here hx rfl (hb hby at_62) rfl ?_
    refine XT.lload X_1.here hx rfl (hb hby at_63) rfl ?_
    show oS pP eE below T_1 (mkF mM 65 (lc124 p1 p2 p3 p4 fl sv mv rv) [(.long rv), (.long (mv <<< (sv.toInt64 &&& 63)))]) _
    refine XT.ladd X_1.here hx rfl (hb hby at_65) rfl ?_
    show Steps pP.tables eE below (T_1.setTop (mkF mM 66 (lc124 p1 p2 p3 p4 fl sv mv rv) [(.long ((mv <<< (sv.toInt64 &&& 63)) + rv))])) _
    rw [hvv]
    refine XT.lstore X_1.here hx rfl (hb hby at_66) rfl (l' := (lc125 p1 p2 p3 p4 fl sv mv rv vv)) rfl ?_
    refine XS.iload X_1.here hx rfl (hb hby at_68) rfl ?_
    refine XS.ifNo X_1.here hx rfl (hb hby at_70) rfl (by decide) ?_
    refine XT.lload X_1.here hx rfl (hb hby at_73) rfl ?_
    show oS pP eE below T_1 (mkF mM 75 (lc125 p1 p2 p3 p4 fl sv mv rv vv) [(.long vv)]) _
    refine XS.l2dS X_1.here hx rfl (hb hby at_75) rfl rfl ?_
    show oS pP eE below T_1 (mkF mM 76 (lc125 p1 p2 p3 p4 fl sv mv rv vv) [(.double (FP.l2d vv))]) _
    refine XS.dnegS X_1.here hx rfl (hb hby at_76) rfl rfl ?_
    refine XS.goto X_1.here hx rfl (pc0 := 77) (pc' := 83) rfl (hb hby at_77) (by decide) (by decide) ?_
    show oS pP eE below T_1 (mkF mM 83 (lc125 p1 p2 p3 p4 fl sv mv rv vv) [(.double (FP.dneg (FP.l2d vv)))]) _
    refine XS.dstore X_1.here hx rfl (hb hby at_83) rfl (l' := (lc126 p1 p2 p3 p4 fl sv mv rv vv)) rfl ?_
    refine XS.aload X_1.here hx rfl (hb hby at_85) rfl rfl ?_
    show oS pP eE below T_1 (mkF mM 87 (lc126 p1 p2 p3 p4 fl sv mv rv vv) [(.ref fl)]) _
    refine XS.dload X_1.here hx rfl (hb hby at_87) rfl ?_
    show oS pP eE below T_1 (mkF mM 89 (lc126 p1 p2 p3 p4 fl sv mv rv vv) [(.double (FP.dneg (FP.l2d vv))), (.ref fl)]) _
    refine st_2.trans ?_
    show oS pP eE below T_2 (mkF mM 92 (lc126 p1 p2 p3 p4 fl sv mv rv vv) [(.double (FP.f2d (FP.d2f (FP.dneg (FP.l2d vv)))))]) _
    refine XS.dstore X_2.here hx rfl (hb hby at_92) rfl (l' := (lc127 p1 p2 p3 p4 fl sv mv rv vv)) rfl ?_
    refine XS.iload X_2.here hx rfl (hb hby at_94) rfl ?_
    refine XS.bipush X_2.here hx rfl (hb hby at_96) ?_
    refine XS.icmpYes X_2.here hx rfl (pc0 := 98) (pc' := 115) rfl (hb hby at_98) rfl (by decide) (by decide) (by decide) ?_
    refine XS.iload X_2.here hx rfl (hb hby at_115) rfl ?_
    refine XS.ifYes X_2.here hx rfl (pc0 := 117) (pc' := 127) rfl (hb hby at_117) rfl (XT.i0_ne_t hs0) (by decide) (by decide) ?_
    refine XT.lconst X_2.here hx rfl (hb hby at_127) ?_
    refine XS.iload X_2.here hx rfl (hb hby at_128) rfl ?_
    show oS pP eE below T_2 (mkF mM 130 (lc127 p1 p2 p3 p4 fl sv mv rv vv) [(.int sv), (.long (1 : Int64))]) _
    refine XS.iconst X_2.here hx rfl (hb hby at_130) ?_
    show oS pP eE below T_2 (mkF mM 131 (lc127 p1 p2 p3 p4 fl sv mv rv vv) [(.int (1 : Int32)), (.int sv), (.long (1 : Int64))]) _
    refine XS.isub X_2.here hx rfl (hb hby at_131) rfl ?_
    show oS pP eE below T_2 (mkF mM 132 (lc127 p1 p2 p3 p4 fl sv mv rv vv) [(.int (sv - (1 : Int32))), (.long (1 : Int64))]) _
    refine XT.lshl X_2.here hx rfl (hb hby at_132) rfl ?_
    refine XT.lstore X_2.here hx rfl (hb hby at_133) rfl (l' := (lc131 p1 p2 p3 p4 fl sv mv rv vv)) rfl ?_
    refine XT.lload X_2.here hx rfl (hb hby at_135) rfl ?_
    refine XT.lload X_2.here hx rfl (hb hby at_137) rfl ?_
    show oS pP eE below T_2 (mkF mM 139 (lc131 p1 p2 p3 p4 fl sv mv rv vv) [(.long ((1 : Int64) <<< ((sv - (1 : Int32)).toInt64 &&& 63))), (.long rv)]) _
    refine XT.lcmp X_2.here hx rfl (hb hby at_139) rfl ?_
    refine XS.ifYes X_2.here hx rfl (pc0 := 140) (pc' := 150) rfl (hb hby at_140) rfl (XT.ll_ge_t hb1) (by decide) (by decide) ?_
    refine XT.lload X_2.here hx rfl (hb hby at_150) rfl ?_
    refine XT.lload X_2.here hx rfl (hb hby at_152) rfl ?_
    show oS pP eE below T_2 (mkF mM 154 (lc131 p1 p2 p3 p4 fl sv mv rv vv) [(.long ((1 : Int64) <<< ((sv - (1 : Int32)).toInt64 &&& 63))), (.long rv)]) _
    refine XT.lcmp X_2.here hx rfl (hb hby at_154) rfl ?_
    refine XS.ifYes X_2.here hx rfl (pc0 := 155) (pc' := 167) rfl (hb hby at_155) rfl (XT.ll_le_t hb2) (by decide) (by decide) ?_
    refine XT.lload X_2.here hx rfl (hb hby at_167) rfl ?_
    refine XT.lconst X_2.here hx rfl (hb hby at_169) ?_
    show oS pP eE below T_2 (mkF mM 170 (lc131 p1 p2 p3 p4 fl sv mv rv vv) [(.long (1 : Int64)), (.long mv)]) _
    refine XT.land X_2.here hx rfl (hb hby at_170) rfl ?_
    refine XT.lconst X_2.here hx rfl (hb hby at_171) ?_
    show oS pP eE below T_2 (mkF mM 172 (lc131 p1 p2 p3 p4 fl sv mv rv vv) [(.long (0 : Int64)), (.long (mv &&& (1 : Int64)))]) _
    refine XT.lcmp X_2.here hx rfl (hb hby at_172) rfl ?_
    refine XS.ifYes X_2.here hx rfl (pc0 := 173) (pc' := 181) rfl (hb hby at_173) rfl (XT.ll_ne_t hb3) (by decide) (by decide) ?_
    refine XT.lload X_2.here hx rfl (hb hby at_181) rfl ?_
    refine XT.lconst X_2.here hx rfl (hb hby at_183) ?_
    show oS pP eE below T_2 (mkF mM 184 (lc131 p1 p2 p3 p4 fl sv mv rv vv) [(.long (1 : Int64)), (.long mv)]) _
    refine XT.ladd X_2.here hx rfl (hb hby at_184) rfl ?_
    refine XT.lstore X_2.here hx rfl (hb hby at_185) rfl (l' := (lc133 p1 p2 p3 p4 fl sv mv rv vv)) rfl ?_
    refine XT.lload X_2.here hx rfl (hb hby at_187) rfl ?_
    refine XS.iload X_2.here hx rfl (hb hby at_189) rfl ?_
    show oS pP eE below T_2 (mkF mM 191 (lc133 p1 p2 p3 p4 fl sv mv rv vv) [(.int sv), (.long (mv + (1 : Int64)))]) _
    refine XT.lshl X_2.here hx rfl (hb hby at_191) rfl ?_
    refine XT.lstore X_2.here hx rfl (hb hby at_192) rfl (l' := (lc134 p1 p2 p3 p4 fl sv mv rv vv)) rfl ?_
    refine XS.iload X_2.here hx rfl (hb hby at_194) rfl ?_
    refine XS.ifNo X_2.here hx rfl (hb hby at_196) rfl (by decide) ?_
    refine XT.lload X_2.here hx rfl (hb hby at_199) rfl ?_
    show oS pP eE below T_2 (mkF mM 201 (lc134 p1 p2 p3 p4 fl sv mv rv vv) [(.long ((mv + (1 : Int64)) <<< (sv.toInt64 &&& 63)))]) _
    refine XS.l2dS X_2.here hx rfl (hb hby at_201) rfl rfl ?_
    show oS pP eE below T_2 (mkF mM 202 (lc134 p1 p2 p3 p4 fl sv mv rv vv) [(.double (FP.l2d ((mv + (1 : Int64)) <<< (sv.toInt64 &&& 63))))]) _
    refine XS.dnegS X_2.here hx rfl (hb hby at_202) rfl rfl ?_
    refine XS.goto X_2.here hx rfl (pc0 := 203) (pc' := 209) rfl (hb hby at_203) (by decide) (by decide) ?_
    show oS pP eE below T_2 (mkF mM 209 (lc134 p1 p2 p3 p4 fl sv mv rv vv) [(.double (FP.dneg (FP.l2d ((mv + (1 : Int64)) <<< (sv.toInt64 &&& 63)))))]) _
    refine XS.dstore X_2.here hx rfl (hb hby at_209) rfl (l' := (lc135 p1 p2 p3 p4 fl sv mv rv vv)) rfl ?_
    show oS pP eE below T_2 (mkF mM 211 (lc135 p1 p2 p3 p4 fl sv mv rv vv) []) _
    refine XS.dload X_2.here hx rfl (hb hby at_211) rfl ?_
    show oS pP eE below T_2 (mkF mM 213 (lc135 p1 p2 p3 p4 fl sv mv rv vv) [(.double (FP.f2d (FP.d2f (FP.dneg (FP.l2d vv)))))]) _
    refine XS.dload X_2.here hx rfl (hb hby at_213) rfl ?_
    show oS pP eE below T_2 (mkF mM 215 (lc135 p1 p2 p3 p4 fl sv mv rv vv) [(.double (FP.dneg (FP.l2d ((mv + (1 : Int64)) <<< (sv.toInt64 &&& 63))))), (.double (FP.f2d (FP.d2f (FP.dneg (FP.l2d vv)))))]) _
    refine XS.dcmpS X_2.here hx rfl (hb hby at_215) rfl rfl ?_
    refine XS.ifNo X_2.here hx rfl (hb hby at_216) rfl (XT.i0_ne_f hfin) ?_
    refine XS.iconst X_2.here hx rfl (hb hby at_219) ?_
    refine XS.goto X_2.here hx rfl (pc0 := 220) (pc' := 224) rfl (hb hby at_220) (by decide) (by decide) ?_
    show oS pP eE below T_2 (mkF mM 224 (lc135 p1 p2 p3 p4 fl sv mv rv vv) [(.int (1 : Int32))]) _
    exact retN X_2 hx (t := .boolean) Bd.returns (by simp) (hb hby at_224) hr
  · show Q_law61o Z p1 p2 p3 p4 sv mv rv vv fl h0 n0 _ T_2.heap _
    exact ⟨rfl, N_2⟩
abbrev lc136 (p1 : Int32) (p2 : Int32) (p3 : Int32) (p4 : Int64) : Array Slot := #[.val (.int p1), .val (.int p2), .val (.int p3), .val (.long p4), .second, .val (.int (7 : Int32)), .unset, .unset, .unset, .unset, .unset, .unset, .unset, .unset, .unset, .unset, .unset, .unset, .unset, .unset, .unset, .unset, .unset, .unset, .unset]
abbrev lc137 (p1 : Int32) (p2 : Int32) (p3 : Int32) (p4 : Int64) : Array Slot := #[.val (.int p1), .val (.int p2), .val (.int p3), .val (.long p4), .second, .val (.int (7 : Int32)), .val (.int (0 : Int32)), .unset, .unset, .unset, .unset, .unset, .unset, .unset, .unset, .unset, .unset, .unset, .unset, .unset, .unset, .unset, .unset, .unset, .unset]
abbrev lc138 (p1 : Int32) (p2 : Int32) (p3 : Int32) (p4 : Int64) (r : Addr) : Array Slot := #[.val (.int p1), .val (.int p2), .val (.int p3), .val (.long p4), .second, .val (.int (7 : Int32)), .val (.int (0 : Int32)), .val (.ref r), .unset, .unset, .unset, .unset, .unset, .unset, .unset, .unset, .unset, .unset, .unset, .unset, .unset, .unset, .unset, .unset, .unset]
abbrev lc139 (p1 : Int32) (p2 : Int32) (p3 : Int32) (p4 : Int64) (r : Addr) (sv : Int32) : Array Slot := #[.val (.int p1), .val (.int p2), .val (.int p3), .val (.long p4), .second, .val (.int (7 : Int32)), .val (.int (0 : Int32)), .val (.ref r), .val (.int sv), .unset, .unset, .unset, .unset, .unset, .unset, .unset, .unset, .unset, .unset, .unset, .unset, .unset, .unset, .unset, .unset]
abbrev lc140 (p1 : Int32) (p2 : Int32) (p3 : Int32) (p4 : Int64) (r : Addr) (sv : Int32) (mv : Int64) : Array Slot := #[.val (.int p1), .val (.int p2), .val (.int p3), .val (.long p4), .second, .val (.int (7 : Int32)), .val (.int (0 : Int32)), .val (.ref r), .val (.int sv), .val (.long mv), .second, .unset, .unset, .unset, .unset, .unset, .unset, .unset, .unset, .unset, .unset, .unset, .unset, .unset, .unset]
abbrev lc141 (p1 : Int32) (p2 : Int32) (p3 : Int32) (p4 : Int64) (r : Addr) (sv : Int32) (mv : Int64) (rv : Int64) : Array Slot := #[.val (.int p1), .val (.int p2), .val (.int p3), .val (.long p4), .second, .val (.int (7 : Int32)), .val (.int (0 : Int32)), .val (.ref r), .val (.int sv), .val (.long mv), .second, .val (.long rv), .second, .unset, .unset, .unset, .unset, .unset, .unset, .unset, .unset, .unset, .unset, .unset, .unset]
abbrev lc142 (p1 : Int32) (p2 : Int32) (p3 : Int32) (p4 : Int64) (r : Addr) (sv : Int32) (mv : Int64) (rv : Int64) (vv : Int64) : Array Slot := #[.val (.int p1), .val (.int p2), .val (.int p3), .val (.long p4), .second, .val (.int (7 : Int32)), .val (.int (0 : Int32)), .val (.ref r), .val (.int sv), .val (.long mv), .second, .val (.long rv), .second, .val (.long vv), .second, .unset, .unset, .unset, .unset, .unset, .unset, .unset, .unset, .unset, .unset]
abbrev lc143 (p1 : Int32) (p2 : Int32) (p3 : Int32) (p4 : Int64) (r : Addr) (sv : Int32) (mv : Int64) (rv : Int64) (vv : Int64) : Array Slot := #[.val (.int p1), .val (.int p2), .val (.int p3), .val (.long p4), .second, .val (.int (7 : Int32)), .val (.int (0 : Int32)), .val (.ref r), .val (.int sv), .val (.long mv), .second, .val (.long rv), .second, .val (.long vv), .second, .val (.double (FP.l2d vv)), .second, .unset, .unset, .unset, .unset, .unset, .unset, .unset, .unset]
abbrev lc144 (p1 : Int32) (p2 : Int32) (p3 : Int32) (p4 : Int64) (r : Addr) (sv : Int32) (mv : Int64) (rv : Int64) (vv : Int64) : Array Slot := #[.val (.int p1), .val (.int p2), .val (.int p3), .val (.long p4), .second, .val (.int (7 : Int32)), .val (.int (0 : Int32)), .val (.ref r), .val (.int sv), .val (.long mv), .second, .val (.long rv), .second, .val (.long vv), .second, .val (.double (FP.l2d vv)), .second, .val (.double (FP.l2d vv)), .second, .unset, .unset, .unset, .unset, .unset, .unset]
theorem ef_law70 (mM : MethodId) (x0 : Int32) (x1 : Int32) (x2 : Int32) (x3 : Int64) : entryFrame mM #[(.int x0), (.int x1), (.int x2), (.long x3)] maxLocals = mkF mM 0 #[.val (.int x0), .val (.int x1), .val (.int x2), .val (.long x3), .second, .unset, .unset, .unset, .unset, .unset, .unset, .unset, .unset, .unset, .unset, .unset, .unset, .unset, .unset, .unset, .unset, .unset, .unset, .unset, .unset] [] := by first | (simp [entryFrame, mkF, argsToLocals, Value.category, maxLocals]; done) | rfl
def Q_law70 (Z : State) (p1 : Int32) (p2 : Int32) (p3 : Int32) (p4 : Int64) (sv : Int32) (mv : Int64) (rv : Int64) (vv : Int64) (r : Addr) (fl : Addr) (h0 : Heap) (n0 : Nat) (v_ : Option Value) (h_ : Heap) (L_ : List Loc) : Prop := v_ = some (.int (1 : Int32)) ∧ Fr n0 L_
set_option maxRecDepth 65536 in
set_option maxHeartbeats 40000000 in
theorem rm_law70 (l : Launch) (Z : State) (a0 : Array Value) (hw : ∀ d ∈ tables_1, d.before a0 Z = true) (ws : List Jvm.Cond) (p1 : Int32) (p2 : Int32) (p3 : Int32) (p4 : Int64) (sv : Int32) (mv : Int64) (rv : Int64) (vv : Int64) (r : Addr) (fl : Addr) (h0 : Heap) (n0 : Nat) (Z0 : n0 ≤ h0.size) (hk : (p1 &&& (7 : Int32)) = (7 : Int32)) (hg : ((p1 >>> ((3 : Int32) &&& 31)) &&& (1 : Int32)) = 0) (hsv : ((p3 &&& (31 : Int32)) % (30 : Int32)) = sv) (hmv : ((8388608 : Int64) + ((p2 &&& (8388607 : Int32)).toInt64)) = mv) (hrv : (p4 &&& (((1 : Int64) <<< (sv.toInt64 &&& 63)) - (1 : Int64))) = rv) (hvv : ((mv <<< (sv.toInt64 &&& 63)) + rv) = vv) (hnn : Jvm.Free.Fl.NoNaN64 (FP.l2d vv)) (S_SampleType_FLOAT64 : Sta Z h0 "com/example/greenweft/greenweft/map/SampleType" "FLOAT64" "Lcom/example/greenweft/greenweft/map/SampleType;" (.ref r)) (S_SampleType_FLOAT32 : Sta Z h0 "com/example/greenweft/greenweft/map/SampleType" "FLOAT32" "Lcom/example/greenweft/greenweft/map/SampleType;" (.ref fl)) (n1 : r ≠ fl) (E_r : Exa Z h0 r "com/example/greenweft/greenweft/map/SampleType") :
    MetFree l x (head1 (Jvm.Cond.code x code maxLocals ret :: ws) room_1) (fun aa_ U_ => aa_ = #[(.int p1), (.int p2), (.int p3), (.long p4)] ∧ Z.Warmed39 U_.vm ∧ U_.heap = h0) (fun _ _ _ _ _ => True) (fun _ U_ o_ U'_ => ∃ v_ L_, o_ = .returned v_ ∧ Q_law70 Z p1 p2 p3 p4 sv mv rv vv r fl h0 n0 v_ U'_.heap L_ ∧ FrameEnd U_ o_ U'_ L_ 0 0) := by
  refine MetFree.of_bodySF (plainFor_of_name pn_0) hisR ?_
  intro pP eE sS mM argsA below meth cC s₁ Bd hml0 hP hK
  obtain ⟨rfl, hZ, hh⟩ := hP
  have hx := Bd.exec
  have hby := Bd.bytes
  have hml : cC.maxLocals = 25 := hml0
  have hown : sS.vm.findClass "com/example/greenweft/greenweft/map/SampleTypeStoredPinLaw" = some mM.cls := findClass_of_methodNamed Bd.named
  have hnm := (name_of_methodNamed Bd.named Bd.method).1
  have X0 : Stand pP l eE room_1 sS mM #[(.int p1), (.int p2), (.int p3), (.long p4)] below meth cC s₁ [] 0 0 := Stand.of_body Bd
  have e0 : s₁.heap = h0 := by rw [← hh, Bd.state]; rfl
  have N0 := Fr.nil n0
  have pre0 : ∀ t_, Steps pP.tables eE below (s₁.setTop (mkF mM 0 #[.val (.int p1), .val (.int p2), .val (.int p3), .val (.long p4), .second, .unset, .unset, .unset, .unset, .unset, .unset, .unset, .unset, .unset, .unset, .unset, .unset, .unset, .unset, .unset, .unset, .unset, .unset, .unset, .unset] [])) t_ → Steps pP.tables eE below (s₁.setTop (entryFrame mM #[(.int p1), (.int p2), (.int p3), (.long p4)] maxLocals)) t_ := fun t_ k_ => castTop (ef_law70 mM p1 p2 p3 p4) k_
  obtain ⟨_, _, ⟨T_1, L_1, k_1, n_1⟩, -, X_1, ⟨Lc_1, hQ_1, l_1, y_1, z_1⟩, st_1⟩ := Jvm.LawKit.callS X0 hx (y := MN0) hown (mvT hZ (ow hw 0 rfl)) (mvT hZ (ow hw 1 rfl)) (mvT hZ (ow hw 2 rfl)) (mvT hZ (ow hw 3 rfl)) (by decide) (backOf (W := 0) (rm_pick7 l Z a0 hw [] r h0 n0 Z0 S_SampleType_FLOAT64) hZ (ow hw 3 rfl) (ow hw 2 rfl) (by decide) (by decide)) (g := (mkF mM 23 (lc137 p1 p2 p3 p4) [(.int (7 : Int32))])) rfl (by rw [hml]; rfl) (argsL := [(.int (7 : Int32))]) (rest := []) (lenOf pd_0 rfl) rfl (by show 2 * 0 + _ ≤ _; exact Nat.le_of_eq rfl) (hb hby at_23) (fun _ _ => ⟨rfl, e0, (by decide : 0 + 0 ≤ _), (by decide : 0 + 0 ≤ _)⟩)
  dsimp only [Pt.U, Pt.locs, Pt.cells, Pt.slots] at X_1 l_1 y_1 z_1 st_1 hQ_1
  subst l_1 y_1 z_1
  obtain ⟨rfl, N_1q, eh_1⟩ := hQ_1
  have N_1 := Fr.app N0 N_1q
  obtain ⟨cq_2, kq_2, q_2a, q_2b, q_2c⟩ := isOf hZ eh_1 E_r
  obtain ⟨_, _, ⟨T_2, L_2, k_2, n_2⟩, -, X_2, ⟨Lc_2, hQ_2, l_2, y_2, z_2⟩, st_2⟩ := X_1.virtualBack hx (y := MN1) (z := MN1) hown (mvT hZ (ow hw 9 rfl)) (mvT hZ (ow hw 10 rfl)) (notFace_of_selects (args := #[]) (mvT hZ (ow hw 12 rfl))) (mvT hZ (ow hw 12 rfl)) (mvT hZ (ow hw 11 rfl)) (by decide) (backOf (W := 0) (rm_sto l Z a0 hw [] r fl (FP.l2d vv) h0 n0 Z0 S_SampleType_FLOAT32 n1) hZ (ow hw 13 rfl) (ow hw 5 rfl) (by decide) (by decide)) q_2a q_2c (g := (mkF mM 89 (lc143 p1 p2 p3 p4 r sv mv rv vv) [(.double (FP.l2d vv)), (.ref r)])) rfl (by rw [hml]; rfl) (Steps.refl _) (argsL := [(.double (FP.l2d vv))]) (rest := []) (lenOf pd_1 rfl) rfl (by show 2 * 0 + _ ≤ _; exact Nat.le_of_eq rfl) (hb hby at_89) (fun _ _ => ⟨rfl, eh_1, (by decide : 0 + 0 ≤ _), (by decide : 0 + 0 ≤ _)⟩)
  dsimp only [Pt.U, Pt.locs, Pt.cells, Pt.slots] at X_2 l_2 y_2 z_2 st_2 hQ_2
  subst l_2 y_2 z_2
  obtain ⟨rfl, N_2q, eh_2⟩ := hQ_2
  have N_2 := Fr.app N_1 N_2q
  obtain ⟨fs, hr, hrun, hended, hW, hsame⟩ := X_2.leave (v := some (.int (1 : Int32))) (fun h => by rw [Bd.returns] at h; cases h)
  refine ⟨_, _, pre0 _ ?_, hrun, hended, _, _, rfl, ?_, ⟨_, rfl⟩, hW, hsame.mono (by decide) (by decide)⟩
  · show oS pP eE below s₁ (mkF mM 0 (lc0 p1 p2 p3 p4) []) _
    refine XS.iloadN X0.here hx rfl (hb hby at_0) rfl ?_
    refine XS.bipush X0.here hx rfl (hb hby at_1) ?_
    show oS pP eE below s₁ (mkF mM 3 (lc0 p1 p2 p3 p4) [(.int (7 : Int32)), (.int p1)]) _
    refine XS.iand X0.here hx rfl (hb hby at_3) rfl ?_
    show Steps pP.tables eE below (s₁.setTop (mkF mM 4 (lc0 p1 p2 p3 p4) [(.int (p1 &&& (7 : Int32)))])) _
    rw [hk]
    refine XS.istore X0.here hx rfl (hb hby at_4) rfl (l' := (lc136 p1 p2 p3 p4)) rfl ?_
    refine XS.iloadN X0.here hx rfl (hb hby at_6) rfl ?_
    refine XS.iconst X0.here hx rfl (hb hby at_7) ?_
    show oS pP eE below s₁ (mkF mM 8 (lc136 p1 p2 p3 p4) [(.int (3 : Int32)), (.int p1)]) _
    refine XT.ishr X0.here hx rfl (hb hby at_8) rfl ?_
    refine XS.iconst X0.here hx rfl (hb hby at_9) ?_
    show oS pP eE below s₁ (mkF mM 10 (lc136 p1 p2 p3 p4) [(.int (1 : Int32)), (.int (p1 >>> ((3 : Int32) &&& 31)))]) _
    refine XS.iand X0.here hx rfl (hb hby at_10) rfl ?_
    refine XS.ifYes X0.here hx rfl (pc0 := 11) (pc' := 18) rfl (hb hby at_11) rfl (XT.i0_eq_t hg) (by decide) (by decide) ?_
    refine XS.iconst X0.here hx rfl (hb hby at_18) ?_
    refine XS.istore X0.here hx rfl (hb hby at_19) rfl (l' := (lc137 p1 p2 p3 p4)) rfl ?_
    refine XS.iload X0.here hx rfl (hb hby at_21) rfl ?_
    show oS pP eE below s₁ (mkF mM 23 (lc137 p1 p2 p3 p4) [(.int (7 : Int32))]) _
    refine st_1 _ ?_
    show oS pP eE below T_1 (mkF mM 26 (lc137 p1 p2 p3 p4) [(.ref r)]) _
    refine XS.astore X_1.here hx rfl (hb hby at_26) rfl rfl (l' := (lc138 p1 p2 p3 p4 r)) rfl ?_
    refine XS.iloadN X_1.here hx rfl (hb hby at_28) rfl ?_
    refine XS.bipush X_1.here hx rfl (hb hby at_29) ?_
    show oS pP eE below T_1 (mkF mM 31 (lc138 p1 p2 p3 p4 r) [(.int (31 : Int32)), (.int p3)]) _
    refine XS.iand X_1.here hx rfl (hb hby at_31) rfl ?_
    refine XS.bipush X_1.here hx rfl (hb hby at_32) ?_
    show oS pP eE below T_1 (mkF mM 34 (lc138 p1 p2 p3 p4 r) [(.int (30 : Int32)), (.int (p3 &&& (31 : Int32)))]) _
    refine iremM X_1 hx rfl (hb hby at_34) rfl (by decide) ?_
    show Steps pP.tables eE below (T_1.setTop (mkF mM 35 (lc138 p1 p2 p3 p4 r) [(.int ((p3 &&& (31 : Int32)) % (30 : Int32)))])) _
    rw [hsv]
    refine XS.istore X_1.here hx rfl (hb hby at_35) rfl (l' := (lc139 p1 p2 p3 p4 r sv)) rfl ?_
    show oS pP eE below T_1 (mkF mM 37 (lc139 p1 p2 p3 p4 r sv) []) _
    refine X_1.ldc2J hx hown (mvT hZ (ow hw 7 rfl)) (g := (mkF mM 37 (lc139 p1 p2 p3 p4 r sv) [])) rfl (hb hby at_37) ?_
    refine XS.iloadN X_1.here hx rfl (hb hby at_40) rfl ?_
    show oS pP eE below T_1 (mkF mM 41 (lc139 p1 p2 p3 p4 r sv) [(.int p2), (.long (8388608 : Int64))]) _
    refine X_1.ldcI hx hown (mvT hZ (ow hw 8 rfl)) (g := (mkF mM 41 (lc139 p1 p2 p3 p4 r sv) [(.int p2), (.long (8388608 : Int64))])) rfl (hb hby at_41) ?_
    show oS pP eE below T_1 (mkF mM 43 (lc139 p1 p2 p3 p4 r sv) [(.int (8388607 : Int32)), (.int p2), (.long (8388608 : Int64))]) _
    refine XS.iand X_1.here hx rfl (hb hby at_43) rfl ?_
    show oS pP eE below T_1 (mkF mM 44 (lc139 p1 p2 p3 p4 r sv) [(.int (p2 &&& (8388607 : Int32))), (.long (8388608 : Int64))]) _
    refine XT.i2l X_1.here hx rfl (hb hby at_44) rfl ?_
    show oS pP eE below T_1 (mkF mM 45 (lc139 p1 p2 p3 p4 r sv) [(.long ((p2 &&& (8388607 : Int32)).toInt64)), (.long (8388608 : Int64))]) _
    refine XT.ladd X_1.here hx rfl (hb hby at_45) rfl ?_
    show Steps pP.tables eE below (T_1.setTop (mkF mM 46 (lc139 p1 p2 p3 p4 r sv) [(.long ((8388608 : Int64) + ((p2 &&& (8388607 : Int32)).toInt64)))])) _
    rw [hmv]
    refine XT.lstore X_1.here hx rfl (hb hby at_46) rfl (l' := (lc140 p1 p2 p3 p4 r sv mv)) rfl ?_
    refine XT.lloadN X_1.here hx rfl (hb hby at_48) rfl ?_
    refine XT.lconst X_1.here hx rfl (hb hby at_49) ?_
    refine XS.iload X_1.here hx rfl (hb hby at_50) rfl ?_
    show oS pP eE below T_1 (mkF mM 52 (lc140 p1 p2 p3 p4 r sv mv) [(.int sv), (.long (1 : Int64)), (.long p4)]) _
    refine XT.lshl X_1.here hx rfl (hb hby at_52) rfl ?_
    refine XT.lconst X_1.here hx rfl (hb hby at_53) ?_
    show oS pP eE below T_1 (mkF mM 54 (lc140 p1 p2 p3 p4 r sv mv) [(.long (1 : Int64)), (.long ((1 : Int64) <<< (sv.toInt64 &&& 63))), (.long p4)]) _
    refine XT.lsub X_1.here hx rfl (hb hby at_54) rfl ?_
    show oS pP eE below T_1 (mkF mM 55 (lc140 p1 p2 p3 p4 r sv mv) [(.long (((1 : Int64) <<< (sv.toInt64 &&& 63)) - (1 : Int64))), (.long p4)]) _
    refine XT.land X_1.here hx rfl (hb hby at_55) rfl ?_
    show Steps pP.tables eE below (T_1.setTop (mkF mM 56 (lc140 p1 p2 p3 p4 r sv mv) [(.long (p4 &&& (((1 : Int64) <<< (sv.toInt64 &&& 63)) - (1 : Int64))))])) _
    rw [hrv]
    refine XT.lstore X_1.here hx rfl (hb hby at_56) rfl (l' := (lc141 p1 p2 p3 p4 r sv mv rv)) rfl ?_
    refine XT.lload X_1.here hx rfl (hb hby at_58) rfl ?_
    refine XS.iload X_1.here hx rfl (hb hby at_60) rfl ?_
    show oS pP eE below T_1 (mkF mM 62 (lc141 p1 p2 p3 p4 r sv mv rv) [(.int sv), (.long mv)]) _
    refine XT.lshl X_1.here hx rfl (hb hby at_62) rfl ?_
    refine XT.lload X_1.here hx rfl (hb hby at_63) rfl ?_
    show oS pP eE below T_1 (mkF mM 65 (lc141 p1 p2 p3 p4 r sv mv rv) [(.long rv), (.long (mv <<< (sv.toInt64 &&& 63)))]) _
    refine XT.ladd X_1.here hx rfl (hb hby at_65) rfl ?_
    show Steps pP.tables eE below (T_1.setTop (mkF mM 66 (lc141 p1 p2 p3 p4 r sv mv rv) [(.long ((mv <<< (sv.toInt64 &&& 63)) + rv))])) _
    rw [hvv]
    refine XT.lstore X_1.here hx rfl (hb hby at_66) rfl (l' := (lc142 p1 p2 p3 p4 r sv mv rv vv)) rfl ?_
    refine XS.iload X_1.here hx rfl (hb hby at_68) rfl ?_
    refine XS.ifYes X_1.here hx rfl (pc0 := 70) (pc' := 80) rfl (hb hby at_70) rfl (by decide) (by decide) (by decide) ?_
    refine XT.lload X_1.here hx rfl (hb hby at_80) rfl ?_
    show oS pP eE below T_1 (mkF mM 82 (lc142 p1 p2 p3 p4 r sv mv rv vv) [(.long vv)]) _
    refine XS.l2dS X_1.here hx rfl (hb hby at_82) rfl rfl ?_
    show oS pP eE below T_1 (mkF mM 83 (lc142 p1 p2 p3 p4 r sv mv rv vv) [(.double (FP.l2d vv))]) _
    refine XS.dstore X_1.here hx rfl (hb hby at_83) rfl (l' := (lc143 p1 p2 p3 p4 r sv mv rv vv)) rfl ?_
    refine XS.aload X_1.here hx rfl (hb hby at_85) rfl rfl ?_
    show oS pP eE below T_1 (mkF mM 87 (lc143 p1 p2 p3 p4 r sv mv rv vv) [(.ref r)]) _
    refine XS.dload X_1.here hx rfl (hb hby at_87) rfl ?_
    show oS pP eE below T_1 (mkF mM 89 (lc143 p1 p2 p3 p4 r sv mv rv vv) [(.double (FP.l2d vv)), (.ref r)]) _
    refine st_2.trans ?_
    show oS pP eE below T_2 (mkF mM 92 (lc143 p1 p2 p3 p4 r sv mv rv vv) [(.double (FP.l2d vv))]) _
    refine XS.dstore X_2.here hx rfl (hb hby at_92) rfl (l' := (lc144 p1 p2 p3 p4 r sv mv rv vv)) rfl ?_
    refine XS.iload X_2.here hx rfl (hb hby at_94) rfl ?_
    refine XS.bipush X_2.here hx rfl (hb hby at_96) ?_
    refine XS.icmpNo X_2.here hx rfl (hb hby at_98) rfl (by decide) ?_
    show oS pP eE below T_2 (mkF mM 101 (lc144 p1 p2 p3 p4 r sv mv rv vv) []) _
    refine XS.dload X_2.here hx rfl (hb hby at_101) rfl ?_
    show oS pP eE below T_2 (mkF mM 103 (lc144 p1 p2 p3 p4 r sv mv rv vv) [(.double (FP.l2d vv))]) _
    refine XS.dload X_2.here hx rfl (hb hby at_103) rfl ?_
    show oS pP eE below T_2 (mkF mM 105 (lc144 p1 p2 p3 p4 r sv mv rv vv) [(.double (FP.l2d vv)), (.double (FP.l2d vv))]) _
    refine XS.dcmpS X_2.here hx rfl (hb hby at_105) rfl rfl ?_
    refine XS.ifNo X_2.here hx rfl (hb hby at_106) rfl (XT.i0_ne_f (dcmpV_self hnn .l)) ?_
    refine XS.iconst X_2.here hx rfl (hb hby at_109) ?_
    refine XS.goto X_2.here hx rfl (pc0 := 110) (pc' := 114) rfl (hb hby at_110) (by decide) (by decide) ?_
    show oS pP eE below T_2 (mkF mM 114 (lc144 p1 p2 p3 p4 r sv mv rv vv) [(.int (1 : Int32))]) _
    exact retN X_2 hx (t := .boolean) Bd.returns (by simp) (hb hby at_114) hr
  · show Q_law70 Z p1 p2 p3 p4 sv mv rv vv r fl h0 n0 _ T_2.heap _
    exact ⟨rfl, N_2⟩
abbrev lc145 (p1 : Int32) (p2 : Int32) (p3 : Int32) (p4 : Int64) : Array Slot := #[.val (.int p1), .val (.int p2), .val (.int p3), .val (.long p4), .second, .val (.int (7 : Int32)), .val (.int (1 : Int32)), .unset, .unset, .unset, .unset, .unset, .unset, .unset, .unset, .unset, .unset, .unset, .unset, .unset, .unset, .unset, .unset, .unset, .unset]
abbrev lc146 (p1 : Int32) (p2 : Int32) (p3 : Int32) (p4 : Int64) (r : Addr) : Array Slot := #[.val (.int p1), .val (.int p2), .val (.int p3), .val (.long p4), .second, .val (.int (7 : Int32)), .val (.int (1 : Int32)), .val (.ref r), .unset, .unset, .unset, .unset, .unset, .unset, .unset, .unset, .unset, .unset, .unset, .unset, .unset, .unset, .unset, .unset, .unset]
abbrev lc147 (p1 : Int32) (p2 : Int32) (p3 : Int32) (p4 : Int64) (r : Addr) (sv : Int32) : Array Slot := #[.val (.int p1), .val (.int p2), .val (.int p3), .val (.long p4), .second, .val (.int (7 : Int32)), .val (.int (1 : Int32)), .val (.ref r), .val (.int sv), .unset, .unset, .unset, .unset, .unset, .unset, .unset, .unset, .unset, .unset, .unset, .unset, .unset, .unset, .unset, .unset]
abbrev lc148 (p1 : Int32) (p2 : Int32) (p3 : Int32) (p4 : Int64) (r : Addr) (sv : Int32) (mv : Int64) : Array Slot := #[.val (.int p1), .val (.int p2), .val (.int p3), .val (.long p4), .second, .val (.int (7 : Int32)), .val (.int (1 : Int32)), .val (.ref r), .val (.int sv), .val (.long mv), .second, .unset, .unset, .unset, .unset, .unset, .unset, .unset, .unset, .unset, .unset, .unset, .unset, .unset, .unset]
abbrev lc149 (p1 : Int32) (p2 : Int32) (p3 : Int32) (p4 : Int64) (r : Addr) (sv : Int32) (mv : Int64) (rv : Int64) : Array Slot := #[.val (.int p1), .val (.int p2), .val (.int p3), .val (.long p4), .second, .val (.int (7 : Int32)), .val (.int (1 : Int32)), .val (.ref r), .val (.int sv), .val (.long mv), .second, .val (.long rv), .second, .unset, .unset, .unset, .unset, .unset, .unset, .unset, .unset, .unset, .unset, .unset, .unset]
abbrev lc150 (p1 : Int32) (p2 : Int32) (p3 : Int32) (p4 : Int64) (r : Addr) (sv : Int32) (mv : Int64) (rv : Int64) (vv : Int64) : Array Slot := #[.val (.int p1), .val (.int p2), .val (.int p3), .val (.long p4), .second, .val (.int (7 : Int32)), .val (.int (1 : Int32)), .val (.ref r), .val (.int sv), .val (.long mv), .second, .val (.long rv), .second, .val (.long vv), .second, .unset, .unset, .unset, .unset, .unset, .unset, .unset, .unset, .unset, .unset]
abbrev lc151 (p1 : Int32) (p2 : Int32) (p3 : Int32) (p4 : Int64) (r : Addr) (sv : Int32) (mv : Int64) (rv : Int64) (vv : Int64) : Array Slot := #[.val (.int p1), .val (.int p2), .val (.int p3), .val (.long p4), .second, .val (.int (7 : Int32)), .val (.int (1 : Int32)), .val (.ref r), .val (.int sv), .val (.long mv), .second, .val (.long rv), .second, .val (.long vv), .second, .val (.double (FP.dneg (FP.l2d vv))), .second, .unset, .unset, .unset, .unset, .unset, .unset, .unset, .unset]
abbrev lc152 (p1 : Int32) (p2 : Int32) (p3 : Int32) (p4 : Int64) (r : Addr) (sv : Int32) (mv : Int64) (rv : Int64) (vv : Int64) : Array Slot := #[.val (.int p1), .val (.int p2), .val (.int p3), .val (.long p4), .second, .val (.int (7 : Int32)), .val (.int (1 : Int32)), .val (.ref r), .val (.int sv), .val (.long mv), .second, .val (.long rv), .second, .val (.long vv), .second, .val (.double (FP.dneg (FP.l2d vv))), .second, .val (.double (FP.dneg (FP.l2d vv))), .second, .unset, .unset, .unset, .unset, .unset, .unset]
theorem ef_law71 (mM : MethodId) (x0 : Int32) (x1 : Int32) (x2 : Int32) (x3 : Int64) : entryFrame mM #[(.int x0), (.int x1), (.int x2), (.long x3)] maxLocals = mkF mM 0 #[.val (.int x0), .val (.int x1), .val (.int x2), .val (.long x3), .second, .unset, .unset, .unset, .unset, .unset, .unset, .unset, .unset, .unset, .unset, .unset, .unset, .unset, .unset, .unset, .unset, .unset, .unset, .unset, .unset] [] := by first | (simp [entryFrame, mkF, argsToLocals, Value.category, maxLocals]; done) | rfl
def Q_law71 (Z : State) (p1 : Int32) (p2 : Int32) (p3 : Int32) (p4 : Int64) (sv : Int32) (mv : Int64) (rv : Int64) (vv : Int64) (r : Addr) (fl : Addr) (h0 : Heap) (n0 : Nat) (v_ : Option Value) (h_ : Heap) (L_ : List Loc) : Prop := v_ = some (.int (1 : Int32)) ∧ Fr n0 L_
set_option maxRecDepth 65536 in
set_option maxHeartbeats 40000000 in
theorem rm_law71 (l : Launch) (Z : State) (a0 : Array Value) (hw : ∀ d ∈ tables_1, d.before a0 Z = true) (ws : List Jvm.Cond) (p1 : Int32) (p2 : Int32) (p3 : Int32) (p4 : Int64) (sv : Int32) (mv : Int64) (rv : Int64) (vv : Int64) (r : Addr) (fl : Addr) (h0 : Heap) (n0 : Nat) (Z0 : n0 ≤ h0.size) (hk : (p1 &&& (7 : Int32)) = (7 : Int32)) (hg : ¬ ((p1 >>> ((3 : Int32) &&& 31)) &&& (1 : Int32)) = 0) (hsv : ((p3 &&& (31 : Int32)) % (30 : Int32)) = sv) (hmv : ((8388608 : Int64) + ((p2 &&& (8388607 : Int32)).toInt64)) = mv) (hrv : (p4 &&& (((1 : Int64) <<< (sv.toInt64 &&& 63)) - (1 : Int64))) = rv) (hvv : ((mv <<< (sv.toInt64 &&& 63)) + rv) = vv) (hnn : Jvm.Free.Fl.NoNaN64 (FP.dneg (FP.l2d vv))) (S_SampleType_FLOAT64 : Sta Z h0 "com/example/greenweft/greenweft/map/SampleType" "FLOAT64" "Lcom/example/greenweft/greenweft/map/SampleType;" (.ref r)) (S_SampleType_FLOAT32 : Sta Z h0 "com/example/greenweft/greenweft/map/SampleType" "FLOAT32" "Lcom/example/greenweft/greenweft/map/SampleType;" (.ref fl)) (n1 : r ≠ fl) (E_r : Exa Z h0 r "com/example/greenweft/greenweft/map/SampleType") :
    MetFree l x (head1 (Jvm.Cond.code x code maxLocals ret :: ws) room_1) (fun aa_ U_ => aa_ = #[(.int p1), (.int p2), (.int p3), (.long p4)] ∧ Z.Warmed39 U_.vm ∧ U_.heap = h0) (fun _ _ _ _ _ => True) (fun _ U_ o_ U'_ => ∃ v_ L_, o_ = .returned v_ ∧ Q_law71 Z p1 p2 p3 p4 sv mv rv vv r fl h0 n0 v_ U'_.heap L_ ∧ FrameEnd U_ o_ U'_ L_ 0 0) := by
  refine MetFree.of_bodySF (plainFor_of_name pn_0) hisR ?_
  intro pP eE sS mM argsA below meth cC s₁ Bd hml0 hP hK
  obtain ⟨rfl, hZ, hh⟩ := hP
  have hx := Bd.exec
  have hby := Bd.bytes
  have hml : cC.maxLocals = 25 := hml0
  have hown : sS.vm.findClass "com/example/greenweft/greenweft/map/SampleTypeStoredPinLaw" = some mM.cls := findClass_of_methodNamed Bd.named
  have hnm := (name_of_methodNamed Bd.named Bd.method).1
  have X0 : Stand pP l eE room_1 sS mM #[(.int p1), (.int p2), (.int p3), (.long p4)] below meth cC s₁ [] 0 0 := Stand.of_body Bd
  have e0 : s₁.heap = h0 := by rw [← hh, Bd.state]; rfl
  have N0 := Fr.nil n0
  have pre0 : ∀ t_, Steps pP.tables eE below (s₁.setTop (mkF mM 0 #[.val (.int p1), .val (.int p2), .val (.int p3), .val (.long p4), .second, .unset, .unset, .unset, .unset, .unset, .unset, .unset, .unset, .unset, .unset, .unset, .unset, .unset, .unset, .unset, .unset, .unset, .unset, .unset, .unset] [])) t_ → Steps pP.tables eE below (s₁.setTop (entryFrame mM #[(.int p1), (.int p2), (.int p3), (.long p4)] maxLocals)) t_ := fun t_ k_ => castTop (ef_law71 mM p1 p2 p3 p4) k_
  obtain ⟨_, _, ⟨T_1, L_1, k_1, n_1⟩, -, X_1, ⟨Lc_1, hQ_1, l_1, y_1, z_1⟩, st_1⟩ := Jvm.LawKit.callS X0 hx (y := MN0) hown (mvT hZ (ow hw 0 rfl)) (mvT hZ (ow hw 1 rfl)) (mvT hZ (ow hw 2 rfl)) (mvT hZ (ow hw 3 rfl)) (by decide) (backOf (W := 0) (rm_pick7 l Z a0 hw [] r h0 n0 Z0 S_SampleType_FLOAT64) hZ (ow hw 3 rfl) (ow hw 2 rfl) (by decide) (by decide)) (g := (mkF mM 23 (lc145 p1 p2 p3 p4) [(.int (7 : Int32))])) rfl (by rw [hml]; rfl) (argsL := [(.int (7 : Int32))]) (rest := []) (lenOf pd_0 rfl) rfl (by show 2 * 0 + _ ≤ _; exact Nat.le_of_eq rfl) (hb hby at_23) (fun _ _ => ⟨rfl, e0, (by decide : 0 + 0 ≤ _), (by decide : 0 + 0 ≤ _)⟩)
  dsimp only [Pt.U, Pt.locs, Pt.cells, Pt.slots] at X_1 l_1 y_1 z_1 st_1 hQ_1
  subst l_1 y_1 z_1
  obtain ⟨rfl, N_1q, eh_1⟩ := hQ_1
  have N_1 := Fr.app N0 N_1q
  obtain ⟨cq_2, kq_2, q_2a, q_2b, q_2c⟩ := isOf hZ eh_1 E_r
  obtain ⟨_, _, ⟨T_2, L_2, k_2, n_2⟩, -, X_2, ⟨Lc_2, hQ_2, l_2, y_2, z_2⟩, st_2⟩ := X_1.virtualBack hx (y := MN1) (z := MN1) hown (mvT hZ (ow hw 9 rfl)) (mvT hZ (ow hw 10 rfl)) (notFace_of_selects (args := #[]) (mvT hZ (ow hw 12 rfl))) (mvT hZ (ow hw 12 rfl)) (mvT hZ (ow hw 11 rfl)) (by decide) (backOf (W := 0) (rm_sto l Z a0 hw [] r fl (FP.dneg (FP.l2d vv)) h0 n0 Z0 S_SampleType_FLOAT32 n1) hZ (ow hw 13 rfl) (ow hw 5 rfl) (by decide) (by decide)) q_2a q_2c (g := (mkF mM 89 (lc151 p1 p2 p3 p4 r sv mv rv vv) [(.double (FP.dneg (FP.l2d vv))), (.ref r)])) rfl (by rw [hml]; rfl) (Steps.refl _) (argsL := [(.double (FP.dneg (FP.l2d vv)))]) (rest := []) (lenOf pd_1 rfl) rfl (by show 2 * 0 + _ ≤ _; exact Nat.le_of_eq rfl) (hb hby at_89) (fun _ _ => ⟨rfl, eh_1, (by decide : 0 + 0 ≤ _), (by decide : 0 + 0 ≤ _)⟩)
  dsimp only [Pt.U, Pt.locs, Pt.cells, Pt.slots] at X_2 l_2 y_2 z_2 st_2 hQ_2
  subst l_2 y_2 z_2
  obtain ⟨rfl, N_2q, eh_2⟩ := hQ_2
  have N_2 := Fr.app N_1 N_2q
  obtain ⟨fs, hr, hrun, hended, hW, hsame⟩ := X_2.leave (v := some (.int (1 : Int32))) (fun h => by rw [Bd.returns] at h; cases h)
  refine ⟨_, _, pre0 _ ?_, hrun, hended, _, _, rfl, ?_, ⟨_, rfl⟩, hW, hsame.mono (by decide) (by decide)⟩
  · show oS pP eE below s₁ (mkF mM 0 (lc0 p1 p2 p3 p4) []) _
    refine XS.iloadN X0.here hx rfl (hb hby at_0) rfl ?_
    refine XS.bipush X0.here hx rfl (hb hby at_1) ?_
    show oS pP eE below s₁ (mkF mM 3 (lc0 p1 p2 p3 p4) [(.int (7 : Int32)), (.int p1)]) _
    refine XS.iand X0.here hx rfl (hb hby at_3) rfl ?_
    show Steps pP.tables eE below (s₁.setTop (mkF mM 4 (lc0 p1 p2 p3 p4) [(.int (p1 &&& (7 : Int32)))])) _
    rw [hk]
    refine XS.istore X0.here hx rfl (hb hby at_4) rfl (l' := (lc136 p1 p2 p3 p4)) rfl ?_
    refine XS.iloadN X0.here hx rfl (hb hby at_6) rfl ?_
    refine XS.iconst X0.here hx rfl (hb hby at_7) ?_
    show oS pP eE below s₁ (mkF mM 8 (lc136 p1 p2 p3 p4) [(.int (3 : Int32)), (.int p1)]) _
    refine XT.ishr X0.here hx rfl (hb hby at_8) rfl ?_
    refine XS.iconst X0.here hx rfl (hb hby at_9) ?_
    show oS pP eE below s₁ (mkF mM 10 (lc136 p1 p2 p3 p4) [(.int (1 : Int32)), (.int (p1 >>> ((3 : Int32) &&& 31)))]) _
    refine XS.iand X0.here hx rfl (hb hby at_10) rfl ?_
    refine XS.ifNo X0.here hx rfl (hb hby at_11) rfl (XT.i0_eq_f hg) ?_
    refine XS.iconst X0.here hx rfl (hb hby at_14) ?_
    refine XS.goto X0.here hx rfl (pc0 := 15) (pc' := 19) rfl (hb hby at_15) (by decide) (by decide) ?_
    refine XS.istore X0.here hx rfl (hb hby at_19) rfl (l' := (lc145 p1 p2 p3 p4)) rfl ?_
    refine XS.iload X0.here hx rfl (hb hby at_21) rfl ?_
    show oS pP eE below s₁ (mkF mM 23 (lc145 p1 p2 p3 p4) [(.int (7 : Int32))]) _
    refine st_1 _ ?_
    show oS pP eE below T_1 (mkF mM 26 (lc145 p1 p2 p3 p4) [(.ref r)]) _
    refine XS.astore X_1.here hx rfl (hb hby at_26) rfl rfl (l' := (lc146 p1 p2 p3 p4 r)) rfl ?_
    refine XS.iloadN X_1.here hx rfl (hb hby at_28) rfl ?_
    refine XS.bipush X_1.here hx rfl (hb hby at_29) ?_
    show oS pP eE below T_1 (mkF mM 31 (lc146 p1 p2 p3 p4 r) [(.int (31 : Int32)), (.int p3)]) _
    refine XS.iand X_1.here hx rfl (hb hby at_31) rfl ?_
    refine XS.bipush X_1.here hx rfl (hb hby at_32) ?_
    show oS pP eE below T_1 (mkF mM 34 (lc146 p1 p2 p3 p4 r) [(.int (30 : Int32)), (.int (p3 &&& (31 : Int32)))]) _
    refine iremM X_1 hx rfl (hb hby at_34) rfl (by decide) ?_
    show Steps pP.tables eE below (T_1.setTop (mkF mM 35 (lc146 p1 p2 p3 p4 r) [(.int ((p3 &&& (31 : Int32)) % (30 : Int32)))])) _
    rw [hsv]
    refine XS.istore X_1.here hx rfl (hb hby at_35) rfl (l' := (lc147 p1 p2 p3 p4 r sv)) rfl ?_
    show oS pP eE below T_1 (mkF mM 37 (lc147 p1 p2 p3 p4 r sv) []) _
    refine X_1.ldc2J hx hown (mvT hZ (ow hw 7 rfl)) (g := (mkF mM 37 (lc147 p1 p2 p3 p4 r sv) [])) rfl (hb hby at_37) ?_
    refine XS.iloadN X_1.here hx rfl (hb hby at_40) rfl ?_
    show oS pP eE below T_1 (mkF mM 41 (lc147 p1 p2 p3 p4 r sv) [(.int p2), (.long (8388608 : Int64))]) _
    refine X_1.ldcI hx hown (mvT hZ (ow hw 8 rfl)) (g := (mkF mM 41 (lc147 p1 p2 p3 p4 r sv) [(.int p2), (.long (8388608 : Int64))])) rfl (hb hby at_41) ?_
    show oS pP eE below T_1 (mkF mM 43 (lc147 p1 p2 p3 p4 r sv) [(.int (8388607 : Int32)), (.int p2), (.long (8388608 : Int64))]) _
    refine XS.iand X_1.here hx rfl (hb hby at_43) rfl ?_
    show oS pP eE below T_1 (mkF mM 44 (lc147 p1 p2 p3 p4 r sv) [(.int (p2 &&& (8388607 : Int32))), (.long (8388608 : Int64))]) _
    refine XT.i2l X_1.here hx rfl (hb hby at_44) rfl ?_
    show oS pP eE below T_1 (mkF mM 45 (lc147 p1 p2 p3 p4 r sv) [(.long ((p2 &&& (8388607 : Int32)).toInt64)), (.long (8388608 : Int64))]) _
    refine XT.ladd X_1.here hx rfl (hb hby at_45) rfl ?_
    show Steps pP.tables eE below (T_1.setTop (mkF mM 46 (lc147 p1 p2 p3 p4 r sv) [(.long ((8388608 : Int64) + ((p2 &&& (8388607 : Int32)).toInt64)))])) _
    rw [hmv]
    refine XT.lstore X_1.here hx rfl (hb hby at_46) rfl (l' := (lc148 p1 p2 p3 p4 r sv mv)) rfl ?_
    refine XT.lloadN X_1.here hx rfl (hb hby at_48) rfl ?_
    refine XT.lconst X_1.here hx rfl (hb hby at_49) ?_
    refine XS.iload X_1.here hx rfl (hb hby at_50) rfl ?_
    show oS pP eE below T_1 (mkF mM 52 (lc148 p1 p2 p3 p4 r sv mv) [(.int sv), (.long (1 : Int64)), (.long p4)]) _
    refine XT.lshl X_1.here hx rfl (hb hby at_52) rfl ?_
    refine XT.lconst X_1.here hx rfl (hb hby at_53) ?_
    show oS pP eE below T_1 (mkF mM 54 (lc148 p1 p2 p3 p4 r sv mv) [(.long (1 : Int64)), (.long ((1 : Int64) <<< (sv.toInt64 &&& 63))), (.long p4)]) _
    refine XT.lsub X_1.here hx rfl (hb hby at_54) rfl ?_
    show oS pP eE below T_1 (mkF mM 55 (lc148 p1 p2 p3 p4 r sv mv) [(.long (((1 : Int64) <<< (sv.toInt64 &&& 63)) - (1 : Int64))), (.long p4)]) _
    refine XT.land X_1.here hx rfl (hb hby at_55) rfl ?_
    show Steps pP.tables eE below (T_1.setTop (mkF mM 56 (lc148 p1 p2 p3 p4 r sv mv) [(.long (p4 &&& (((1 : Int64) <<< (sv.toInt64 &&& 63)) - (1 : Int64))))])) _
    rw [hrv]
    refine XT.lstore X_1.here hx rfl (hb hby at_56) rfl (l' := (lc149 p1 p2 p3 p4 r sv mv rv)) rfl ?_
    refine XT.lload X_1.here hx rfl (hb hby at_58) rfl ?_
    refine XS.iload X_1.here hx rfl (hb hby at_60) rfl ?_
    show oS pP eE below T_1 (mkF mM 62 (lc149 p1 p2 p3 p4 r sv mv rv) [(.int sv), (.long mv)]) _
    refine XT.lshl X_1.here hx rfl (hb hby at_62) rfl ?_
    refine XT.lload X_1.here hx rfl (hb hby at_63) rfl ?_
    show oS pP eE below T_1 (mkF mM 65 (lc149 p1 p2 p3 p4 r sv mv rv) [(.long rv), (.long (mv <<< (sv.toInt64 &&& 63)))]) _
    refine XT.ladd X_1.here hx rfl (hb hby at_65) rfl ?_
    show Steps pP.tables eE below (T_1.setTop (mkF mM 66 (lc149 p1 p2 p3 p4 r sv mv rv) [(.long ((mv <<< (sv.toInt64 &&& 63)) + rv))])) _
    rw [hvv]
    refine XT.lstore X_1.here hx rfl (hb hby at_66) rfl (l' := (lc150 p1 p2 p3 p4 r sv mv rv vv)) rfl ?_
    refine XS.iload X_1.here hx rfl (hb hby at_68) rfl ?_
    refine XS.ifNo X_1.here hx rfl (hb hby at_70) rfl (by decide) ?_
    refine XT.lload X_1.here hx rfl (hb hby at_73) rfl ?_
    show oS pP eE below T_1 (mkF mM 75 (lc150 p1 p2 p3 p4 r sv mv rv vv) [(.long vv)]) _
    refine XS.l2dS X_1.here hx rfl (hb hby at_75) rfl rfl ?_
    show oS pP eE below T_1 (mkF mM 76 (lc150 p1 p2 p3 p4 r sv mv rv vv) [(.double (FP.l2d vv))]) _
    refine XS.dnegS X_1.here hx rfl (hb hby at_76) rfl rfl ?_
    refine XS.goto X_1.here hx rfl (pc0 := 77) (pc' := 83) rfl (hb hby at_77) (by decide) (by decide) ?_
    show oS pP eE below T_1 (mkF mM 83 (lc150 p1 p2 p3 p4 r sv mv rv vv) [(.double (FP.dneg (FP.l2d vv)))]) _
    refine XS.dstore X_1.here hx rfl (hb hby at_83) rfl (l' := (lc151 p1 p2 p3 p4 r sv mv rv vv)) rfl ?_
    refine XS.aload X_1.here hx rfl (hb hby at_85) rfl rfl ?_
    show oS pP eE below T_1 (mkF mM 87 (lc151 p1 p2 p3 p4 r sv mv rv vv) [(.ref r)]) _
    refine XS.dload X_1.here hx rfl (hb hby at_87) rfl ?_
    show oS pP eE below T_1 (mkF mM 89 (lc151 p1 p2 p3 p4 r sv mv rv vv) [(.double (FP.dneg (FP.l2d vv))), (.ref r)]) _
    refine st_2.trans ?_
    show oS pP eE below T_2 (mkF mM 92 (lc151 p1 p2 p3 p4 r sv mv rv vv) [(.double (FP.dneg (FP.l2d vv)))]) _
    refine XS.dstore X_2.here hx rfl (hb hby at_92) rfl (l' := (lc152 p1 p2 p3 p4 r sv mv rv vv)) rfl ?_
    refine XS.iload X_2.here hx rfl (hb hby at_94) rfl ?_
    refine XS.bipush X_2.here hx rfl (hb hby at_96) ?_
    refine XS.icmpNo X_2.here hx rfl (hb hby at_98) rfl (by decide) ?_
    show oS pP eE below T_2 (mkF mM 101 (lc152 p1 p2 p3 p4 r sv mv rv vv) []) _
    refine XS.dload X_2.here hx rfl (hb hby at_101) rfl ?_
    show oS pP eE below T_2 (mkF mM 103 (lc152 p1 p2 p3 p4 r sv mv rv vv) [(.double (FP.dneg (FP.l2d vv)))]) _
    refine XS.dload X_2.here hx rfl (hb hby at_103) rfl ?_
    show oS pP eE below T_2 (mkF mM 105 (lc152 p1 p2 p3 p4 r sv mv rv vv) [(.double (FP.dneg (FP.l2d vv))), (.double (FP.dneg (FP.l2d vv)))]) _
    refine XS.dcmpS X_2.here hx rfl (hb hby at_105) rfl rfl ?_
    refine XS.ifNo X_2.here hx rfl (hb hby at_106) rfl (XT.i0_ne_f (dcmpV_self hnn .l)) ?_
    refine XS.iconst X_2.here hx rfl (hb hby at_109) ?_
    refine XS.goto X_2.here hx rfl (pc0 := 110) (pc' := 114) rfl (hb hby at_110) (by decide) (by decide) ?_
    show oS pP eE below T_2 (mkF mM 114 (lc152 p1 p2 p3 p4 r sv mv rv vv) [(.int (1 : Int32))]) _
    exact retN X_2 hx (t := .boolean) Bd.returns (by simp) (hb hby at_114) hr
  · show Q_law71 Z p1 p2 p3 p4 sv mv rv vv r fl h0 n0 _ T_2.heap _
    exact ⟨rfl, N_2⟩
set_option maxRecDepth 65536 in
set_option maxHeartbeats 40000000 in
theorem comes_1 {Post : Tables → Env → Array Value → State → Outcome → State → Prop} (hpost : ∀ tb e args s v u, (limb_1_1.after args s (.returned v) u = true ∧ limb_1_2.after args s (.returned v) u = true ∧ True) → FrameEnd s (.returned v) u (Jvm.fieldLocs frame_1_writes args s ++ Jvm.arrayLocs frame_1_arrays args s ++ Jvm.staticLocs frame_1_statics s) 0 0 → Post tb e args s (.returned v) u) :
    ArmFor flags0 classFile x code maxLocals ret World_1 tables_1 room_1 Calls_1 rest_1 Pre_1 Post := by
  intro l hfl _ _ p e ha hc hk s m args below hf hA hF happ hP
  obtain ⟨hcalls, hrest, hpre⟩ := hP
  obtain ⟨-, -, -, hnamed, -, -, -, hat⟩ := (Spec.applies_iff hf).mp happ
  obtain ⟨hg, hn⟩ := and_e (Cond.before_iff.mp (show (Jvm.Cond.and given_1 narrow_1).before args s = true from hpre))
  obtain ⟨hg1, hg2⟩ := and_e hg
  obtain ⟨hg3, hg4⟩ := and_e hg2
  obtain ⟨hg5, hg6⟩ := and_e hg4
  obtain ⟨hg7, hg8⟩ := and_e hg6
  obtain ⟨w0, w1, w2, w3, rfl⟩ : ∃ w0 w1 w2 w3 : Value, args = #[w0, w1, w2, w3] := by
    have hs : args.size = 4 := by simpa [Cond.value, given_1] using hg1
    obtain ⟨L⟩ := args
    match L, hs with
    | [w0, w1, w2, w3], _ => exact ⟨w0, w1, w2, w3, rfl⟩
  obtain ⟨i0, ei0⟩ := is_v hg3
  obtain rfl : w0 = (.int i0) := Option.some.inj ei0
  obtain ⟨i1, ei1⟩ := is_v hg5
  obtain rfl : w1 = (.int i1) := Option.some.inj ei1
  obtain ⟨i2, ei2⟩ := is_v hg7
  obtain rfl : w2 = (.int i2) := Option.some.inj ei2
  obtain ⟨i3, ei3⟩ := isL_v hg8
  obtain rfl : w3 = (.long i3) := Option.some.inj ei3
  have hw := fun d (hd : d ∈ tables_1) => atoms_spec (ws := Jvm.Cond.code x code maxLocals ret :: tables_1) hat d (List.mem_cons_of_mem _ hd)
  have hfit : Fit s := fun {y c} hc i hi => by
    obtain ⟨ha, rfl⟩ := Array.getElem?_eq_some_iff.mp hc
    have q := List.all_eq_true.mp ((Array.all_eq_true_iff_forall_mem.mp hF) _ (Array.getElem_mem ha)) i (List.mem_range.mpr hi)
    simpa [Array.getElem?_eq_getElem hi] using q
  obtain ⟨hn1, hn2⟩ := and_e hn
  obtain ⟨hn3, hn4⟩ := and_e hn2
  obtain ⟨hn5, hn6⟩ := and_e hn4
  obtain ⟨hn7, hn8⟩ := and_e hn6
  obtain ⟨hn9, hn10⟩ := and_e hn8
  obtain ⟨hn11, hn12⟩ := and_e hn10
  obtain ⟨hn13, hn14⟩ := and_e hn12
  obtain ⟨hn15, hn16⟩ := and_e hn14
  obtain ⟨hn17, hn18⟩ := and_e hn16
  obtain ⟨hn19, hn20⟩ := and_e hn18
  obtain ⟨hn21, hn22⟩ := and_e hn20
  obtain ⟨hn23, hn24⟩ := and_e hn22
  obtain ⟨hn25, hn26⟩ := and_e hn24
  obtain ⟨hn27, hn28⟩ := and_e hn26
  obtain ⟨hn29, hn30⟩ := and_e hn28
  obtain ⟨x_SampleType_UINT8, ev_x_SampleType_UINT8⟩ := exa_v hn1
  have E_x_SampleType_UINT8 := Exa.start ev_x_SampleType_UINT8 hn1
  have S_SampleType_UINT8 := Sta.start ev_x_SampleType_UINT8 (Or.inr ⟨(ow hw 5 rfl), (ow hw 6 rfl)⟩)
  obtain ⟨x_SampleType_FLOAT32, ev_x_SampleType_FLOAT32⟩ := exa_v hn3
  have E_x_SampleType_FLOAT32 := Exa.start ev_x_SampleType_FLOAT32 hn3
  have S_SampleType_FLOAT32 := Sta.start ev_x_SampleType_FLOAT32 (Or.inr ⟨(ow hw 5 rfl), (ow hw 15 rfl)⟩)
  have F_x_SampleType_UINT8_ordinal := own_fld ev_x_SampleType_UINT8 (own_eqi hn5)
  have F_x_SampleType_FLOAT32_ordinal := own_fld ev_x_SampleType_FLOAT32 (own_eqi hn7)
  obtain ⟨x_SampleType_UINT32, ev_x_SampleType_UINT32⟩ := exa_v hn9
  have E_x_SampleType_UINT32 := Exa.start ev_x_SampleType_UINT32 hn9
  have S_SampleType_UINT32 := Sta.start ev_x_SampleType_UINT32 (Or.inr ⟨(ow hw 5 rfl), (ow hw 17 rfl)⟩)
  have F_x_SampleType_UINT32_ordinal := own_fld ev_x_SampleType_UINT32 (own_eqi hn11)
  obtain ⟨x_SampleType_UINT16, ev_x_SampleType_UINT16⟩ := exa_v hn13
  have E_x_SampleType_UINT16 := Exa.start ev_x_SampleType_UINT16 hn13
  have S_SampleType_UINT16 := Sta.start ev_x_SampleType_UINT16 (Or.inr ⟨(ow hw 5 rfl), (ow hw 19 rfl)⟩)
  have F_x_SampleType_UINT16_ordinal := own_fld ev_x_SampleType_UINT16 (own_eqi hn15)
  obtain ⟨x_SampleType_INT16, ev_x_SampleType_INT16⟩ := exa_v hn17
  have E_x_SampleType_INT16 := Exa.start ev_x_SampleType_INT16 hn17
  have S_SampleType_INT16 := Sta.start ev_x_SampleType_INT16 (Or.inr ⟨(ow hw 5 rfl), (ow hw 21 rfl)⟩)
  have F_x_SampleType_INT16_ordinal := own_fld ev_x_SampleType_INT16 (own_eqi hn19)
  obtain ⟨x_SampleType_FLOAT64, ev_x_SampleType_FLOAT64⟩ := exa_v hn21
  have E_x_SampleType_FLOAT64 := Exa.start ev_x_SampleType_FLOAT64 hn21
  have S_SampleType_FLOAT64 := Sta.start ev_x_SampleType_FLOAT64 (Or.inr ⟨(ow hw 5 rfl), (ow hw 23 rfl)⟩)
  have F_x_SampleType_FLOAT64_ordinal := own_fld ev_x_SampleType_FLOAT64 (own_eqi hn23)
  obtain ⟨x_SampleType_INT32, ev_x_SampleType_INT32⟩ := exa_v hn25
  have E_x_SampleType_INT32 := Exa.start ev_x_SampleType_INT32 hn25
  have S_SampleType_INT32 := Sta.start ev_x_SampleType_INT32 (Or.inr ⟨(ow hw 5 rfl), (ow hw 26 rfl)⟩)
  have F_x_SampleType_INT32_ordinal := own_fld ev_x_SampleType_INT32 (own_eqi hn27)
  obtain ⟨x_SampleType_INT8, ev_x_SampleType_INT8⟩ := exa_v hn29
  have E_x_SampleType_INT8 := Exa.start ev_x_SampleType_INT8 hn29
  have S_SampleType_INT8 := Sta.start ev_x_SampleType_INT8 (Or.inr ⟨(ow hw 5 rfl), (ow hw 28 rfl)⟩)
  have F_x_SampleType_INT8_ordinal := own_fld ev_x_SampleType_INT8 (own_eqi hn30)
  obtain ⟨sv, hsv⟩ : ∃ z, ((i2 &&& (31 : Int32)) % (30 : Int32)) = z := ⟨_, rfl⟩
  obtain ⟨mv, hmv⟩ : ∃ z, ((8388608 : Int64) + ((i1 &&& (8388607 : Int32)).toInt64)) = z := ⟨_, rfl⟩
  obtain ⟨rv, hrv⟩ : ∃ z, (i3 &&& (((1 : Int64) <<< (sv.toInt64 &&& 63)) - (1 : Int64))) = z := ⟨_, rfl⟩
  obtain ⟨vv, hvv⟩ : ∃ z, ((mv <<< (sv.toInt64 &&& 63)) + rv) = z := ⟨_, rfl⟩
  obtain ⟨kk, mm, rr, hgd⟩ := own_isgood i1 i2 i3 hsv hmv hrv hvv
  have hdv := (own_dv hgd).2.2.2
  have hnn0 := own_dint_nn hdv
  have hnn1 := own_dint_nn (own_ndint hdv)
  rcases own_and7 i0 with hck | hck | hck | hck | hck | hck | hck | hck
  · by_cases hcg : ((i0 >>> ((3 : Int32) &&& 31)) &&& (1 : Int32)) = 0
    · obtain ⟨n, o, h1, h2, h3, _, L, rfl, ⟨rfl, N⟩, hq⟩ := rm_law00 l s _ hw tables_1 i0 i1 i2 i3 sv mv rv vv x_SampleType_UINT8 x_SampleType_FLOAT32 s.heap s.heap.size (Nat.le_refl _) hck hcg hsv hmv hrv hvv hnn0  S_SampleType_UINT8 S_SampleType_FLOAT32 (fun q => Fld.ne F_x_SampleType_UINT8_ordinal F_x_SampleType_FLOAT32_ordinal (by decide) q) E_x_SampleType_UINT8 p e ha hc hk s m _ below hf ((Spec.applies_iff_loose hf).mp happ).1 ⟨rfl, State.Warmed39.refl s, rfl⟩ trivial
      exact ⟨n, _, h1, h2, h3, hpost _ _ _ _ _ _ ⟨Cond.after_iff.mpr rfl, Cond.after_iff.mpr (eq_i res_at (Term.int_eval (1)) rfl), trivial⟩ ⟨hq.1, hq.2.1, (hq.2.2.sift fun y hy => Or.inr (N y hy)).mono (by decide) (by decide)⟩⟩
    · obtain ⟨n, o, h1, h2, h3, _, L, rfl, ⟨rfl, N⟩, hq⟩ := rm_law01 l s _ hw tables_1 i0 i1 i2 i3 sv mv rv vv x_SampleType_UINT8 x_SampleType_FLOAT32 s.heap s.heap.size (Nat.le_refl _) hck hcg hsv hmv hrv hvv hnn1  S_SampleType_UINT8 S_SampleType_FLOAT32 (fun q => Fld.ne F_x_SampleType_UINT8_ordinal F_x_SampleType_FLOAT32_ordinal (by decide) q) E_x_SampleType_UINT8 p e ha hc hk s m _ below hf ((Spec.applies_iff_loose hf).mp happ).1 ⟨rfl, State.Warmed39.refl s, rfl⟩ trivial
      exact ⟨n, _, h1, h2, h3, hpost _ _ _ _ _ _ ⟨Cond.after_iff.mpr rfl, Cond.after_iff.mpr (eq_i res_at (Term.int_eval (1)) rfl), trivial⟩ ⟨hq.1, hq.2.1, (hq.2.2.sift fun y hy => Or.inr (N y hy)).mono (by decide) (by decide)⟩⟩
  · by_cases hcg : ((i0 >>> ((3 : Int32) &&& 31)) &&& (1 : Int32)) = 0
    · obtain ⟨n, o, h1, h2, h3, _, L, rfl, ⟨rfl, N⟩, hq⟩ := rm_law10 l s _ hw tables_1 i0 i1 i2 i3 sv mv rv vv x_SampleType_INT8 x_SampleType_FLOAT32 s.heap s.heap.size (Nat.le_refl _) hck hcg hsv hmv hrv hvv hnn0  S_SampleType_INT8 S_SampleType_FLOAT32 (fun q => Fld.ne F_x_SampleType_INT8_ordinal F_x_SampleType_FLOAT32_ordinal (by decide) q) E_x_SampleType_INT8 p e ha hc hk s m _ below hf ((Spec.applies_iff_loose hf).mp happ).1 ⟨rfl, State.Warmed39.refl s, rfl⟩ trivial
      exact ⟨n, _, h1, h2, h3, hpost _ _ _ _ _ _ ⟨Cond.after_iff.mpr rfl, Cond.after_iff.mpr (eq_i res_at (Term.int_eval (1)) rfl), trivial⟩ ⟨hq.1, hq.2.1, (hq.2.2.sift fun y hy => Or.inr (N y hy)).mono (by decide) (by decide)⟩⟩
    · obtain ⟨n, o, h1, h2, h3, _, L, rfl, ⟨rfl, N⟩, hq⟩ := rm_law11 l s _ hw tables_1 i0 i1 i2 i3 sv mv rv vv x_SampleType_INT8 x_SampleType_FLOAT32 s.heap s.heap.size (Nat.le_refl _) hck hcg hsv hmv hrv hvv hnn1  S_SampleType_INT8 S_SampleType_FLOAT32 (fun q => Fld.ne F_x_SampleType_INT8_ordinal F_x_SampleType_FLOAT32_ordinal (by decide) q) E_x_SampleType_INT8 p e ha hc hk s m _ below hf ((Spec.applies_iff_loose hf).mp happ).1 ⟨rfl, State.Warmed39.refl s, rfl⟩ trivial
      exact ⟨n, _, h1, h2, h3, hpost _ _ _ _ _ _ ⟨Cond.after_iff.mpr rfl, Cond.after_iff.mpr (eq_i res_at (Term.int_eval (1)) rfl), trivial⟩ ⟨hq.1, hq.2.1, (hq.2.2.sift fun y hy => Or.inr (N y hy)).mono (by decide) (by decide)⟩⟩
  · by_cases hcg : ((i0 >>> ((3 : Int32) &&& 31)) &&& (1 : Int32)) = 0
    · obtain ⟨n, o, h1, h2, h3, _, L, rfl, ⟨rfl, N⟩, hq⟩ := rm_law20 l s _ hw tables_1 i0 i1 i2 i3 sv mv rv vv x_SampleType_UINT16 x_SampleType_FLOAT32 s.heap s.heap.size (Nat.le_refl _) hck hcg hsv hmv hrv hvv hnn0  S_SampleType_UINT16 S_SampleType_FLOAT32 (fun q => Fld.ne F_x_SampleType_UINT16_ordinal F_x_SampleType_FLOAT32_ordinal (by decide) q) E_x_SampleType_UINT16 p e ha hc hk s m _ below hf ((Spec.applies_iff_loose hf).mp happ).1 ⟨rfl, State.Warmed39.refl s, rfl⟩ trivial
      exact ⟨n, _, h1, h2, h3, hpost _ _ _ _ _ _ ⟨Cond.after_iff.mpr rfl, Cond.after_iff.mpr (eq_i res_at (Term.int_eval (1)) rfl), trivial⟩ ⟨hq.1, hq.2.1, (hq.2.2.sift fun y hy => Or.inr (N y hy)).mono (by decide) (by decide)⟩⟩
    · obtain ⟨n, o, h1, h2, h3, _, L, rfl, ⟨rfl, N⟩, hq⟩ := rm_law21 l s _ hw tables_1 i0 i1 i2 i3 sv mv rv vv x_SampleType_UINT16 x_SampleType_FLOAT32 s.heap s.heap.size (Nat.le_refl _) hck hcg hsv hmv hrv hvv hnn1  S_SampleType_UINT16 S_SampleType_FLOAT32 (fun q => Fld.ne F_x_SampleType_UINT16_ordinal F_x_SampleType_FLOAT32_ordinal (by decide) q) E_x_SampleType_UINT16 p e ha hc hk s m _ below hf ((Spec.applies_iff_loose hf).mp happ).1 ⟨rfl, State.Warmed39.refl s, rfl⟩ trivial
      exact ⟨n, _, h1, h2, h3, hpost _ _ _ _ _ _ ⟨Cond.after_iff.mpr rfl, Cond.after_iff.mpr (eq_i res_at (Term.int_eval (1)) rfl), trivial⟩ ⟨hq.1, hq.2.1, (hq.2.2.sift fun y hy => Or.inr (N y hy)).mono (by decide) (by decide)⟩⟩
  · by_cases hcg : ((i0 >>> ((3 : Int32) &&& 31)) &&& (1 : Int32)) = 0
    · obtain ⟨n, o, h1, h2, h3, _, L, rfl, ⟨rfl, N⟩, hq⟩ := rm_law30 l s _ hw tables_1 i0 i1 i2 i3 sv mv rv vv x_SampleType_INT16 x_SampleType_FLOAT32 s.heap s.heap.size (Nat.le_refl _) hck hcg hsv hmv hrv hvv hnn0  S_SampleType_INT16 S_SampleType_FLOAT32 (fun q => Fld.ne F_x_SampleType_INT16_ordinal F_x_SampleType_FLOAT32_ordinal (by decide) q) E_x_SampleType_INT16 p e ha hc hk s m _ below hf ((Spec.applies_iff_loose hf).mp happ).1 ⟨rfl, State.Warmed39.refl s, rfl⟩ trivial
      exact ⟨n, _, h1, h2, h3, hpost _ _ _ _ _ _ ⟨Cond.after_iff.mpr rfl, Cond.after_iff.mpr (eq_i res_at (Term.int_eval (1)) rfl), trivial⟩ ⟨hq.1, hq.2.1, (hq.2.2.sift fun y hy => Or.inr (N y hy)).mono (by decide) (by decide)⟩⟩
    · obtain ⟨n, o, h1, h2, h3, _, L, rfl, ⟨rfl, N⟩, hq⟩ := rm_law31 l s _ hw tables_1 i0 i1 i2 i3 sv mv rv vv x_SampleType_INT16 x_SampleType_FLOAT32 s.heap s.heap.size (Nat.le_refl _) hck hcg hsv hmv hrv hvv hnn1  S_SampleType_INT16 S_SampleType_FLOAT32 (fun q => Fld.ne F_x_SampleType_INT16_ordinal F_x_SampleType_FLOAT32_ordinal (by decide) q) E_x_SampleType_INT16 p e ha hc hk s m _ below hf ((Spec.applies_iff_loose hf).mp happ).1 ⟨rfl, State.Warmed39.refl s, rfl⟩ trivial
      exact ⟨n, _, h1, h2, h3, hpost _ _ _ _ _ _ ⟨Cond.after_iff.mpr rfl, Cond.after_iff.mpr (eq_i res_at (Term.int_eval (1)) rfl), trivial⟩ ⟨hq.1, hq.2.1, (hq.2.2.sift fun y hy => Or.inr (N y hy)).mono (by decide) (by decide)⟩⟩
  · by_cases hcg : ((i0 >>> ((3 : Int32) &&& 31)) &&& (1 : Int32)) = 0
    · obtain ⟨n, o, h1, h2, h3, _, L, rfl, ⟨rfl, N⟩, hq⟩ := rm_law40 l s _ hw tables_1 i0 i1 i2 i3 sv mv rv vv x_SampleType_UINT32 x_SampleType_FLOAT32 s.heap s.heap.size (Nat.le_refl _) hck hcg hsv hmv hrv hvv hnn0  S_SampleType_UINT32 S_SampleType_FLOAT32 (fun q => Fld.ne F_x_SampleType_UINT32_ordinal F_x_SampleType_FLOAT32_ordinal (by decide) q) E_x_SampleType_UINT32 p e ha hc hk s m _ below hf ((Spec.applies_iff_loose hf).mp happ).1 ⟨rfl, State.Warmed39.refl s, rfl⟩ trivial
      exact ⟨n, _, h1, h2, h3, hpost _ _ _ _ _ _ ⟨Cond.after_iff.mpr rfl, Cond.after_iff.mpr (eq_i res_at (Term.int_eval (1)) rfl), trivial⟩ ⟨hq.1, hq.2.1, (hq.2.2.sift fun y hy => Or.inr (N y hy)).mono (by decide) (by decide)⟩⟩
    · obtain ⟨n, o, h1, h2, h3, _, L, rfl, ⟨rfl, N⟩, hq⟩ := rm_law41 l s _ hw tables_1 i0 i1 i2 i3 sv mv rv vv x_SampleType_UINT32 x_SampleType_FLOAT32 s.heap s.heap.size (Nat.le_refl _) hck hcg hsv hmv hrv hvv hnn1  S_SampleType_UINT32 S_SampleType_FLOAT32 (fun q => Fld.ne F_x_SampleType_UINT32_ordinal F_x_SampleType_FLOAT32_ordinal (by decide) q) E_x_SampleType_UINT32 p e ha hc hk s m _ below hf ((Spec.applies_iff_loose hf).mp happ).1 ⟨rfl, State.Warmed39.refl s, rfl⟩ trivial
      exact ⟨n, _, h1, h2, h3, hpost _ _ _ _ _ _ ⟨Cond.after_iff.mpr rfl, Cond.after_iff.mpr (eq_i res_at (Term.int_eval (1)) rfl), trivial⟩ ⟨hq.1, hq.2.1, (hq.2.2.sift fun y hy => Or.inr (N y hy)).mono (by decide) (by decide)⟩⟩
  · by_cases hcg : ((i0 >>> ((3 : Int32) &&& 31)) &&& (1 : Int32)) = 0
    · obtain ⟨n, o, h1, h2, h3, _, L, rfl, ⟨rfl, N⟩, hq⟩ := rm_law50 l s _ hw tables_1 i0 i1 i2 i3 sv mv rv vv x_SampleType_INT32 x_SampleType_FLOAT32 s.heap s.heap.size (Nat.le_refl _) hck hcg hsv hmv hrv hvv hnn0  S_SampleType_INT32 S_SampleType_FLOAT32 (fun q => Fld.ne F_x_SampleType_INT32_ordinal F_x_SampleType_FLOAT32_ordinal (by decide) q) E_x_SampleType_INT32 p e ha hc hk s m _ below hf ((Spec.applies_iff_loose hf).mp happ).1 ⟨rfl, State.Warmed39.refl s, rfl⟩ trivial
      exact ⟨n, _, h1, h2, h3, hpost _ _ _ _ _ _ ⟨Cond.after_iff.mpr rfl, Cond.after_iff.mpr (eq_i res_at (Term.int_eval (1)) rfl), trivial⟩ ⟨hq.1, hq.2.1, (hq.2.2.sift fun y hy => Or.inr (N y hy)).mono (by decide) (by decide)⟩⟩
    · obtain ⟨n, o, h1, h2, h3, _, L, rfl, ⟨rfl, N⟩, hq⟩ := rm_law51 l s _ hw tables_1 i0 i1 i2 i3 sv mv rv vv x_SampleType_INT32 x_SampleType_FLOAT32 s.heap s.heap.size (Nat.le_refl _) hck hcg hsv hmv hrv hvv hnn1  S_SampleType_INT32 S_SampleType_FLOAT32 (fun q => Fld.ne F_x_SampleType_INT32_ordinal F_x_SampleType_FLOAT32_ordinal (by decide) q) E_x_SampleType_INT32 p e ha hc hk s m _ below hf ((Spec.applies_iff_loose hf).mp happ).1 ⟨rfl, State.Warmed39.refl s, rfl⟩ trivial
      exact ⟨n, _, h1, h2, h3, hpost _ _ _ _ _ _ ⟨Cond.after_iff.mpr rfl, Cond.after_iff.mpr (eq_i res_at (Term.int_eval (1)) rfl), trivial⟩ ⟨hq.1, hq.2.1, (hq.2.2.sift fun y hy => Or.inr (N y hy)).mono (by decide) (by decide)⟩⟩
  · by_cases hcg : ((i0 >>> ((3 : Int32) &&& 31)) &&& (1 : Int32)) = 0
    · by_cases hs0 : sv = 0
      · obtain ⟨n, o, h1, h2, h3, _, L, rfl, ⟨rfl, N⟩, hq⟩ := rm_law60z l s _ hw tables_1 i0 i1 i2 i3 sv mv rv vv x_SampleType_FLOAT32 s.heap s.heap.size (Nat.le_refl _) hck hcg hsv hmv hrv hvv hnn0 S_SampleType_FLOAT32 E_x_SampleType_FLOAT32 hs0 (own_fin hgd (own_w0 hgd hs0)).1 p e ha hc hk s m _ below hf ((Spec.applies_iff_loose hf).mp happ).1 ⟨rfl, State.Warmed39.refl s, rfl⟩ trivial
        exact ⟨n, _, h1, h2, h3, hpost _ _ _ _ _ _ ⟨Cond.after_iff.mpr rfl, Cond.after_iff.mpr (eq_i res_at (Term.int_eval (1)) rfl), trivial⟩ ⟨hq.1, hq.2.1, (hq.2.2.sift fun y hy => Or.inr (N y hy)).mono (by decide) (by decide)⟩⟩
      · by_cases hb1 : rv < ((1 : Int64) <<< ((sv - (1 : Int32)).toInt64 &&& 63))
        · obtain ⟨n, o, h1, h2, h3, _, L, rfl, ⟨rfl, N⟩, hq⟩ := rm_law60l l s _ hw tables_1 i0 i1 i2 i3 sv mv rv vv x_SampleType_FLOAT32 s.heap s.heap.size (Nat.le_refl _) hck hcg hsv hmv hrv hvv hnn0 S_SampleType_FLOAT32 E_x_SampleType_FLOAT32 hs0 hb1 (own_fin hgd (own_wlt hgd hs0 hb1)).1 p e ha hc hk s m _ below hf ((Spec.applies_iff_loose hf).mp happ).1 ⟨rfl, State.Warmed39.refl s, rfl⟩ trivial
          exact ⟨n, _, h1, h2, h3, hpost _ _ _ _ _ _ ⟨Cond.after_iff.mpr rfl, Cond.after_iff.mpr (eq_i res_at (Term.int_eval (1)) rfl), trivial⟩ ⟨hq.1, hq.2.1, (hq.2.2.sift fun y hy => Or.inr (N y hy)).mono (by decide) (by decide)⟩⟩
        · by_cases hb2 : ((1 : Int64) <<< ((sv - (1 : Int32)).toInt64 &&& 63)) < rv
          · obtain ⟨n, o, h1, h2, h3, _, L, rfl, ⟨rfl, N⟩, hq⟩ := rm_law60g l s _ hw tables_1 i0 i1 i2 i3 sv mv rv vv x_SampleType_FLOAT32 s.heap s.heap.size (Nat.le_refl _) hck hcg hsv hmv hrv hvv hnn0 S_SampleType_FLOAT32 E_x_SampleType_FLOAT32 hs0 hb1 hb2 (own_fin hgd (own_wgt hgd hs0 hb2)).1 p e ha hc hk s m _ below hf ((Spec.applies_iff_loose hf).mp happ).1 ⟨rfl, State.Warmed39.refl s, rfl⟩ trivial
            exact ⟨n, _, h1, h2, h3, hpost _ _ _ _ _ _ ⟨Cond.after_iff.mpr rfl, Cond.after_iff.mpr (eq_i res_at (Term.int_eval (1)) rfl), trivial⟩ ⟨hq.1, hq.2.1, (hq.2.2.sift fun y hy => Or.inr (N y hy)).mono (by decide) (by decide)⟩⟩
          · by_cases hb3 : (mv &&& (1 : Int64)) = (0 : Int64)
            · obtain ⟨n, o, h1, h2, h3, _, L, rfl, ⟨rfl, N⟩, hq⟩ := rm_law60e l s _ hw tables_1 i0 i1 i2 i3 sv mv rv vv x_SampleType_FLOAT32 s.heap s.heap.size (Nat.le_refl _) hck hcg hsv hmv hrv hvv hnn0 S_SampleType_FLOAT32 E_x_SampleType_FLOAT32 hs0 hb1 hb2 hb3 (own_fin hgd ((own_wtie hgd hs0 hb1 hb2).1 hb3)).1 p e ha hc hk s m _ below hf ((Spec.applies_iff_loose hf).mp happ).1 ⟨rfl, State.Warmed39.refl s, rfl⟩ trivial
              exact ⟨n, _, h1, h2, h3, hpost _ _ _ _ _ _ ⟨Cond.after_iff.mpr rfl, Cond.after_iff.mpr (eq_i res_at (Term.int_eval (1)) rfl), trivial⟩ ⟨hq.1, hq.2.1, (hq.2.2.sift fun y hy => Or.inr (N y hy)).mono (by decide) (by decide)⟩⟩
            · obtain ⟨n, o, h1, h2, h3, _, L, rfl, ⟨rfl, N⟩, hq⟩ := rm_law60o l s _ hw tables_1 i0 i1 i2 i3 sv mv rv vv x_SampleType_FLOAT32 s.heap s.heap.size (Nat.le_refl _) hck hcg hsv hmv hrv hvv hnn0 S_SampleType_FLOAT32 E_x_SampleType_FLOAT32 hs0 hb1 hb2 hb3 (own_fin hgd ((own_wtie hgd hs0 hb1 hb2).2 hb3)).1 p e ha hc hk s m _ below hf ((Spec.applies_iff_loose hf).mp happ).1 ⟨rfl, State.Warmed39.refl s, rfl⟩ trivial
              exact ⟨n, _, h1, h2, h3, hpost _ _ _ _ _ _ ⟨Cond.after_iff.mpr rfl, Cond.after_iff.mpr (eq_i res_at (Term.int_eval (1)) rfl), trivial⟩ ⟨hq.1, hq.2.1, (hq.2.2.sift fun y hy => Or.inr (N y hy)).mono (by decide) (by decide)⟩⟩
    · by_cases hs0 : sv = 0
      · obtain ⟨n, o, h1, h2, h3, _, L, rfl, ⟨rfl, N⟩, hq⟩ := rm_law61z l s _ hw tables_1 i0 i1 i2 i3 sv mv rv vv x_SampleType_FLOAT32 s.heap s.heap.size (Nat.le_refl _) hck hcg hsv hmv hrv hvv hnn1 S_SampleType_FLOAT32 E_x_SampleType_FLOAT32 hs0 (own_fin hgd (own_w0 hgd hs0)).2 p e ha hc hk s m _ below hf ((Spec.applies_iff_loose hf).mp happ).1 ⟨rfl, State.Warmed39.refl s, rfl⟩ trivial
        exact ⟨n, _, h1, h2, h3, hpost _ _ _ _ _ _ ⟨Cond.after_iff.mpr rfl, Cond.after_iff.mpr (eq_i res_at (Term.int_eval (1)) rfl), trivial⟩ ⟨hq.1, hq.2.1, (hq.2.2.sift fun y hy => Or.inr (N y hy)).mono (by decide) (by decide)⟩⟩
      · by_cases hb1 : rv < ((1 : Int64) <<< ((sv - (1 : Int32)).toInt64 &&& 63))
        · obtain ⟨n, o, h1, h2, h3, _, L, rfl, ⟨rfl, N⟩, hq⟩ := rm_law61l l s _ hw tables_1 i0 i1 i2 i3 sv mv rv vv x_SampleType_FLOAT32 s.heap s.heap.size (Nat.le_refl _) hck hcg hsv hmv hrv hvv hnn1 S_SampleType_FLOAT32 E_x_SampleType_FLOAT32 hs0 hb1 (own_fin hgd (own_wlt hgd hs0 hb1)).2 p e ha hc hk s m _ below hf ((Spec.applies_iff_loose hf).mp happ).1 ⟨rfl, State.Warmed39.refl s, rfl⟩ trivial
          exact ⟨n, _, h1, h2, h3, hpost _ _ _ _ _ _ ⟨Cond.after_iff.mpr rfl, Cond.after_iff.mpr (eq_i res_at (Term.int_eval (1)) rfl), trivial⟩ ⟨hq.1, hq.2.1, (hq.2.2.sift fun y hy => Or.inr (N y hy)).mono (by decide) (by decide)⟩⟩
        · by_cases hb2 : ((1 : Int64) <<< ((sv - (1 : Int32)).toInt64 &&& 63)) < rv
          · obtain ⟨n, o, h1, h2, h3, _, L, rfl, ⟨rfl, N⟩, hq⟩ := rm_law61g l s _ hw tables_1 i0 i1 i2 i3 sv mv rv vv x_SampleType_FLOAT32 s.heap s.heap.size (Nat.le_refl _) hck hcg hsv hmv hrv hvv hnn1 S_SampleType_FLOAT32 E_x_SampleType_FLOAT32 hs0 hb1 hb2 (own_fin hgd (own_wgt hgd hs0 hb2)).2 p e ha hc hk s m _ below hf ((Spec.applies_iff_loose hf).mp happ).1 ⟨rfl, State.Warmed39.refl s, rfl⟩ trivial
            exact ⟨n, _, h1, h2, h3, hpost _ _ _ _ _ _ ⟨Cond.after_iff.mpr rfl, Cond.after_iff.mpr (eq_i res_at (Term.int_eval (1)) rfl), trivial⟩ ⟨hq.1, hq.2.1, (hq.2.2.sift fun y hy => Or.inr (N y hy)).mono (by decide) (by decide)⟩⟩
          · by_cases hb3 : (mv &&& (1 : Int64)) = (0 : Int64)
            · obtain ⟨n, o, h1, h2, h3, _, L, rfl, ⟨rfl, N⟩, hq⟩ := rm_law61e l s _ hw tables_1 i0 i1 i2 i3 sv mv rv vv x_SampleType_FLOAT32 s.heap s.heap.size (Nat.le_refl _) hck hcg hsv hmv hrv hvv hnn1 S_SampleType_FLOAT32 E_x_SampleType_FLOAT32 hs0 hb1 hb2 hb3 (own_fin hgd ((own_wtie hgd hs0 hb1 hb2).1 hb3)).2 p e ha hc hk s m _ below hf ((Spec.applies_iff_loose hf).mp happ).1 ⟨rfl, State.Warmed39.refl s, rfl⟩ trivial
              exact ⟨n, _, h1, h2, h3, hpost _ _ _ _ _ _ ⟨Cond.after_iff.mpr rfl, Cond.after_iff.mpr (eq_i res_at (Term.int_eval (1)) rfl), trivial⟩ ⟨hq.1, hq.2.1, (hq.2.2.sift fun y hy => Or.inr (N y hy)).mono (by decide) (by decide)⟩⟩
            · obtain ⟨n, o, h1, h2, h3, _, L, rfl, ⟨rfl, N⟩, hq⟩ := rm_law61o l s _ hw tables_1 i0 i1 i2 i3 sv mv rv vv x_SampleType_FLOAT32 s.heap s.heap.size (Nat.le_refl _) hck hcg hsv hmv hrv hvv hnn1 S_SampleType_FLOAT32 E_x_SampleType_FLOAT32 hs0 hb1 hb2 hb3 (own_fin hgd ((own_wtie hgd hs0 hb1 hb2).2 hb3)).2 p e ha hc hk s m _ below hf ((Spec.applies_iff_loose hf).mp happ).1 ⟨rfl, State.Warmed39.refl s, rfl⟩ trivial
              exact ⟨n, _, h1, h2, h3, hpost _ _ _ _ _ _ ⟨Cond.after_iff.mpr rfl, Cond.after_iff.mpr (eq_i res_at (Term.int_eval (1)) rfl), trivial⟩ ⟨hq.1, hq.2.1, (hq.2.2.sift fun y hy => Or.inr (N y hy)).mono (by decide) (by decide)⟩⟩
  · by_cases hcg : ((i0 >>> ((3 : Int32) &&& 31)) &&& (1 : Int32)) = 0
    · obtain ⟨n, o, h1, h2, h3, _, L, rfl, ⟨rfl, N⟩, hq⟩ := rm_law70 l s _ hw tables_1 i0 i1 i2 i3 sv mv rv vv x_SampleType_FLOAT64 x_SampleType_FLOAT32 s.heap s.heap.size (Nat.le_refl _) hck hcg hsv hmv hrv hvv hnn0  S_SampleType_FLOAT64 S_SampleType_FLOAT32 (fun q => Fld.ne F_x_SampleType_FLOAT64_ordinal F_x_SampleType_FLOAT32_ordinal (by decide) q) E_x_SampleType_FLOAT64 p e ha hc hk s m _ below hf ((Spec.applies_iff_loose hf).mp happ).1 ⟨rfl, State.Warmed39.refl s, rfl⟩ trivial
      exact ⟨n, _, h1, h2, h3, hpost _ _ _ _ _ _ ⟨Cond.after_iff.mpr rfl, Cond.after_iff.mpr (eq_i res_at (Term.int_eval (1)) rfl), trivial⟩ ⟨hq.1, hq.2.1, (hq.2.2.sift fun y hy => Or.inr (N y hy)).mono (by decide) (by decide)⟩⟩
    · obtain ⟨n, o, h1, h2, h3, _, L, rfl, ⟨rfl, N⟩, hq⟩ := rm_law71 l s _ hw tables_1 i0 i1 i2 i3 sv mv rv vv x_SampleType_FLOAT64 x_SampleType_FLOAT32 s.heap s.heap.size (Nat.le_refl _) hck hcg hsv hmv hrv hvv hnn1  S_SampleType_FLOAT64 S_SampleType_FLOAT32 (fun q => Fld.ne F_x_SampleType_FLOAT64_ordinal F_x_SampleType_FLOAT32_ordinal (by decide) q) E_x_SampleType_FLOAT64 p e ha hc hk s m _ below hf ((Spec.applies_iff_loose hf).mp happ).1 ⟨rfl, State.Warmed39.refl s, rfl⟩ trivial
      exact ⟨n, _, h1, h2, h3, hpost _ _ _ _ _ _ ⟨Cond.after_iff.mpr rfl, Cond.after_iff.mpr (eq_i res_at (Term.int_eval (1)) rfl), trivial⟩ ⟨hq.1, hq.2.1, (hq.2.2.sift fun y hy => Or.inr (N y hy)).mono (by decide) (by decide)⟩⟩
theorem main_1_1 : Claimed_1_1 := comes_1 fun _ _ _ _ _ _ h hF => ⟨h.1, hF⟩
theorem main_1_2 : Claimed_1_2 := comes_1 fun _ _ _ _ _ _ h hF => ⟨h.2.1, hF⟩
end Jvm.Pilot.@@N@@
namespace Jvm.Pilot.@@N@@
open Jvm Jvm.ClassFile Sem Op Lib Jvm.Free Jvm.Stand Jvm.Pilot.@@N@@.Jvm.D
/-! MADE BY PROGRAM (witnessworld.py) out of the Statement's table words and the real class files: 12 classes; the members and pool entries that the words name. The judged class is class 1, her method 2. -/
namespace start1
open Jvm.ClassFile
def u (s : String) : CpInfo := .utf8 (stringToUtf16 s)
/-- a pool by its gaps: so many unusable entries, then the entry; so many at the end -/
def gap : Nat → List CpInfo → List CpInfo
  | 0, r => r
  | n + 1, r => .unusable :: gap n r
def poolList (es : List (Nat × CpInfo)) (last : Nat) : List CpInfo := es.foldr (fun e r => gap e.1 (e.2 :: r)) (gap last [])
def pool (es : List (Nat × CpInfo)) (last : Nat) : Array CpInfo := ⟨poolList es last⟩
def fileOf (pool : Array CpInfo) (this : Nat) (attrs : Array Attribute := #[]) (ms : Array MethodInfo := #[]) (fl : Nat := 33) (sup : Nat := 0) (ifs : Array Nat := #[]) (fds : Array FieldInfo := #[]) : ClassFile where
  minorVersion := 0
  majorVersion := 65
  constantPool := pool
  accessFlags := fl
  thisClass := this
  superClass := sup
  interfaces := ifs
  fields := fds
  methods := ms
  attributes := attrs
def plain (name : String) (sup : Option ClassId) : Class where
  name := name
  kind := .ordinary
  loader := none
  accessFlags := 33
  super := sup
  interfaces := #[]
  cf := none
  fields := #[]
  methods := #[]
  instanceTypes := #[]
  staticTypes := #[]
  resolved := #[]
  callSites := []
  init := .initialized
  statics := none
  mirror := none

def pool0 : Array CpInfo := pool [(5, u "<init>"), (0, u "()V"), (1, .class_ 10), (1, u "java/lang/Object")] 113

def k0m0 : Method := { name := "<init>", desc := "()V", sig := { parameters := [], returnType := none }, accessFlags := 1, code := none }
/-- java/lang/Object -/
def k0 : Class := { plain "java/lang/Object" none with
  accessFlags := 33
  interfaces := #[]
  cf := some (fileOf pool0 8 #[] #[{ accessFlags := 1, nameIndex := 5, descriptorIndex := 6, attributes := #[] }] 33 0 #[] #[])
  fields := #[]
  methods := #[k0m0]
  instanceTypes := #[]
  staticTypes := #[]
  resolved := Array.replicate 124 none
  statics := none }

def pool1 : Array CpInfo := pool [(2, .class_ 4), (1, u "java/lang/Object"), (0, u "<init>"), (0, u "()V"), (0, .fieldref 8 9), (0, .class_ 10), (0, .nameAndType 11 12), (0, u "com/example/greenweft/greenweft/map/SampleType"), (0, u "UINT8"), (0, u "Lcom/example/greenweft/greenweft/map/SampleType;"), (0, .fieldref 8 14), (0, .nameAndType 15 12), (0, u "INT8"), (0, .fieldref 8 17), (0, .nameAndType 18 12), (0, u "UINT16"), (0, .fieldref 8 20), (0, .nameAndType 21 12), (0, u "INT16"), (0, .fieldref 8 23), (0, .nameAndType 24 12), (0, u "UINT32"), (0, .fieldref 8 26), (0, .nameAndType 27 12), (0, u "INT32"), (0, .fieldref 8 29), (0, .nameAndType 30 12), (0, u "FLOAT32"), (0, .fieldref 8 32), (0, .nameAndType 33 12), (0, u "FLOAT64"), (0, .methodref 35 36), (0, .class_ 37), (0, .nameAndType 38 39), (0, u "com/example/greenweft/greenweft/map/SampleTypeStoredPinLaw"), (0, u "pick"), (0, u "(I)Lcom/example/greenweft/greenweft/map/SampleType;"), (0, .long 8388608), (1, .integer 8388607), (0, .methodref 8 44), (0, .nameAndType 45 46), (0, u "stored"), (0, u "(D)D"), (3, u "law"), (0, u "(IIIJ)Z")] 2

def k1m0 : Method := { name := "<init>", desc := "()V", sig := { parameters := [], returnType := none }, accessFlags := 2, code := none }
def k1c1 : Code := { maxStack := 2, maxLocals := 1, code := method_2_code, exceptionTable := #[], attributes := #[] }
def k1m1 : Method := { name := "pick", desc := "(I)Lcom/example/greenweft/greenweft/map/SampleType;", sig := { parameters := [.int], returnType := some (.object "com/example/greenweft/greenweft/map/SampleType") }, accessFlags := 10, code := some k1c1 }
def k1c2 : Code := { maxStack := 6, maxLocals := 25, code := code, exceptionTable := #[], attributes := #[] }
def k1m2 : Method := { name := "law", desc := "(IIIJ)Z", sig := { parameters := [.int, .int, .int, .long], returnType := some .boolean }, accessFlags := 9, code := some k1c2 }
/-- com/example/greenweft/greenweft/map/SampleTypeStoredPinLaw -/
def k1 : Class := { plain "com/example/greenweft/greenweft/map/SampleTypeStoredPinLaw" (some 0) with
  accessFlags := 49
  interfaces := #[]
  cf := some (fileOf pool1 35 #[] #[{ accessFlags := 2, nameIndex := 5, descriptorIndex := 6, attributes := #[] }, { accessFlags := 10, nameIndex := 38, descriptorIndex := 39, attributes := #[] }, { accessFlags := 9, nameIndex := 50, descriptorIndex := 51, attributes := #[] }] 49 2 #[] #[])
  fields := #[]
  methods := #[k1m0, k1m1, k1m2]
  instanceTypes := #[]
  staticTypes := #[]
  resolved := Array.replicate 54 none
  statics := none }

def pool2 : Array CpInfo := pool [(1, .class_ 2), (0, u "java/lang/constant/Constable"), (0, .class_ 4), (0, u "java/lang/Object")] 6

/-- java/lang/constant/Constable -/
def k2 : Class := { plain "java/lang/constant/Constable" (some 0) with
  accessFlags := 1537
  interfaces := #[]
  cf := some (fileOf pool2 1 #[] #[] 1537 3 #[] #[])
  fields := #[]
  methods := #[]
  instanceTypes := #[]
  staticTypes := #[]
  resolved := Array.replicate 11 none
  statics := none }

def pool3 : Array CpInfo := pool [(1, .class_ 2), (0, u "java/lang/Comparable"), (0, .class_ 4), (0, u "java/lang/Object")] 7

/-- java/lang/Comparable -/
def k3 : Class := { plain "java/lang/Comparable" (some 0) with
  accessFlags := 1537
  interfaces := #[]
  cf := some (fileOf pool3 1 #[] #[] 1537 3 #[] #[])
  fields := #[]
  methods := #[]
  instanceTypes := #[]
  staticTypes := #[]
  resolved := Array.replicate 12 none
  statics := none }

def pool4 : Array CpInfo := pool [(1, .class_ 2), (0, u "java/io/Serializable"), (0, .class_ 4), (0, u "java/lang/Object")] 2

/-- java/io/Serializable -/
def k4 : Class := { plain "java/io/Serializable" (some 0) with
  accessFlags := 1537
  interfaces := #[]
  cf := some (fileOf pool4 1 #[] #[] 1537 3 #[] #[])
  fields := #[]
  methods := #[]
  instanceTypes := #[]
  staticTypes := #[]
  resolved := Array.replicate 7 none
  statics := none }

def pool5 : Array CpInfo := pool [(2, .class_ 4), (1, u "java/lang/Enum"), (0, u "name"), (0, u "Ljava/lang/String;"), (2, u "ordinal"), (0, u "I"), (1, .class_ 14), (1, u "java/lang/Object"), (4, u "hash"), (86, .class_ 108), (1, u "java/lang/Enum$EnumDesc"), (2, .class_ 112), (0, u "java/lang/constant/Constable"), (0, .class_ 114), (0, u "java/lang/Comparable"), (0, .class_ 116), (0, u "java/io/Serializable")] 87

/-- java/lang/Enum -/
def k5 : Class := { plain "java/lang/Enum" (some 0) with
  accessFlags := 1057
  interfaces := #[2, 3, 4]
  cf := some (fileOf pool5 2 #[.nestMembers #[106]] #[] 1057 12 #[111, 113, 115] #[{ accessFlags := 18, nameIndex := 5, descriptorIndex := 6, attributes := #[] }, { accessFlags := 18, nameIndex := 9, descriptorIndex := 10, attributes := #[] }, { accessFlags := 2, nameIndex := 19, descriptorIndex := 10, attributes := #[] }])
  fields := #[{ name := "name", type := (.object "java/lang/String"), accessFlags := 18, slot := 0, constantValue := 0 }, { name := "ordinal", type := .int, accessFlags := 18, slot := 1, constantValue := 0 }, { name := "hash", type := .int, accessFlags := 2, slot := 2, constantValue := 0 }]
  methods := #[]
  instanceTypes := #[(.object "java/lang/String"), .int, .int]
  staticTypes := #[]
  resolved := Array.replicate 204 none
  statics := none }

def pool6 : Array CpInfo := pool [(1, .class_ 2), (0, u "com/example/greenweft/greenweft/map/SampleType"), (2, u "UINT8"), (0, u "Lcom/example/greenweft/greenweft/map/SampleType;"), (2, u "INT8"), (2, u "UINT16"), (2, u "INT16"), (2, u "UINT32"), (2, u "INT32"), (0, .fieldref 1 23), (0, .nameAndType 24 6), (0, u "FLOAT32"), (2, u "FLOAT64"), (2, u "$VALUES"), (0, u "[Lcom/example/greenweft/greenweft/map/SampleType;"), (6, .class_ 40), (1, u "java/lang/Enum"), (26, u "stored"), (0, u "(D)D")] 5

def k6c0 : Code := { maxStack := 2, maxLocals := 3, code := prog_10_method_4_code, exceptionTable := #[], attributes := #[] }
def k6m0 : Method := { name := "stored", desc := "(D)D", sig := { parameters := [.double], returnType := some .double }, accessFlags := 1, code := some k6c0 }
/-- com/example/greenweft/greenweft/map/SampleType -/
def k6 : Class := { plain "com/example/greenweft/greenweft/map/SampleType" (some 5) with
  accessFlags := 16433
  interfaces := #[]
  cf := some (fileOf pool6 1 #[] #[{ accessFlags := 1, nameIndex := 67, descriptorIndex := 68, attributes := #[] }] 16433 38 #[] #[{ accessFlags := 16409, nameIndex := 5, descriptorIndex := 6, attributes := #[] }, { accessFlags := 16409, nameIndex := 9, descriptorIndex := 6, attributes := #[] }, { accessFlags := 16409, nameIndex := 12, descriptorIndex := 6, attributes := #[] }, { accessFlags := 16409, nameIndex := 15, descriptorIndex := 6, attributes := #[] }, { accessFlags := 16409, nameIndex := 18, descriptorIndex := 6, attributes := #[] }, { accessFlags := 16409, nameIndex := 21, descriptorIndex := 6, attributes := #[] }, { accessFlags := 16409, nameIndex := 24, descriptorIndex := 6, attributes := #[] }, { accessFlags := 16409, nameIndex := 27, descriptorIndex := 6, attributes := #[] }, { accessFlags := 4122, nameIndex := 30, descriptorIndex := 31, attributes := #[] }])
  fields := #[{ name := "UINT8", type := (.object "com/example/greenweft/greenweft/map/SampleType"), accessFlags := 16409, slot := 0, constantValue := 0 }, { name := "INT8", type := (.object "com/example/greenweft/greenweft/map/SampleType"), accessFlags := 16409, slot := 1, constantValue := 0 }, { name := "UINT16", type := (.object "com/example/greenweft/greenweft/map/SampleType"), accessFlags := 16409, slot := 2, constantValue := 0 }, { name := "INT16", type := (.object "com/example/greenweft/greenweft/map/SampleType"), accessFlags := 16409, slot := 3, constantValue := 0 }, { name := "UINT32", type := (.object "com/example/greenweft/greenweft/map/SampleType"), accessFlags := 16409, slot := 4, constantValue := 0 }, { name := "INT32", type := (.object "com/example/greenweft/greenweft/map/SampleType"), accessFlags := 16409, slot := 5, constantValue := 0 }, { name := "FLOAT32", type := (.object "com/example/greenweft/greenweft/map/SampleType"), accessFlags := 16409, slot := 6, constantValue := 0 }, { name := "FLOAT64", type := (.object "com/example/greenweft/greenweft/map/SampleType"), accessFlags := 16409, slot := 7, constantValue := 0 }, { name := "$VALUES", type := (.array (.object "com/example/greenweft/greenweft/map/SampleType")), accessFlags := 4122, slot := 8, constantValue := 0 }]
  methods := #[k6m0]
  instanceTypes := #[(.object "java/lang/String"), .int, .int]
  staticTypes := #[(.object "com/example/greenweft/greenweft/map/SampleType"), (.object "com/example/greenweft/greenweft/map/SampleType"), (.object "com/example/greenweft/greenweft/map/SampleType"), (.object "com/example/greenweft/greenweft/map/SampleType"), (.object "com/example/greenweft/greenweft/map/SampleType"), (.object "com/example/greenweft/greenweft/map/SampleType"), (.object "com/example/greenweft/greenweft/map/SampleType"), (.object "com/example/greenweft/greenweft/map/SampleType"), (.array (.object "com/example/greenweft/greenweft/map/SampleType"))]
  resolved := Array.replicate 74 none
  statics := some 0 }

def pool7 : Array CpInfo := pool [(1, u "java/lang/Cloneable"), (0, .class_ 1), (0, u "java/lang/Object"), (0, .class_ 3)] 3

/-- java/lang/Cloneable -/
def k7 : Class := { plain "java/lang/Cloneable" (some 0) with
  accessFlags := 1537
  interfaces := #[]
  cf := some (fileOf pool7 2 #[] #[] 1537 4 #[] #[])
  fields := #[]
  methods := #[]
  instanceTypes := #[]
  staticTypes := #[]
  resolved := Array.replicate 8 none
  statics := none }

/-- the primitive byte -/
def k8 : Class := { plain "byte" none with kind := .primitive 'B', accessFlags := 0x411 }
/-- [B -/
def k9 : Class := { plain "[B" (some 0) with kind := .array 8 .byte, interfaces := #[7, 4], accessFlags := 1041 }

/-- the primitive int -/
def k10 : Class := { plain "int" none with kind := .primitive 'I', accessFlags := 0x411 }
/-- [I -/
def k11 : Class := { plain "[I" (some 0) with kind := .array 10 .int, interfaces := #[7, 4], accessFlags := 1041 }

def heap : Heap := #[{ cls := 6, slots := #[.ref 1, .ref 8, .ref 4, .ref 5, .ref 3, .ref 7, .ref 2, .ref 6, .null], vm := .statics 6 },
  { cls := 6, slots := #[.null, .int 0, .int 0], vm := .none },
  { cls := 6, slots := #[.null, .int 6, .int 0], vm := .none },
  { cls := 6, slots := #[.null, .int 4, .int 0], vm := .none },
  { cls := 6, slots := #[.null, .int 2, .int 0], vm := .none },
  { cls := 6, slots := #[.null, .int 3, .int 0], vm := .none },
  { cls := 6, slots := #[.null, .int 7, .int 0], vm := .none },
  { cls := 6, slots := #[.null, .int 5, .int 0], vm := .none },
  { cls := 6, slots := #[.null, .int 1, .int 0], vm := .none }]
def classes : Array Class := #[k0, k1, k2, k3, k4, k5, k6, k7, k8, k9, k10, k11]
def interned : List (Array UInt16 × Addr) := []
def slotsUsed : Nat := 33
def theMethod : MethodId := ⟨1, 2⟩
def args0 : Array Value := #[.int 5, .int 5, .int 5, .long 5]
def aboutOver (below : List Frame) : State where
  vm := { classes := classes, interned := interned.toArray }
  heap := heap
  slotsUsed := slotsUsed
  threads := #[{ frames := .invoking theMethod args0 :: below }]
def below0 : List Frame := [.native { method := ⟨0, 0⟩, args := #[] }]
def about1 : State := aboutOver below0
def p0 : Program := .bare "" "" ""
def e0 : Env := launch0.env 0 0 0
theorem w_frames : about1.frames = Frame.invoking theMethod args0 :: below0 := rfl
set_option maxRecDepth 65536 in
theorem w_args : argsFit about1.vm theMethod args0 = true := by decide +kernel
set_option maxRecDepth 65536 in
theorem w_heap : heapFits about1 = true := by decide +kernel
set_option maxRecDepth 65536 in
theorem w_runnable : about1.curStatus? = some .runnable := by decide +kernel
set_option maxRecDepth 65536 in
theorem w_alone : about1.alone = true := by decide +kernel
set_option maxRecDepth 65536 in
theorem w_named : about1.methodNamed? x = some theMethod := by decide +kernel
set_option maxRecDepth 65536 in
theorem w_hears : about1.hears theMethod below0 = true := by decide +kernel
set_option maxRecDepth 65536 in
theorem w_ripe : about1.ripe theMethod args0 below0 = true := by decide +kernel
theorem w_running : about1.status = .running := rfl
set_option maxRecDepth 65536 in
theorem w_room : about1.hasRoom e0.platform room_1 = true :=
  launch0.hasRoom_least _ room_1 (by decide +kernel) (by decide +kernel) (by decide +kernel) (by decide +kernel) (by decide +kernel) (by decide +kernel)
theorem allAtoms_all (ts : List Jvm.Cond) (a : Array Jvm.Value) (st : Jvm.State) : (allAtoms ts).before a st = ts.all (fun c => c.before a st) := by
  induction ts with
  | nil => rfl
  | cons c t ih =>
    show (Jvm.Cond.and c (allAtoms t)).before a st = _
    rw [Jvm.Cond.before_and, ih, List.all_cons]
def words1 : List Jvm.Cond := Jvm.Cond.code x code maxLocals ret :: tables_1
/-- a 'code' word, met by the world's own term for the bytes: nothing is compared byte by byte -/
theorem code_word {y : MethodName} {bytes : ByteArray} {mx : Nat} {rt : Option FieldType} {a : Array Value} {s : State} {m : MethodId} {meth : Method} {c : Code} (h1 : s.methodNamed? y = some m) (h2 : s.vm.method? m = some meth) (h3 : meth.code = some c) (h4 : c.code = bytes)
    (h5 : (c.maxLocals == mx && c.exceptionTable.isEmpty && decide (c.maxStack ≤ mostOperands) && decide (meth.sig.returnType = rt) && !meth.locks && decide (parseMethodDescriptor y.desc = some meth.sig)) = true) : (Jvm.Cond.code y bytes mx rt).before a s = true := by
  simp only [Bool.and_eq_true, beq_iff_eq, Bool.not_eq_true', decide_eq_true_eq] at h5
  obtain ⟨⟨⟨⟨⟨g1, g2⟩, g3⟩, g4⟩, g5⟩, g6⟩ := h5
  simp [Cond.before, Cond.holds, Cond.value, h1, h2, h3, h4, g1, g2, g3, g4, g5, g6]
def isCode : Jvm.Cond → Bool
  | .code _ _ _ _ => true
  | _ => false
theorem all_split {L : List Jvm.Cond} {P : Jvm.Cond → Bool} (h1 : L.all (fun c => isCode c || P c) = true) (h2 : ∀ c ∈ L.filter isCode, P c = true) : L.all P = true := by
  refine List.all_eq_true.mpr fun c hc => ?_
  have h := List.all_eq_true.mp h1 c hc
  rcases Bool.eq_false_or_eq_true (isCode c) with hi | hi
  · exact h2 c (List.mem_filter.mpr ⟨hc, hi⟩)
  · simpa [hi] using h
set_option maxRecDepth 65536 in
theorem w_c0 : (Jvm.Cond.code x code maxLocals ret).before args0 about1 = true := code_word (m := ⟨1, 2⟩) (meth := k1m2) (c := k1c2) (by decide +kernel) rfl rfl rfl (by decide +kernel)
set_option maxRecDepth 65536 in
theorem w_c1 : (Jvm.Cond.code ({ cls := "com/example/greenweft/greenweft/map/SampleTypeStoredPinLaw", name := "pick", desc := "(I)Lcom/example/greenweft/greenweft/map/SampleType;" } : Jvm.MethodName) method_2_code (1 : Nat) (Option.some (Jvm.ClassFile.FieldType.object "com/example/greenweft/greenweft/map/SampleType"))).before args0 about1 = true := code_word (m := ⟨1, 1⟩) (meth := k1m1) (c := k1c1) (by decide +kernel) rfl rfl rfl (by decide +kernel)
set_option maxRecDepth 65536 in
theorem w_c2 : (Jvm.Cond.code ({ cls := "com/example/greenweft/greenweft/map/SampleType", name := "stored", desc := "(D)D" } : Jvm.MethodName) prog_10_method_4_code (3 : Nat) (Option.some Jvm.ClassFile.FieldType.double)).before args0 about1 = true := code_word (m := ⟨6, 0⟩) (meth := k6m0) (c := k6c0) (by decide +kernel) rfl rfl rfl (by decide +kernel)
def codes1 : List Jvm.Cond := [Jvm.Cond.code x code maxLocals ret, Jvm.Cond.code ({ cls := "com/example/greenweft/greenweft/map/SampleTypeStoredPinLaw", name := "pick", desc := "(I)Lcom/example/greenweft/greenweft/map/SampleType;" } : Jvm.MethodName) method_2_code (1 : Nat) (Option.some (Jvm.ClassFile.FieldType.object "com/example/greenweft/greenweft/map/SampleType")), Jvm.Cond.code ({ cls := "com/example/greenweft/greenweft/map/SampleType", name := "stored", desc := "(D)D" } : Jvm.MethodName) prog_10_method_4_code (3 : Nat) (Option.some Jvm.ClassFile.FieldType.double)]
set_option maxRecDepth 65536 in
theorem codes_eq : words1.filter isCode = codes1 := rfl
theorem w_codes : ∀ c ∈ words1.filter isCode, c.before args0 about1 = true := by
  rw [codes_eq]
  intro c hc
  simp only [codes1, List.mem_cons, List.not_mem_nil, or_false] at hc
  rcases hc with rfl | rfl | rfl
  · exact w_c0
  · exact w_c1
  · exact w_c2
set_option maxRecDepth 65536 in
theorem w_t1 : (words1.take 24).all (fun c => isCode c || c.before args0 about1) = true := by decide +kernel
set_option maxRecDepth 65536 in
theorem w_t2 : (words1.drop 24).all (fun c => isCode c || c.before args0 about1) = true := by decide +kernel
theorem w_tables : (allAtoms (Jvm.Cond.code x code maxLocals ret :: tables_1)).before args0 about1 = true := by
  rw [allAtoms_all]
  show words1.all (fun c => c.before args0 about1) = true
  refine all_split ?_ w_codes
  rw [← List.take_append_drop 24 words1, List.all_append, w_t1, w_t2]
  rfl
set_option maxRecDepth 65536 in
theorem w_case : (Jvm.Cond.and given_1 narrow_1).before args0 about1 = true := by decide +kernel
theorem w_applies : (headSpec (Jvm.Cond.code x code maxLocals ret :: tables_1) room_1).applies x e0.platform about1 = true :=
  (Spec.applies_iff w_frames).mpr ⟨w_running, w_runnable, w_alone, w_named, w_hears, w_ripe, w_room, w_tables⟩
theorem atStart : AtStart classFile x code maxLocals ret World_1 tables_1 room_1 Calls_1 rest_1 Pre_1 launch0 p0 e0 about1 theMethod args0 below0 :=
  ⟨lists_1, trivial, launch0.admits_env _ _ _, launch0.least_env, fairChoices_fair.cas, fairChoices_fair.clock, w_frames, w_args, w_heap, w_applies, trivial, trivial, w_case⟩
end start1
theorem witness_1 : WitnessClaimed_1 := ⟨start1.p0, start1.e0, start1.about1, start1.theMethod, start1.args0, start1.below0, start1.atStart⟩
end Jvm.Pilot.@@N@@
