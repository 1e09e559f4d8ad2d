import JvmDerived
import JvmDerived.Pilot.@@N@@Statement
import JvmDerived.Pilot.@@N@@Code
set_option linter.unusedVariables false
set_option linter.unusedSimpArgs false
namespace Jvm.RoadKit
open Sem ClassFile Op Lib Jvm.Stand Jvm.Free Jvm.LawKit
section New
variable {p : Program} {l : Launch} {e : Env} {R : Room} {s : State} {m : MethodId} {args : Array Value} {below : List Frame} {meth : Method} {c : Code} {T : State} {locs : List Loc} {cells slots : Nat}
theorem retI (X : Stand p l e R s m args below meth c T locs cells slots) (hx : p.tables.exec = Jvm.exec) {pc : Nat} {Ls : Array Slot} {z : Int32} {rest : List Value} (hret : meth.sig.returnType = some .int) (hd : decode c.code pc = .ok (.ireturn, 1)) {fs : List Frame}
    (hl : ∀ (f : JFrame) (acts : List Action), f.method = m → f.locked = none → f.entered = [] → (doReturn e (T.setTop f) acts (some (.int z))).1 = T.setFrames fs) : Steps p.tables e below (T.setTop (mkF m pc Ls (.int z :: rest))) (T.setFrames fs) := by
  have hm' : T.vm.method? m = some meth := X.method'
  have hn : narrow .int (.int z) = .int z := rfl
  show Steps p.tables e below (T.setTop { method := m, pc := pc, locals := Ls, stack := _ :: rest, locked := none }) _
  jvm_step X.here [X.here.top, hx, hd, hm', hret, hn]
  first | (intro acts; rw [hl _ acts rfl rfl rfl]) | rw [hl _ _ rfl rfl rfl]
  exact Steps.refl _
end New
end Jvm.RoadKit
@@BLOCK:NumsL.lean.txt@@
namespace Jvm.Pilot.@@N@@
open Jvm Jvm.ClassFile Sem Op Lib Jvm.Free Jvm.Stand Jvm.LawKit Jvm.RoadKit Bundle Jvm.Pilot.@@N@@.Jvm.D
abbrev oR0 : Room := { frames := 1, cells := 4, slots := 8, locals := 12 }
abbrev oR1 : Room := { frames := 2, cells := 4, slots := 8, locals := 29 }
abbrev oR2 : Room := { frames := 3, cells := 6, slots := 12, locals := 43 }
abbrev oR3 : Room := { frames := 0, cells := 0, slots := 0, locals := 0 }
abbrev oR4 : Room := { frames := 1, cells := 1, slots := 1, locals := 18 }
abbrev oR5 : Room := { frames := 2, cells := 1, slots := 1, locals := 35 }
abbrev oR6 : Room := { frames := 3, cells := 1, slots := 1, locals := 52 }
abbrev oR7 : Room := { frames := 4, cells := 3, slots := 6, locals := 66 }
abbrev oR8 : Room := { frames := 1, cells := 1, slots := 2, locals := 18 }
abbrev oR9 : Room := { frames := 2, cells := 1, slots := 2, locals := 35 }
abbrev oR10 : Room := { frames := 3, cells := 1, slots := 2, locals := 52 }
abbrev oR11 : Room := { frames := 4, cells := 3, slots := 8, locals := 66 }
abbrev oR12 : Room := { frames := 1, cells := 0, slots := 0, locals := 12 }
abbrev oR13 : Room := { frames := 2, cells := 6, slots := 64, locals := 24 }
abbrev oR14 : Room := { frames := 1, cells := 0, slots := 0, locals := 14 }
abbrev oR15 : Room := { frames := 2, cells := 0, slots := 0, locals := 28 }
abbrev oS (p : Program) (e : Env) (b : List Frame) (T : State) (f : JFrame) (t : State) : Prop := Steps p.tables e b (T.setTop f) t
theorem ow {a0 : Array Value} {Z : State} (hw : ∀ d ∈ tables_1, d.before a0 Z = true) (i : Nat) {c : Jvm.Cond} (h : tables_1[i]? = some c) : c.before a0 Z = true := hw _ (List.mem_of_getElem? h)
theorem own_decl {args : Array Value} {s : State} {y : MethodName} {bytes : ByteArray} {ml : Nat} {rt : Option FieldType} (h1 : (Jvm.Cond.instanceMethod y).before args s = true) (h2 : (Jvm.Cond.code y bytes ml rt).before args s = true) : (Jvm.Cond.declares y).before args s = true := by
  obtain ⟨m, meth, q1, q2, q3, -⟩ := Cond.instanceMethod_spec h1
  obtain ⟨meth', c, r1, -, -, -, -, -, -, r2⟩ := Cond.code_spec q1 h2
  cases q2.symm.trans r1
  simp [Cond.before, Cond.holds, Cond.value, q1, q2, q3, r2]
theorem own_same {args : Array Value} {s : State} {y z : MethodName} {C : String} (h1 : (Jvm.Cond.instanceMethod y).before args s = true) (h2 : (Jvm.Cond.selects C z z).before args s = true) (hc : z.cls = y.cls) (hx : y.cls ≠ "java/lang/invoke/MethodHandle" ∧ y.cls ≠ "java/lang/invoke/VarHandle") : (Jvm.Cond.sameMethod y.cls y.cls y.name y.desc).before args s = true := by
  obtain ⟨m, meth, q1, -⟩ := Cond.instanceMethod_spec h1
  obtain ⟨c, r, m', -, -, r3, -, mk, r5, r6⟩ := Cond.selects_spec h2
  have f := State.methodFound?_of_named q1 hx
  have c1 := findClass_of_methodNamed q1
  have c2 := findClass_of_methodNamed r3
  rw [hc, c1] at c2
  have e : m.cls = m'.cls := Option.some.inj c2
  rw [← e] at r5
  have q1' : s.methodNamed? ⟨y.cls, y.name, y.desc⟩ = some m := q1
  simp [Cond.before, Cond.holds, Cond.value, c1, f, q1', r5, r6]
theorem own_nf {args : Array Value} {s : State} {y z : MethodName} {C : String} (h2 : (Jvm.Cond.selects C z z).before args s = true) (hc : z.cls = y.cls) : NotFace s y := fun r0 h0 => by
  obtain ⟨c, r, m', -, -, r3, -, mk, r5, r6⟩ := Cond.selects_spec h2
  have c1 := findClass_of_methodNamed h0
  have c2 := findClass_of_methodNamed r3
  rw [hc, c1] at c2
  have e : r0.cls = m'.cls := Option.some.inj c2
  exact ⟨mk, by rw [e]; exact r5, r6⟩
theorem own_eqi {args : Array Value} {first s : State} {o : Option Outcome} {idx : List Nat} {t : Term} {k : Int32} (h : (Jvm.Cond.eq t (.int k)).value args first o s idx = some true) : t.eval args first o idx s = some (.int k) := by
  simp only [Cond.value, Term.eval] at h
  cases ht : t.eval args first o idx s with
  | none => simp [ht] at h
  | some x => cases x <;> simp [ht] at h ⊢; exact h
theorem own_eql {args : Array Value} {first s : State} {o : Option Outcome} {idx : List Nat} {t : Term} {k : Int64} (h : (Jvm.Cond.eq t (.long k)).value args first o s idx = some true) : t.eval args first o idx s = some (.long k) := by
  simp only [Cond.value, Term.eval] at h
  cases ht : t.eval args first o idx s with
  | none => simp [ht] at h
  | some x => cases x <;> simp [ht] at h ⊢; exact h
theorem own_eqr {args : Array Value} {first s : State} {o : Option Outcome} {idx : List Nat} {t u : Term} {a : Addr} (hu : u.eval args first o idx s = some (.ref a)) (h : (Jvm.Cond.eq t u).value args first o s idx = some true) : t.eval args first o idx s = some (.ref a) := by
  simp only [Cond.value, hu] at h
  cases ht : t.eval args first o idx s with
  | none => simp [ht] at h
  | some x => cases x <;> simp [ht] at h ⊢; exact h
theorem own_fld {args : Array Value} {s : State} {t : Term} {x : Addr} {C n d : String} {v : Value} (ht : t.eval args s none [] s = some (.ref x)) (h : (Term.field t C n d).eval args s none [] s = some v) : Fld s s.heap x C n d v := Fld.start ((fld_at ht).symm.trans h)
theorem own_exa_ns {Z : State} {h : Heap} {a : Addr} {C : String} (F : Exa Z h a C) : ∀ c : Cell, h[a]? = some c → c.vm.isStatics = false := fun c hc => by
  obtain ⟨cell, k, h1, -, -, h4, -⟩ := F
  cases h1.symm.trans hc
  exact h4
theorem own_sta_keep {Z : State} {h h' : Heap} {C n d : String} {v : Value} {ws : List Addr} (F : Sta Z h C n d v) (K : Keep h h' ws) (hn : ∀ x ∈ ws, ∀ c : Cell, h[x]? = some c → c.vm.isStatics = false) : Sta Z h' C n d v := by
  obtain ⟨cf, i, k, f, st, cell, h1, h2, h3, h4, h5, h6, h7⟩ := F
  refine ⟨cf, i, k, f, st, cell, h1, h2, h3, h4, K.2.1 st cell h5 (fun q => ?_), h6, h7⟩
  rw [hn st q cell h5] at h6
  cases h6
theorem own_len {args : Array Value} {s : State} {t : Term} {a : Addr} {c : Cell} {ty : FieldType} {k : Int32} (ev : t.eval args s none [] s = some (.ref a)) (A : Arr s s.heap a c ty) (h : (Jvm.Cond.eq (.length t) (.int k)).value args s none s [] = some true) : c.slots.size < 2 ^ 31 ∧ c.slots.size.toInt32 = k := by
  have e := own_eqi h
  have q := A.fin (Vm.Alike.refl _)
  by_cases hl : c.slots.size < 2 ^ 31
  · rw [len_f ev q hl] at e
    exact ⟨hl, Value.int.inj (Option.some.inj e)⟩
  · simp [Term.eval, ev, q, hl] at e
theorem own_elem {args : Array Value} {s : State} {t : Term} {a : Addr} {c : Cell} {j v : Int32} (ev : t.eval args s none [] s = some (.ref a)) (hc : s.heap[a]? = some c) (h : (Jvm.Cond.eq (.elem t (.int j)) (.int v)).value args s none s [] = some true) : c.slots[j.toNatClampNeg]? = some (.int v) :=
  (elem_in (own_eqi h) ev (Term.int_eval j) hc).2
theorem own_fun {Z : State} {h : Heap} {a : Addr} {C n d : String} {v w : Value} (F : Fld Z h a C n d v) (G : Fld Z h a C n d w) : v = w := by
  apply Classical.byContradiction
  intro q
  exact F.ne G q rfl
theorem own_safe_null {Z : State} {EL : List (String × Nat)} {vm : Vm} {h : Heap} {a : Addr} (hal : Z.vm.Alike vm) (E : Exa Z h a "java/lang/String") (F : Fld Z h a "java/lang/String" "value" "[B" .null) : Safe Z EL vm h a := fun B => by
  obtain ⟨cell, k, e1, e2, e3, -, -⟩ := E
  obtain ⟨p, -, u, a', -, q, -, G, rfl | rfl⟩ := B
  · obtain ⟨cS, ⟨⟨s1, s2, s3, ⟨cv, kv, iv, s4, s4'⟩, -, s6, s7, s8, s9, -⟩, hfS, hcS⟩, -⟩ := G
    obtain ⟨kv', z4⟩ := ff_back (U := Wst Z vm h) hal s4
    have F2 : Fld Z h q.sa "java/lang/String" "value" "[B" (.ref q.sd) := ⟨q.sC, cv, kv', iv, q.fSV, s1, z4, s6, s2, s3, by rw [← hal.assignable]; exact s4', s8⟩
    have := own_fun F F2
    cases this
  · cases (show h[q.sd]? = some q.SA from G.hd).symm.trans e1
    obtain ⟨cS, -, -, f, -⟩ := G
    have f : vm.findClass "[B" = some q.SA.cls := f
    rw [hal.findClass] at f
    obtain ⟨k1, q1, q2⟩ := Vm.findClass_spec f
    obtain ⟨k2, q3, q4⟩ := Vm.findClass_spec e2
    cases q1.symm.trans q3
    exact absurd (q2.symm.trans q4) (by decide)
def own_EL : List (String × Nat) := [("java/lang/String", 7)]
theorem own_EW {a0 : Array Value} {Z : State} (hw : ∀ d ∈ tables_1, d.before a0 Z = true) : EW Z a0 own_EL := EW.cons (ow hw 24 rfl) (by decide) EW.nil
def own_ty (p : Int32) (r0 r1 r2 r3 r4 r5 r6 r7 r8 : Addr) : Addr := if p = 0 then r0 else if p = 1 then r1 else if p = 2 then r2 else if p = 3 then r3 else if p = 4 then r4 else if p = 5 then r5 else if p = 6 then r6 else if p = 7 then r7 else r8
def own_st (p : Int32) (r0 r1 r2 r3 : Addr) : Addr := if p = 0 then r0 else if p = 1 then r1 else if p = 2 then r2 else r3
def own_ch (c : Int32) : Prop := ∃ k : Fin 256, c = Int32.ofNat k.val
theorem own_tch : ∀ k : Fin 256, nar .char (Int32.ofNat k.val) = Int32.ofNat k.val := by decide +kernel
theorem own_tlt : ∀ k : Fin 256, ¬ (255 : Int32) < Int32.ofNat k.val := by decide +kernel
theorem own_tby : ∀ k : Fin 256, ((nar .byte ((Int32.ofNat k.val).toInt8.toInt32)).toInt + 256) % 256 = (k.val : Int) := by decide +kernel
theorem own_chn {c : Int32} (h : own_ch c) : nar .char c = c := by obtain ⟨k, rfl⟩ := h; exact own_tch k
theorem own_ch255 {c : Int32} (h : own_ch c) : ¬ (255 : Int32) < nar .char c := by rw [own_chn h]; obtain ⟨k, rfl⟩ := h; exact own_tlt k
theorem own_bne {x y : Int32} (hx : own_ch x) (hy : own_ch y) (q : ¬ x = y) : ¬ (nar .byte ((nar .char x).toInt8.toInt32)) = (nar .byte ((nar .char y).toInt8.toInt32)) := fun e => by
  rw [own_chn hx, own_chn hy] at e
  obtain ⟨i, rfl⟩ := hx
  obtain ⟨j, rfl⟩ := hy
  have e1 := own_tby i
  have e2 := own_tby j
  rw [e, e2] at e1
  exact q (congrArg (fun z : Nat => Int32.ofNat z) (by omega))
theorem own_beq {x y : Int32} (q : x = y) : (nar .byte ((nar .char x).toInt8.toInt32)) = (nar .byte ((nar .char y).toInt8.toInt32)) := by rw [q]
def own_sd (N n1 n2 : Int32) (t1 t2 : Addr) (q1 q2 r1 r2 : Int32) : Int32 := if ¬ N = 0 ∧ n1 = n2 ∧ t1 = t2 ∧ q1 = q2 ∧ r1 = r2 then 1 else 0
def own_nz (x : Int32) : Int32 := if x = 0 then 0 else 1
def own_nzL (x : Int64) : Int32 := if x = (0 : Int64) then 0 else 1
def own_e1 (x0 y0 : Int32) : Int32 := if x0 = y0 then 1 else 0
def own_e2 (x0 y0 x1 y1 : Int32) : Int32 := if x0 = y0 ∧ x1 = y1 then 1 else 0
def own_ex (N p1 nb ta tb qa qb ra rb : Int32) : Int32 := if ¬ N = 0 ∧ p1 = nb ∧ ta = tb ∧ qa = qb ∧ ra = rb then 1 else 0
def own_in9 (t : Int32) : Prop := t = 0 ∨ t = 1 ∨ t = 2 ∨ t = 3 ∨ t = 4 ∨ t = 5 ∨ t = 6 ∨ t = 7 ∨ t = 8
theorem own_l15 (z : Int64) (k : Nat) (m : Int64) (hk : k < 5) (hm : m.toBitVec.toNat = 2 ^ k - 1) : (z &&& m).toInt32.toInt = z.toInt % 2 ^ k := by
  have e : (z &&& m).toInt = z.toInt % 2 ^ k := Jvm.Kit.i64_mask z m (k := k) (by omega) hm
  have hp : (0 : Int) < 2 ^ k := by have := Nat.two_pow_pos k; exact_mod_cast this
  have hp2 : (2 : Int) ^ k ≤ 2 ^ 4 := by have := Nat.pow_le_pow_right (n := 2) (by decide) (show k ≤ 4 by omega); exact_mod_cast this
  have r2 := Int.emod_nonneg z.toInt (Int.ne_of_gt hp)
  have r3 := Int.emod_lt_of_pos z.toInt hp
  rw [Jvm.Kit.i32_of_i64 (by omega) (by omega), e]
theorem own_t9 (z : Int64) : own_in9 (((z &&& (15 : Int64)).toInt32) % (9 : Int32)) := by
  have e := own_l15 z 4 15 (by decide) (by decide)
  have r : (((z &&& (15 : Int64)).toInt32) % (9 : Int32)).toInt = ((z &&& (15 : Int64)).toInt32).toInt % (9 : Int32).toInt := Jvm.Kit.i32_rem_nonneg (by rw [e]; omega)
  have o : (9 : Int32).toInt = 9 := rfl
  rw [o] at r
  unfold own_in9
  simp only [← Int32.toInt_inj]
  generalize (((z &&& (15 : Int64)).toInt32) % (9 : Int32)).toInt = y at *
  have q : y = 0 ∨ y = 1 ∨ y = 2 ∨ y = 3 ∨ y = 4 ∨ y = 5 ∨ y = 6 ∨ y = 7 ∨ y = 8 := by omega
  rcases q with rfl | rfl | rfl | rfl | rfl | rfl | rfl | rfl | rfl <;> decide
theorem own_t3 (z : Int64) : (((z &&& (3 : Int64)).toInt32) % (3 : Int32)) = (0 : Int32) ∨ (((z &&& (3 : Int64)).toInt32) % (3 : Int32)) = (1 : Int32) ∨ (((z &&& (3 : Int64)).toInt32) % (3 : Int32)) = (2 : Int32) := by
  have e := own_l15 z 2 3 (by decide) (by decide)
  have r : (((z &&& (3 : Int64)).toInt32) % (3 : Int32)).toInt = ((z &&& (3 : Int64)).toInt32).toInt % (3 : Int32).toInt := Jvm.Kit.i32_rem_nonneg (by rw [e]; omega)
  have o : (3 : Int32).toInt = 3 := rfl
  rw [o] at r
  simp only [← Int32.toInt_inj]
  generalize (((z &&& (3 : Int64)).toInt32) % (3 : Int32)).toInt = y at *
  have q : y = 0 ∨ y = 1 ∨ y = 2 := by omega
  rcases q with rfl | rfl | rfl <;> decide
theorem own_tcl : ∀ k : Fin 256, (Int32.ofNat k.val).toUInt32.toUInt16.toUInt32.toInt32 = Int32.ofNat k.val := by decide +kernel
theorem own_chL (z : Int64) : own_ch (((z &&& (255 : Int64)).toInt32).toUInt32.toUInt16.toUInt32.toInt32) := by
  have e : (z &&& (255 : Int64)).toInt = z.toInt % 2 ^ 8 := Jvm.Kit.i64_mask z 255 (k := 8) (by decide) (by decide)
  have e2 : (z &&& (255 : Int64)).toInt32.toInt = z.toInt % 2 ^ 8 := by rw [Jvm.Kit.i32_of_i64 (by omega) (by omega), e]
  generalize (z &&& (255 : Int64)).toInt32 = y at *
  have hy : y = Int32.ofNat y.toInt.toNat := by
    apply Int32.toInt_inj.mp
    rw [Int32.toInt_ofNat_small (by omega)]
    omega
  have h3 : y.toUInt32.toUInt16.toUInt32.toInt32 = y := by
    rw [hy]
    exact own_tcl ⟨y.toInt.toNat, by omega⟩
  exact ⟨⟨y.toInt.toNat, by omega⟩, h3.trans hy⟩
theorem own_nzb {x : Int64} {q : Int32} (h : q = own_nzL x) : nar .boolean q = q := by
  rw [h]; unfold own_nzL; split <;> decide
theorem own_tyord {Z : State} {h : Heap} {C n d : String} {r0 r1 r2 r3 r4 r5 r6 r7 r8 : Addr} (F0 : Fld Z h r0 C n d (.int (0 : Int32))) (F1 : Fld Z h r1 C n d (.int (1 : Int32))) (F2 : Fld Z h r2 C n d (.int (2 : Int32))) (F3 : Fld Z h r3 C n d (.int (3 : Int32))) (F4 : Fld Z h r4 C n d (.int (4 : Int32))) (F5 : Fld Z h r5 C n d (.int (5 : Int32))) (F6 : Fld Z h r6 C n d (.int (6 : Int32))) (F7 : Fld Z h r7 C n d (.int (7 : Int32))) (F8 : Fld Z h r8 C n d (.int (8 : Int32))) {t : Int32} (ht : own_in9 t) : Fld Z h (own_ty t r0 r1 r2 r3 r4 r5 r6 r7 r8) C n d (.int t) := by
  rcases ht with rfl | rfl | rfl | rfl | rfl | rfl | rfl | rfl | rfl
  · exact F0
  · exact F1
  · exact F2
  · exact F3
  · exact F4
  · exact F5
  · exact F6
  · exact F7
  · exact F8
theorem own_tyinj {Z : State} {h : Heap} {C n d : String} {r0 r1 r2 r3 r4 r5 r6 r7 r8 : Addr} (F0 : Fld Z h r0 C n d (.int (0 : Int32))) (F1 : Fld Z h r1 C n d (.int (1 : Int32))) (F2 : Fld Z h r2 C n d (.int (2 : Int32))) (F3 : Fld Z h r3 C n d (.int (3 : Int32))) (F4 : Fld Z h r4 C n d (.int (4 : Int32))) (F5 : Fld Z h r5 C n d (.int (5 : Int32))) (F6 : Fld Z h r6 C n d (.int (6 : Int32))) (F7 : Fld Z h r7 C n d (.int (7 : Int32))) (F8 : Fld Z h r8 C n d (.int (8 : Int32))) {t u : Int32} (ht : own_in9 t) (hu : own_in9 u) : own_ty t r0 r1 r2 r3 r4 r5 r6 r7 r8 = own_ty u r0 r1 r2 r3 r4 r5 r6 r7 r8 ↔ t = u := by
  constructor
  · intro q
    have a := own_tyord F0 F1 F2 F3 F4 F5 F6 F7 F8 ht
    have b := own_tyord F0 F1 F2 F3 F4 F5 F6 F7 F8 hu
    rw [q] at a
    exact Value.int.inj (own_fun a b)
  · intro q; rw [q]
theorem own_nz0 (ev : Int32) : own_nz ev = 0 ↔ ev = 0 := by
  unfold own_nz
  by_cases h : ev = 0
  · simp [h]
  · simp [h]
theorem own_n0 : own_nz (1 : Int32) = 0 ↔ (1 : Int32) = 0 := own_nz0 _
theorem own_n1 {a b : Int32} (ha : own_ch a) (hb : own_ch b) : own_nz (own_e1 (nar .byte ((nar .char a).toInt8.toInt32)) (nar .byte ((nar .char b).toInt8.toInt32))) = 0 ↔ own_e1 a b = 0 := by
  rw [own_nz0]
  unfold own_e1
  by_cases q : a = b
  · rw [if_pos q, if_pos (own_beq q)]
  · rw [if_neg q, if_neg (own_bne ha hb q)]
theorem own_n2 {a b c d : Int32} (ha : own_ch a) (hb : own_ch b) (hc : own_ch c) (hd : own_ch d) : own_nz (own_e2 (nar .byte ((nar .char a).toInt8.toInt32)) (nar .byte ((nar .char b).toInt8.toInt32)) (nar .byte ((nar .char c).toInt8.toInt32)) (nar .byte ((nar .char d).toInt8.toInt32))) = 0 ↔ own_e2 a b c d = 0 := by
  rw [own_nz0]
  unfold own_e2
  by_cases q : a = b
  · by_cases r : c = d
    · rw [if_pos ⟨own_beq q, own_beq r⟩, if_pos ⟨q, r⟩]
    · rw [if_neg (fun z => own_bne hc hd r z.2), if_neg (fun z => r z.2)]
  · rw [if_neg (fun z => own_bne ha hb q z.1), if_neg (fun z => q z.1)]
theorem own_sdx {N M p1 nb ta tb qa qb ra rb : Int32} {t u : Addr} (hN : N = 0 ↔ M = 0) (hty : t = u ↔ ta = tb) (ha : nar .boolean qa = qa) (hb : nar .boolean qb = qb) (hc : nar .boolean ra = ra) (hd : nar .boolean rb = rb) :
    own_sd N p1 nb t u (nar .boolean qa) (nar .boolean qb) (nar .boolean ra) (nar .boolean rb) = own_ex M p1 nb ta tb qa qb ra rb := by
  unfold own_sd own_ex
  rw [ha, hb, hc, hd]
  simp only [hN, hty]
theorem own_sd0 (n1 n2 : Int32) (t1 t2 : Addr) (q1 q2 r1 r2 : Int32) : own_sd (own_nz (0 : Int32)) n1 n2 t1 t2 q1 q2 r1 r2 = (0 : Int32) := if_neg (fun z => z.1 (by decide))
theorem own_wS {a0 : Array Value} {Z : State} (hw : ∀ d ∈ tables_1, d.before a0 Z = true) : ∀ a ∈ Bundle.stringAtoms, a.before a0 Z = true := by
  intro a ha
  simp only [Bundle.stringAtoms, List.mem_cons, List.not_mem_nil, or_false] at ha
  rcases ha with rfl | rfl | rfl | rfl | rfl | rfl | rfl
  · exact (ow hw 12 rfl)
  · exact (ow hw 11 rfl)
  · exact (ow hw 25 rfl)
  · exact (ow hw 26 rfl)
  · exact (ow hw 27 rfl)
  · exact (ow hw 28 rfl)
  · exact (ow hw 29 rfl)
abbrev lc0 (a : Addr) (s : Addr) : Array Slot := #[.val (.ref a), .val (.ref s), .val (.int (0 : Int32)), .val (.int (0 : Int32)), .val .null, .unset]
theorem d_jdk_42m149_0 : decode jdk_42_method_149_code 0 = .ok (.aload_n 0, 1) := by decide +kernel
theorem d_jdk_42m149_1 : decode jdk_42_method_149_code 1 = .ok (.invokespecial 1, 3) := by decide +kernel
theorem d_jdk_42m149_4 : decode jdk_42_method_149_code 4 = .ok (.iload_n 3, 1) := by decide +kernel
theorem d_jdk_42m149_5 : decode jdk_42_method_149_code 5 = .ok (.ifCond .ne 22, 3) := by decide +kernel
theorem d_jdk_42m149_8 : decode jdk_42_method_149_code 8 = .ok (.aload_n 0, 1) := by decide +kernel
theorem d_jdk_42m149_9 : decode jdk_42_method_149_code 9 = .ok (.ldc 7, 2) := by decide +kernel
theorem d_jdk_42m149_11 : decode jdk_42_method_149_code 11 = .ok (.getfield 9, 3) := by decide +kernel
theorem d_jdk_42m149_14 : decode jdk_42_method_149_code 14 = .ok (.putfield 9, 3) := by decide +kernel
theorem d_jdk_42m149_17 : decode jdk_42_method_149_code 17 = .ok (.aload_n 0, 1) := by decide +kernel
theorem d_jdk_42m149_18 : decode jdk_42_method_149_code 18 = .ok (.ldc 7, 2) := by decide +kernel
theorem d_jdk_42m149_20 : decode jdk_42_method_149_code 20 = .ok (.getfield 15, 3) := by decide +kernel
theorem d_jdk_42m149_23 : decode jdk_42_method_149_code 23 = .ok (.putfield 15, 3) := by decide +kernel
theorem d_jdk_42m149_26 : decode jdk_42_method_149_code 26 = .ok (.return_, 1) := by decide +kernel
theorem pn_0 : plainName "java/lang/String" = true := by first | (simp [plainName, overriddenIn]; done) | decide +kernel
theorem ef_str5_0 (mM : MethodId) (x0 : Addr) (x1 : Addr) (x2 : Int32) (x3 : Int32) : entryFrame mM #[(.ref x0), (.ref x1), (.int x2), (.int x3), .null] 6 = mkF mM 0 #[.val (.ref x0), .val (.ref x1), .val (.int x2), .val (.int x3), .val .null, .unset] [] := by first | (simp [entryFrame, mkF, argsToLocals, Value.category]; done) | rfl
def Q_str5_0 (Z : State) (a : Addr) (s : Addr) (ks : ClassId) (h0 : Heap) (n0 : Nat) (v_ : Option Value) (h_ : Heap) (L_ : List Loc) : Prop := ∃ d : Addr, ∃ kd : ClassId, v_ = none ∧ Fr n0 L_ ∧ Keep h0 h_ [a] ∧ Exa Z h_ a "java/lang/String" ∧ Fld Z h_ a "java/lang/String" "value" "[B" (.ref d) ∧ Fld Z h_ a "java/lang/String" "coder" "B" (.int (0 : Int32)) ∧ Arv Z h_ d kd .byte (0 : Int32) [] (.int (0 : Int32))
set_option maxRecDepth 65536 in
set_option maxHeartbeats 40000000 in
theorem rm_str5_0 (l : Launch) (Z : State) (a0 : Array Value) (hw : ∀ d ∈ tables_1, d.before a0 Z = true) (ws : List Jvm.Cond) (a : Addr) (s : Addr) (ks : ClassId) (h0 : Heap) (n0 : Nat) (Z0 : n0 ≤ h0.size) (F_value_a : Fld Z h0 a "java/lang/String" "value" "[B" .null) (F_coder_a : Fld Z h0 a "java/lang/String" "coder" "B" (.int (0 : Int32))) (E_a : Exa Z h0 a "java/lang/String") (g_a : n0 ≤ a) (V_s : Arv Z h0 s ks .char (0 : Int32) [] (.int (0 : Int32))) (nas : a ≠ s) :
    MetFree l (⟨"java/lang/String", "<init>", "([CIILjava/lang/Void;)V"⟩ : MethodName) (head1 (Jvm.Cond.code (⟨"java/lang/String", "<init>", "([CIILjava/lang/Void;)V"⟩ : MethodName) jdk_42_method_149_code 6 none :: ws) oR0) (fun aa_ U_ => aa_ = #[(.ref a), (.ref s), (.int (0 : Int32)), (.int (0 : Int32)), .null] ∧ Z.Warmed39 U_.vm ∧ U_.heap = h0 ∧ CHv Z own_EL U_.vm h0) (fun _ _ _ _ _ => True) (fun _ U_ o_ U'_ => ∃ v_ L_, o_ = .returned v_ ∧ Q_str5_0 Z a s ks h0 n0 v_ U'_.heap L_ ∧ CHr Z own_EL U_.vm U_.heap U'_.vm U'_.heap ∧ ReturnedEndW U_ o_ U'_ L_ oR0.cells oR0.slots) := by
  refine MetFree.of_bodySF (plainFor_of_name pn_0) hisR ?_
  intro pP eE sS mM argsA below meth cC s₁ Bd hml0 hP hK
  obtain ⟨rfl, hZ, hh, hCH⟩ := hP
  have hx := Bd.exec
  have hby := Bd.bytes
  have hml : cC.maxLocals = 6 := hml0
  have hown : sS.vm.findClass "java/lang/String" = some mM.cls := findClass_of_methodNamed Bd.named
  have hnm := (name_of_methodNamed Bd.named Bd.method).1
  have X0 : Stand pP l eE oR0 (sS.setVm sS.vm) mM #[(.ref a), (.ref s), (.int (0 : Int32)), (.int (0 : Int32)), .null] below meth cC s₁ [] 0 0 := Stand.of_body Bd
  have e0 : s₁.heap = h0 := by rw [← hh, Bd.state]; rfl
  have N0 := Fr.nil n0
  have pre0 : ∀ t_, Steps pP.tables eE below (s₁.setTop (mkF mM 0 #[.val (.ref a), .val (.ref s), .val (.int (0 : Int32)), .val (.int (0 : Int32)), .val .null, .unset] [])) t_ → Steps pP.tables eE below (s₁.setTop (entryFrame mM #[(.ref a), (.ref s), (.int (0 : Int32)), (.int (0 : Int32)), .null] 6)) t_ := fun t_ k_ => castTop (ef_str5_0 mM a s (0 : Int32) (0 : Int32)) k_
  have hZ : Z.Warmed39 (sS.setVm sS.vm).vm := hZ
  have hown : (sS.setVm sS.vm).vm.findClass "java/lang/String" = some mM.cls := hown
  have hS0 : sS.Since sS.vm 0 := (State.WarmedH.refl sS).since 0
  have hk0 : 0 ≤ h0.size := Nat.zero_le _
  have CR0 := CHr.refl hCH
  have Sf_a : Safe Z own_EL sS.vm h0 a := own_safe_null hZ.alike E_a F_value_a
  obtain ⟨T_1, X_1, e_1, st_1⟩ := initO X0 hx hZ hown (ow hw 21 rfl) (ow hw 22 rfl) (ow hw 23 rfl) e0 (g := (mkF mM 1 (lc0 a s) [(.ref a)])) rfl (by rw [hml]; rfl) rfl (hb hby d_jdk_42m149_1) (by decide) (W := 0) (by show 2 * 0 + _ ≤ _; exact Nat.le_of_eq rfl) (by decide)
  obtain ⟨a_2, T_2, h_2, k_2, d_2, kd_2, X_2, e_2, E_2, hS_2, hk_2, hZ_2, hown_2, Es_2, Fc_2, Fv_2, Vs_2, -, -, CH_2, -, Sf_2, st_2⟩ := ldcCH X_1 hx hZ hown (ow hw 24 rfl) (own_wS hw) e_1 hS0 hk0 (own_EW hw) (List.mem_of_getElem? (i := 0) rfl) CR0.1 (vs := []) (z := (0 : Int32)) ⟨by decide, rfl⟩ (by decide) rfl (g := (mkF mM 9 (lc0 a s) [(.ref a)])) rfl (hb hby d_jdk_42m149_9) (n := 0) (by decide) (by decide) (by decide) (by decide)
  have Z_2 : n0 ≤ h_2.size := (Nat.le_trans Z0 E_2.1)
  have K_2 : Keep h0 h_2 [a] := (Keep.refl h0 [a]).ext E_2
  have Ca_2 := CH_2
  have CR_2 := CR0.trans Ca_2
  have Sf_a_2 := Ca_2.safe E_a.lt Sf_a
  obtain ⟨T_3, X_3, e_3, st_3⟩ := getF X_2 hx hZ_2 hown_2 (host := "") (Or.inl (ow hw 30 rfl)) Via.refl e_2 Fv_2 (g := (mkF mM 11 (lc0 a s) [(.ref a_2), (.ref a)])) rfl rfl (hb hby d_jdk_42m149_11)
  obtain ⟨T_4, h_4, X_4, e_4, W_4, st_4⟩ := putF X_3 hx hZ_2 hown_2 (host := "") (Or.inl (ow hw 30 rfl)) Via.refl e_3 (F_value_a.ext E_2) (E_a.ext E_2) (Or.inr ⟨(ow hw 26 rfl), rfl, hnm⟩) (ow hw 11 rfl) (ty := (.array .byte)) (by decide) rfl rfl (g := (mkF mM 14 (lc0 a s) [(.ref d_2), (.ref a)])) rfl rfl (hb hby d_jdk_42m149_14)
  have Fw_4 := (F_value_a.ext E_2).same W_4
  have Z_4 : n0 ≤ h_4.size := (Nat.le_trans Z_2 (Keep.of_wr W_4).1)
  have K_4 : Keep h0 h_4 [a] := K_2.wr W_4 (Or.inl (List.mem_of_getElem? (i := 0) rfl))
  have hk_4 : _ ≤ h_4.size := Nat.le_trans hk_2 (Keep.of_wr W_4).1
  have Ca_4 := CHr.wr W_4 Sf_a_2 CR_2.1
  have CR_4 := CR_2.trans Ca_4
  have Sf_a_4 := Ca_4.safe (E_a.ext E_2).lt Sf_a_2
  have N_4 := Fr.snoc X_4 N0 g_a
  obtain ⟨a_5, T_5, h_5, k_5, d_5, kd_5, X_5, e_5, E_5, hS_5, hk_5, hZ_5, hown_5, Es_5, Fc_5, Fv_5, Vs_5, -, -, CH_5, -, Sf_5, st_5⟩ := ldcCH X_4 hx hZ_2 hown_2 (ow hw 24 rfl) (own_wS hw) e_4 hS_2 hk_4 (own_EW hw) (List.mem_of_getElem? (i := 0) rfl) CR_4.1 (vs := []) (z := (0 : Int32)) ⟨by decide, rfl⟩ (by decide) rfl (g := (mkF mM 18 (lc0 a s) [(.ref a)])) rfl (hb hby d_jdk_42m149_18) (n := 0) (by decide) (by decide) (by decide) (by decide)
  have Z_5 : n0 ≤ h_5.size := (Nat.le_trans Z_4 E_5.1)
  have K_5 : Keep h0 h_5 [a] := K_4.ext E_5
  have Ca_5 := CH_5
  have CR_5 := CR_4.trans Ca_5
  have Sf_a_5 := Ca_5.safe ((E_a.ext E_2).wr W_4).lt Sf_a_4
  obtain ⟨T_6, X_6, e_6, st_6⟩ := getF X_5 hx hZ_5 hown_5 (host := "") (Or.inl (ow hw 31 rfl)) Via.refl e_5 Fc_5 (g := (mkF mM 20 (lc0 a s) [(.ref a_5), (.ref a)])) rfl rfl (hb hby d_jdk_42m149_20)
  obtain ⟨T_7, h_7, X_7, e_7, W_7, st_7⟩ := putFN X_6 hx hZ_5 hown_5 (ow hw 31 rfl) Via.refl e_6 (((F_coder_a.ext E_2).other W_4 (Or.inr (slot_ne (Or.inr (ow hw 27 rfl)) (Or.inr (ow hw 26 rfl)) (by decide) (t := .byte) (t' := (.array .byte)) (by decide) (by decide)))).ext E_5) (((E_a.ext E_2).wr W_4).ext E_5) (Or.inr ⟨(ow hw 27 rfl), rfl, hnm⟩) (ow hw 11 rfl) (ty := .byte) (v' := (.int (0 : Int32))) (by decide) rfl rfl (g := (mkF mM 23 (lc0 a s) [(.int (0 : Int32)), (.ref a)])) rfl rfl (hb hby d_jdk_42m149_23)
  have Fw_7 := (((F_coder_a.ext E_2).other W_4 (Or.inr (slot_ne (Or.inr (ow hw 27 rfl)) (Or.inr (ow hw 26 rfl)) (by decide) (t := .byte) (t' := (.array .byte)) (by decide) (by decide)))).ext E_5).same W_7
  have Z_7 : n0 ≤ h_7.size := (Nat.le_trans Z_5 (Keep.of_wr W_7).1)
  have K_7 : Keep h0 h_7 [a] := K_5.wr W_7 (Or.inl (List.mem_of_getElem? (i := 0) rfl))
  have hk_7 : _ ≤ h_7.size := Nat.le_trans hk_5 (Keep.of_wr W_7).1
  have Ca_7 := CHr.wr W_7 Sf_a_5 CR_5.1
  have CR_7 := CR_5.trans Ca_7
  have Sf_a_7 := Ca_7.safe (((E_a.ext E_2).wr W_4).ext E_5).lt Sf_a_5
  have N_7 := Fr.snoc X_7 N_4 g_a
  have hCF : CHr Z own_EL sS.vm sS.heap T_7.vm T_7.heap := by rw [hh, e_7]; exact CR_7.trans (CHv.at X_7 hZ_5 (own_EW hw) CR_7.1)
  obtain ⟨fs, hr, hrun, hended, hRE⟩ := X_7.leaveW hS_5 (show _ ≤ T_7.heap.size by rw [e_7]; exact hk_7) (v := none) (fun _ => rfl)
  refine ⟨_, _, pre0 _ ?_, hrun, hended, _, _, rfl, ?_, hCF, ⟨_, rfl⟩, hRE.2.1, hRE.2.2.1, hRE.2.2.2.mono (by decide) (by decide)⟩
  · show oS pP eE below s₁ (mkF mM 0 (lc0 a s) []) _
    refine XS.aloadN X0.here hx rfl (hb hby d_jdk_42m149_0) rfl rfl ?_
    show oS pP eE below s₁ (mkF mM 1 (lc0 a s) [(.ref a)]) _
    refine st_1 _ ?_
    show oS pP eE below T_1 (mkF mM 4 (lc0 a s) []) _
    refine XS.iloadN X_1.here hx rfl (hb hby d_jdk_42m149_4) rfl ?_
    refine XS.ifNo X_1.here hx rfl (hb hby d_jdk_42m149_5) rfl (by decide) ?_
    refine XS.aloadN X_1.here hx rfl (hb hby d_jdk_42m149_8) rfl rfl ?_
    show oS pP eE below T_1 (mkF mM 9 (lc0 a s) [(.ref a)]) _
    refine st_2 _ ?_
    show oS pP eE below T_2 (mkF mM 11 (lc0 a s) [(.ref a_2), (.ref a)]) _
    refine st_3 _ ?_
    show oS pP eE below T_3 (mkF mM 14 (lc0 a s) [(.ref d_2), (.ref a)]) _
    refine st_4 _ ?_
    show oS pP eE below T_4 (mkF mM 17 (lc0 a s) []) _
    refine XS.aloadN X_4.here hx rfl (hb hby d_jdk_42m149_17) rfl rfl ?_
    show oS pP eE below T_4 (mkF mM 18 (lc0 a s) [(.ref a)]) _
    refine st_5 _ ?_
    show oS pP eE below T_5 (mkF mM 20 (lc0 a s) [(.ref a_5), (.ref a)]) _
    refine st_6 _ ?_
    show oS pP eE below T_6 (mkF mM 23 (lc0 a s) [(.int (0 : Int32)), (.ref a)]) _
    refine st_7 _ ?_
    show oS pP eE below T_7 (mkF mM 26 (lc0 a s) []) _
    exact X_7.returnOut hx Bd.returns (hb hby d_jdk_42m149_26) hr
  · show Q_str5_0 Z a s ks h0 n0 _ T_7.heap _
    rw [e_7]
    exact ⟨d_2, kd_2, rfl, N_7, K_7, ((((E_a.ext E_2).wr W_4).ext E_5).wr W_7), ((Fw_4.ext E_5).other W_7 (Or.inr (slot_ne (Or.inr (ow hw 26 rfl)) (Or.inr (ow hw 27 rfl)) (by decide) (t := (.array .byte)) (t' := .byte) (by decide) (by decide)))), Fw_7, (((Vs_2.other W_4 (Ne.symm (Sf_2 _ Sf_a_2).2)).ext E_5).other W_7 (Ne.symm (Sf_2 _ Sf_a_2).2))⟩
theorem d_jdk_42m3_0 : decode jdk_42_method_3_code 0 = .ok (.aload_n 0, 1) := by decide +kernel
theorem d_jdk_42m3_1 : decode jdk_42_method_3_code 1 = .ok (.aload_n 1, 1) := by decide +kernel
theorem d_jdk_42m3_2 : decode jdk_42_method_3_code 2 = .ok (.iconst 0, 1) := by decide +kernel
theorem d_jdk_42m3_3 : decode jdk_42_method_3_code 3 = .ok (.aload_n 1, 1) := by decide +kernel
theorem d_jdk_42m3_4 : decode jdk_42_method_3_code 4 = .ok (.arraylength, 1) := by decide +kernel
theorem d_jdk_42m3_5 : decode jdk_42_method_3_code 5 = .ok (.aconst_null, 1) := by decide +kernel
theorem d_jdk_42m3_6 : decode jdk_42_method_3_code 6 = .ok (.invokespecial 27, 3) := by decide +kernel
theorem pd_0 : parseMethodDescriptor "([CIILjava/lang/Void;)V" = some ⟨[(.array .char), .int, .int, (.object "java/lang/Void")], none⟩ := by decide +kernel
abbrev MN0 : MethodName := ⟨"java/lang/String", "<init>", "([CIILjava/lang/Void;)V"⟩
theorem d_jdk_42m3_9 : decode jdk_42_method_3_code 9 = .ok (.return_, 1) := by decide +kernel
theorem ef_str_0 (mM : MethodId) (x0 : Addr) (x1 : Addr) : entryFrame mM #[(.ref x0), (.ref x1)] 2 = mkF mM 0 #[.val (.ref x0), .val (.ref x1)] [] := by first | (simp [entryFrame, mkF, argsToLocals, Value.category]; done) | rfl
def Q_str_0 (Z : State) (a : Addr) (s : Addr) (ks : ClassId) (h0 : Heap) (n0 : Nat) (v_ : Option Value) (h_ : Heap) (L_ : List Loc) : Prop := ∃ d : Addr, ∃ kd : ClassId, v_ = none ∧ Fr n0 L_ ∧ Keep h0 h_ [a] ∧ Exa Z h_ a "java/lang/String" ∧ Fld Z h_ a "java/lang/String" "value" "[B" (.ref d) ∧ Fld Z h_ a "java/lang/String" "coder" "B" (.int (0 : Int32)) ∧ Arv Z h_ d kd .byte (0 : Int32) [] (.int (0 : Int32))
set_option maxRecDepth 65536 in
set_option maxHeartbeats 40000000 in
theorem rm_str_0 (l : Launch) (Z : State) (a0 : Array Value) (hw : ∀ d ∈ tables_1, d.before a0 Z = true) (ws : List Jvm.Cond) (a : Addr) (s : Addr) (ks : ClassId) (h0 : Heap) (n0 : Nat) (Z0 : n0 ≤ h0.size) (F_value_a : Fld Z h0 a "java/lang/String" "value" "[B" .null) (F_coder_a : Fld Z h0 a "java/lang/String" "coder" "B" (.int (0 : Int32))) (E_a : Exa Z h0 a "java/lang/String") (g_a : n0 ≤ a) (V_s : Arv Z h0 s ks .char (0 : Int32) [] (.int (0 : Int32))) (nas : a ≠ s) :
    MetFree l (⟨"java/lang/String", "<init>", "([C)V"⟩ : MethodName) (head1 (Jvm.Cond.code (⟨"java/lang/String", "<init>", "([C)V"⟩ : MethodName) jdk_42_method_3_code 2 none :: ws) oR1) (fun aa_ U_ => aa_ = #[(.ref a), (.ref s)] ∧ Z.Warmed39 U_.vm ∧ U_.heap = h0 ∧ CHv Z own_EL U_.vm h0) (fun _ _ _ _ _ => True) (fun _ U_ o_ U'_ => ∃ v_ L_, o_ = .returned v_ ∧ Q_str_0 Z a s ks h0 n0 v_ U'_.heap L_ ∧ CHr Z own_EL U_.vm U_.heap U'_.vm U'_.heap ∧ ReturnedEndW U_ o_ U'_ L_ oR1.cells oR1.slots) := by
  refine MetFree.of_bodySF (plainFor_of_name pn_0) hisR ?_
  intro pP eE sS mM argsA below meth cC s₁ Bd hml0 hP hK
  obtain ⟨rfl, hZ, hh, hCH⟩ := hP
  have hx := Bd.exec
  have hby := Bd.bytes
  have hml : cC.maxLocals = 2 := hml0
  have hown : sS.vm.findClass "java/lang/String" = some mM.cls := findClass_of_methodNamed Bd.named
  have hnm := (name_of_methodNamed Bd.named Bd.method).1
  have X0 : Stand pP l eE oR1 (sS.setVm sS.vm) mM #[(.ref a), (.ref s)] below meth cC s₁ [] 0 0 := Stand.of_body Bd
  have e0 : s₁.heap = h0 := by rw [← hh, Bd.state]; rfl
  have N0 := Fr.nil n0
  have pre0 : ∀ t_, Steps pP.tables eE below (s₁.setTop (mkF mM 0 #[.val (.ref a), .val (.ref s)] [])) t_ → Steps pP.tables eE below (s₁.setTop (entryFrame mM #[(.ref a), (.ref s)] 2)) t_ := fun t_ k_ => castTop (ef_str_0 mM a s) k_
  have hZ : Z.Warmed39 (sS.setVm sS.vm).vm := hZ
  have hown : (sS.setVm sS.vm).vm.findClass "java/lang/String" = some mM.cls := hown
  have hS0 : sS.Since sS.vm 0 := (State.WarmedH.refl sS).since 0
  have hk0 : 0 ≤ h0.size := Nat.zero_le _
  have CR0 := CHr.refl hCH
  obtain ⟨cl_1, Ar_1, -, Sa_1, Na_1, -, -⟩ := id V_s
  obtain ⟨_, _, ⟨T_2, L_2, k_2, n_2⟩, -, Xc_2, hSc_2, hgr_2, ⟨Lc_2, hQ_2, l_2, y_2, z_2, CHc_2⟩, st_2⟩ := X0.specialBackS hx (y := MN0) rfl hown (mvT hZ (ow hw 17 rfl)) (mvT hZ (ow hw 18 rfl)) (mvT hZ (ow hw 20 rfl)) (by decide) (backOfSH (W := 0) (rm_str5_0 l Z a0 hw [] a s ks h0 n0 Z0 F_value_a F_coder_a E_a g_a V_s nas) hZ (ow hw 20 rfl) (ow hw 12 rfl) (by decide) (by decide) (own_EW hw) CR0.1) (g := (mkF mM 6 #[.val (.ref a), .val (.ref s)] [.null, (.int (0 : Int32)), (.int (0 : Int32)), (.ref s), (.ref a)])) rfl (by rw [hml]; rfl) (Steps.refl _) (a := a) (argsL := [(.ref s), (.int (0 : Int32)), (.int (0 : Int32)), .null]) (rest := []) (lenOf pd_0 rfl) rfl (by show 2 * 0 + _ ≤ _; exact Nat.le_of_eq rfl) (hb hby d_jdk_42m3_6) (fun _ _ => ⟨rfl, e0, (by decide : 0 + 4 ≤ _), (by decide : 0 + 8 ≤ _)⟩)
  dsimp only [Pt.U, Pt.locs, Pt.cells, Pt.slots] at Xc_2 hSc_2 hgr_2 l_2 y_2 z_2 st_2 hQ_2 CHc_2
  subst l_2 y_2 z_2
  obtain ⟨X_2, hS_2, hZ_2, hown_2⟩ := rebS hS0 (show _ ≤ s₁.heap.size by rw [e0]; exact hk0) Xc_2 hSc_2 hgr_2 hZ hown
  obtain ⟨d__2, ⟨kd__2, ⟨rfl, N_2q, Kc_2, pfE_a_2, pfF_value_a_2, pfF_coder_a_2, pfV_d_2⟩⟩⟩ := hQ_2
  have Z_2 : n0 ≤ T_2.heap.size := (Nat.le_trans Z0 Kc_2.1)
  have K_2 : Keep h0 T_2.heap [a] := (Keep.refl h0 [a]).trans Kc_2 (allS (Or.inl (List.mem_of_getElem? (i := 0) rfl)) all0)
  have Ca_2 := CHc_2
  have CR_2 := CR0.trans Ca_2
  have hk_2 : _ ≤ T_2.heap.size := Nat.le_refl _
  have N_2 := Fr.app N0 N_2q
  have hCF : CHr Z own_EL sS.vm sS.heap T_2.vm T_2.heap := by rw [hh]; exact CR_2.trans (CHv.at X_2 hZ_2 (own_EW hw) CR_2.1)
  obtain ⟨fs, hr, hrun, hended, hRE⟩ := X_2.leaveW hS_2 hk_2 (v := none) (fun _ => rfl)
  refine ⟨_, _, pre0 _ ?_, hrun, hended, _, _, rfl, ?_, hCF, ⟨_, rfl⟩, hRE.2.1, hRE.2.2.1, hRE.2.2.2.mono (by decide) (by decide)⟩
  · show oS pP eE below s₁ (mkF mM 0 #[.val (.ref a), .val (.ref s)] []) _
    refine XS.aloadN X0.here hx rfl (hb hby d_jdk_42m3_0) rfl rfl ?_
    refine XS.aloadN X0.here hx rfl (hb hby d_jdk_42m3_1) rfl rfl ?_
    refine XS.iconst X0.here hx rfl (hb hby d_jdk_42m3_2) ?_
    refine XS.aloadN X0.here hx rfl (hb hby d_jdk_42m3_3) rfl rfl ?_
    show oS pP eE below s₁ (mkF mM 4 #[.val (.ref a), .val (.ref s)] [(.ref s), (.int (0 : Int32)), (.ref s), (.ref a)]) _
    refine X0.arraylength hx (by rw [e0]; exact Ar_1.1) (State.isArrayOf_alike hZ.alike Ar_1.2.1) (g := (mkF mM 4 #[.val (.ref a), .val (.ref s)] [(.ref s), (.int (0 : Int32)), (.ref s), (.ref a)])) rfl rfl (hb hby d_jdk_42m3_4) _ ?_
    rw [len_of Sa_1 Na_1]
    refine XS.aconstNull X0.here hx rfl (hb hby d_jdk_42m3_5) ?_
    show oS pP eE below s₁ (mkF mM 6 #[.val (.ref a), .val (.ref s)] [.null, (.int (0 : Int32)), (.int (0 : Int32)), (.ref s), (.ref a)]) _
    refine st_2.trans ?_
    show oS pP eE below T_2 (mkF mM 9 #[.val (.ref a), .val (.ref s)] []) _
    exact X_2.returnOut hx Bd.returns (hb hby d_jdk_42m3_9) hr
  · show Q_str_0 Z a s ks h0 n0 _ T_2.heap _
    exact ⟨d__2, kd__2, rfl, N_2, K_2, pfE_a_2, pfF_value_a_2, pfF_coder_a_2, pfV_d_2⟩
theorem d_method_2_0 : decode method_2_code 0 = .ok (.iload_n 0, 1) := by decide +kernel
theorem d_method_2_1 : decode method_2_code 1 = .ok (.ifCond .ne 14, 3) := by decide +kernel
theorem d_method_2_4 : decode method_2_code 4 = .ok (.new 7, 3) := by decide +kernel
theorem d_method_2_7 : decode method_2_code 7 = .ok (.dup, 1) := by decide +kernel
theorem d_method_2_8 : decode method_2_code 8 = .ok (.iconst 0, 1) := by decide +kernel
theorem d_method_2_9 : decode method_2_code 9 = .ok (.newarray .char, 2) := by decide +kernel
theorem d_method_2_11 : decode method_2_code 11 = .ok (.invokespecial 9, 3) := by decide +kernel
theorem pd_1 : parseMethodDescriptor "([C)V" = some ⟨[(.array .char)], none⟩ := by decide +kernel
abbrev MN1 : MethodName := ⟨"java/lang/String", "<init>", "([C)V"⟩
theorem d_method_2_14 : decode method_2_code 14 = .ok (.areturn, 1) := by decide +kernel
theorem pn_1 : plainName "com/example/rolling_rung/rollingrung/schema/FieldSameDefinitionPinLaw" = true := by first | (simp [plainName, overriddenIn]; done) | decide +kernel
theorem ef_mk0 (mM : MethodId) (x0 : Int32) (x1 : Int32) (x2 : Int32) : entryFrame mM #[(.int x0), (.int x1), (.int x2)] 3 = mkF mM 0 #[.val (.int x0), .val (.int x1), .val (.int x2)] [] := by first | (simp [entryFrame, mkF, argsToLocals, Value.category]; done) | rfl
def Q_mk0 (Z : State) (j0 : Int32) (j1 : Int32) (h0 : Heap) (n0 : Nat) (v_ : Option Value) (h_ : Heap) (L_ : List Loc) : Prop := ∃ g : Addr, ∃ d : Addr, ∃ kd : ClassId, v_ = some (.ref g) ∧ Fr n0 L_ ∧ Keep h0 h_ [] ∧ h0.size ≤ g ∧ Exa Z h_ g "java/lang/String" ∧ Fld Z h_ g "java/lang/String" "value" "[B" (.ref d) ∧ Fld Z h_ g "java/lang/String" "coder" "B" (.int (0 : Int32)) ∧ Arv Z h_ d kd .byte (0 : Int32) [] (.int (0 : Int32))
set_option maxRecDepth 65536 in
set_option maxHeartbeats 40000000 in
theorem rm_mk0 (l : Launch) (Z : State) (a0 : Array Value) (hw : ∀ d ∈ tables_1, d.before a0 Z = true) (ws : List Jvm.Cond) (j0 : Int32) (j1 : Int32) (h0 : Heap) (n0 : Nat) (Z0 : n0 ≤ h0.size) :
    MetFree l (⟨"com/example/rolling_rung/rollingrung/schema/FieldSameDefinitionPinLaw", "str", "(ICC)Ljava/lang/String;"⟩ : MethodName) (head1 (Jvm.Cond.code (⟨"com/example/rolling_rung/rollingrung/schema/FieldSameDefinitionPinLaw", "str", "(ICC)Ljava/lang/String;"⟩ : MethodName) method_2_code 3 (some (.object "java/lang/String")) :: ws) oR2) (fun aa_ U_ => aa_ = #[(.int (0 : Int32)), (.int j0), (.int j1)] ∧ Z.Warmed39 U_.vm ∧ U_.heap = h0 ∧ CHv Z own_EL U_.vm h0) (fun _ _ _ _ _ => True) (fun _ U_ o_ U'_ => ∃ v_ L_, o_ = .returned v_ ∧ Q_mk0 Z j0 j1 h0 n0 v_ U'_.heap L_ ∧ CHr Z own_EL U_.vm U_.heap U'_.vm U'_.heap ∧ ReturnedEndW U_ o_ U'_ L_ oR2.cells oR2.slots) := by
  refine MetFree.of_bodySF (plainFor_of_name pn_1) hisR ?_
  intro pP eE sS mM argsA below meth cC s₁ Bd hml0 hP hK
  obtain ⟨rfl, hZ, hh, hCH⟩ := hP
  have hx := Bd.exec
  have hby := Bd.bytes
  have hml : cC.maxLocals = 3 := hml0
  have hown : sS.vm.findClass "com/example/rolling_rung/rollingrung/schema/FieldSameDefinitionPinLaw" = some mM.cls := findClass_of_methodNamed Bd.named
  have hnm := (name_of_methodNamed Bd.named Bd.method).1
  have X0 : Stand pP l eE oR2 (sS.setVm sS.vm) mM #[(.int (0 : Int32)), (.int j0), (.int j1)] below meth cC s₁ [] 0 0 := Stand.of_body Bd
  have e0 : s₁.heap = h0 := by rw [← hh, Bd.state]; rfl
  have N0 := Fr.nil n0
  have pre0 : ∀ t_, Steps pP.tables eE below (s₁.setTop (mkF mM 0 #[.val (.int (0 : Int32)), .val (.int j0), .val (.int j1)] [])) t_ → Steps pP.tables eE below (s₁.setTop (entryFrame mM #[(.int (0 : Int32)), (.int j0), (.int j1)] 3)) t_ := fun t_ k_ => castTop (ef_mk0 mM (0 : Int32) j0 j1) k_
  have hZ : Z.Warmed39 (sS.setVm sS.vm).vm := hZ
  have hown : (sS.setVm sS.vm).vm.findClass "com/example/rolling_rung/rollingrung/schema/FieldSameDefinitionPinLaw" = some mM.cls := hown
  have hS0 : sS.Since sS.vm 0 := (State.WarmedH.refl sS).since 0
  have hk0 : 0 ≤ h0.size := Nat.zero_le _
  have CR0 := CHr.refl hCH
  obtain ⟨T_1, h_1, X_1, e_1, E_1, A_1, D_1, -, st_1⟩ := newO X0 hx hZ hown (ow hw 10 rfl) (ow hw 11 rfl) (ow hw 12 rfl) e0 (g := (mkF mM 4 #[.val (.int (0 : Int32)), .val (.int j0), .val (.int j1)] [])) rfl (hb hby d_method_2_4) (by decide) (by decide)
  obtain ⟨b_1, g_1⟩ : ∃ z, z = h0.size := ⟨_, rfl⟩
  rw [← g_1] at A_1 D_1 st_1
  have g_b_1 : n0 ≤ b_1 := Nat.le_trans Z0 (Nat.le_of_eq g_1.symm)
  have sz_b_1 : h0.size ≤ b_1 := Nat.le_trans (Keep.refl h0 []).1 (Nat.le_of_eq g_1.symm)
  have Z_1 : n0 ≤ h_1.size := (Nat.le_trans Z0 E_1.1)
  have K_1 : Keep h0 h_1 [] := (Keep.refl h0 []).ext E_1
  have hk_1 : _ ≤ h_1.size := Nat.le_trans hk0 E_1.1
  have Ca_1 := CHr.ext E_1 CR0.1
  have CR_1 := CR0.trans Ca_1
  have F_value_b_1__1 : Fld Z h_1 b_1 "java/lang/String" "value" "[B" .null := D_1 (Or.inr (ow hw 26 rfl)) (ty := (.array .byte)) (by decide)
  have F_coder_b_1__1 : Fld Z h_1 b_1 "java/lang/String" "coder" "B" (.int (0 : Int32)) := D_1 (Or.inr (ow hw 27 rfl)) (ty := .byte) (by decide)
  obtain ⟨T_2, h_2, k_2, X_2, e_2, E_2, A_2, st_2⟩ := newP X_1 hx hZ (ow hw 13 rfl) e_1 (g := (mkF mM 9 #[.val (.int (0 : Int32)), .val (.int j0), .val (.int j1)] [(.int (0 : Int32)), (.ref b_1), (.ref b_1)])) rfl (hb hby d_method_2_9) rfl (by decide) (cap := 0) (by decide) (by decide) (by decide) (by decide)
  obtain ⟨b_2, g_2⟩ : ∃ z, z = h_1.size := ⟨_, rfl⟩
  rw [← g_2] at A_2 st_2
  have g_b_2 : n0 ≤ b_2 := Nat.le_trans Z_1 (Nat.le_of_eq g_2.symm)
  have sz_b_2 : h0.size ≤ b_2 := Nat.le_trans K_1.1 (Nat.le_of_eq g_2.symm)
  have Z_2 : n0 ≤ h_2.size := (Nat.le_trans Z_1 E_2.1)
  have K_2 : Keep h0 h_2 [] := K_1.ext E_2
  have hk_2 : _ ≤ h_2.size := Nat.le_trans hk_1 E_2.1
  have Ca_2 := CHr.ext E_2 CR_1.1
  have CR_2 := CR_1.trans Ca_2
  have V_b_2 : Arv Z h_2 b_2 k_2 .char (0 : Int32) [] (.int (0 : Int32)) := (Arv.new A_2 (by decide)).pad (pad_rep [] (.int (0 : Int32)) 0)
  obtain ⟨_, _, ⟨T_3, L_3, k_3, n_3⟩, -, Xc_3, hSc_3, hgr_3, ⟨Lc_3, hQ_3, l_3, y_3, z_3, CHc_3⟩, st_3⟩ := X_2.specialBackS hx (y := MN1) rfl hown (mvT hZ (ow hw 14 rfl)) (mvT hZ (ow hw 15 rfl)) (mvT hZ (ow hw 16 rfl)) (by decide) (backOfSH (W := 1) (rm_str_0 l Z a0 hw [] b_1 b_2 k_2 h_2 n0 Z_2 (F_value_b_1__1.ext E_2) (F_coder_b_1__1.ext E_2) (A_1.ext E_2) g_b_1 V_b_2 (Nat.ne_of_lt (Nat.lt_of_lt_of_le A_1.lt (Nat.le_of_eq g_2.symm)))) hZ (ow hw 16 rfl) (ow hw 12 rfl) (by decide) (by decide) (own_EW hw) CR_2.1) (g := (mkF mM 11 #[.val (.int (0 : Int32)), .val (.int j0), .val (.int j1)] [(.ref b_2), (.ref b_1), (.ref b_1)])) rfl (by rw [hml]; rfl) (Steps.refl _) (a := b_1) (argsL := [(.ref b_2)]) (rest := [(.ref b_1)]) (lenOf pd_1 rfl) rfl (by show 2 * 0 + _ ≤ _; exact Nat.le_of_eq rfl) (hb hby d_method_2_11) (fun _ _ => ⟨rfl, e_2, (by decide : 2 + 4 ≤ _), (by decide : 4 + 8 ≤ _)⟩)
  dsimp only [Pt.U, Pt.locs, Pt.cells, Pt.slots] at Xc_3 hSc_3 hgr_3 l_3 y_3 z_3 st_3 hQ_3 CHc_3
  subst l_3 y_3 z_3
  obtain ⟨X_3, hS_3, hZ_3, hown_3⟩ := rebS hS0 (show _ ≤ T_2.heap.size by rw [e_2]; exact hk_2) Xc_3 hSc_3 hgr_3 hZ hown
  obtain ⟨d__3, ⟨kd__3, ⟨rfl, N_3q, Kc_3, pfE_a_3, pfF_value_a_3, pfF_coder_a_3, pfV_d_3⟩⟩⟩ := hQ_3
  have Z_3 : n0 ≤ T_3.heap.size := (Nat.le_trans Z_2 Kc_3.1)
  have K_3 : Keep h0 T_3.heap [] := K_2.trans Kc_3 (allS (Or.inr sz_b_1) all0)
  have Ca_3 := CHc_3
  have CR_3 := CR_2.trans Ca_3
  have hk_3 : _ ≤ T_3.heap.size := Nat.le_refl _
  have N_3 := Fr.app N0 N_3q
  have hCF : CHr Z own_EL sS.vm sS.heap T_3.vm T_3.heap := by rw [hh]; exact CR_3.trans (CHv.at X_3 hZ_3 (own_EW hw) CR_3.1)
  obtain ⟨fs, hr, hrun, hended, hRE⟩ := X_3.leaveW hS_3 hk_3 (v := some (.ref b_1)) (fun h => by rw [Bd.returns] at h; cases h)
  refine ⟨_, _, pre0 _ ?_, hrun, hended, _, _, rfl, ?_, hCF, ⟨_, rfl⟩, hRE.2.1, hRE.2.2.1, hRE.2.2.2.mono (by decide) (by decide)⟩
  · show oS pP eE below s₁ (mkF mM 0 #[.val (.int (0 : Int32)), .val (.int j0), .val (.int j1)] []) _
    refine XS.iloadN X0.here hx rfl (hb hby d_method_2_0) rfl ?_
    refine XS.ifNo X0.here hx rfl (hb hby d_method_2_1) rfl (by decide) ?_
    show oS pP eE below s₁ (mkF mM 4 #[.val (.int (0 : Int32)), .val (.int j0), .val (.int j1)] []) _
    refine st_1 _ ?_
    show oS pP eE below T_1 (mkF mM 7 #[.val (.int (0 : Int32)), .val (.int j0), .val (.int j1)] [(.ref b_1)]) _
    refine XS.dup X_1.here hx rfl (hb hby d_method_2_7) rfl rfl ?_
    refine XS.iconst X_1.here hx rfl (hb hby d_method_2_8) ?_
    show oS pP eE below T_1 (mkF mM 9 #[.val (.int (0 : Int32)), .val (.int j0), .val (.int j1)] [(.int (0 : Int32)), (.ref b_1), (.ref b_1)]) _
    refine st_2 _ ?_
    show oS pP eE below T_2 (mkF mM 11 #[.val (.int (0 : Int32)), .val (.int j0), .val (.int j1)] [(.ref b_2), (.ref b_1), (.ref b_1)]) _
    refine st_3.trans ?_
    show oS pP eE below T_3 (mkF mM 14 #[.val (.int (0 : Int32)), .val (.int j0), .val (.int j1)] [(.ref b_1)]) _
    exact retOut X_3 hx Bd.returns rfl (Or.inr (Or.inr (Or.inr (Or.inr ⟨rfl, rfl, rfl⟩)))) (hb hby d_method_2_14) hr
  · show Q_mk0 Z j0 j1 h0 n0 _ T_3.heap _
    exact ⟨b_1, d__3, kd__3, rfl, N_3, K_3, sz_b_1, pfE_a_3, pfF_value_a_3, pfF_coder_a_3, pfV_d_3⟩
abbrev lc1 (s : Addr) (d : Addr) : Array Slot := #[.val (.ref s), .val (.int (0 : Int32)), .val (.ref d), .val (.int (0 : Int32)), .val (.int (1 : Int32)), .unset, .unset]
theorem d_jdk_52m21_0 : decode jdk_52_method_21_code 0 = .ok (.iconst 0, 1) := by decide +kernel
theorem d_jdk_52m21_1 : decode jdk_52_method_21_code 1 = .ok (.istore 5, 2) := by decide +kernel
abbrev lc2 (s : Addr) (d : Addr) : Array Slot := #[.val (.ref s), .val (.int (0 : Int32)), .val (.ref d), .val (.int (0 : Int32)), .val (.int (1 : Int32)), .val (.int (0 : Int32)), .unset]
theorem d_jdk_52m21_3 : decode jdk_52_method_21_code 3 = .ok (.iload 5, 2) := by decide +kernel
theorem d_jdk_52m21_5 : decode jdk_52_method_21_code 5 = .ok (.iload 4, 2) := by decide +kernel
theorem d_jdk_52m21_7 : decode jdk_52_method_21_code 7 = .ok (.if_icmp .ge 37, 3) := by decide +kernel
theorem d_jdk_52m21_10 : decode jdk_52_method_21_code 10 = .ok (.aload_n 0, 1) := by decide +kernel
theorem d_jdk_52m21_11 : decode jdk_52_method_21_code 11 = .ok (.iload_n 1, 1) := by decide +kernel
theorem d_jdk_52m21_12 : decode jdk_52_method_21_code 12 = .ok (.caload, 1) := by decide +kernel
theorem d_jdk_52m21_13 : decode jdk_52_method_21_code 13 = .ok (.istore 6, 2) := by decide +kernel
abbrev lc3 (s : Addr) (d : Addr) (c0 : Int32) : Array Slot := #[.val (.ref s), .val (.int (0 : Int32)), .val (.ref d), .val (.int (0 : Int32)), .val (.int (1 : Int32)), .val (.int (0 : Int32)), .val (.int c0)]
theorem d_jdk_52m21_15 : decode jdk_52_method_21_code 15 = .ok (.iload 6, 2) := by decide +kernel
theorem d_jdk_52m21_17 : decode jdk_52_method_21_code 17 = .ok (.sipush 255, 3) := by decide +kernel
theorem d_jdk_52m21_20 : decode jdk_52_method_21_code 20 = .ok (.if_icmp .le 6, 3) := by decide +kernel
theorem d_jdk_52m21_26 : decode jdk_52_method_21_code 26 = .ok (.aload_n 2, 1) := by decide +kernel
theorem d_jdk_52m21_27 : decode jdk_52_method_21_code 27 = .ok (.iload_n 3, 1) := by decide +kernel
theorem d_jdk_52m21_28 : decode jdk_52_method_21_code 28 = .ok (.iload 6, 2) := by decide +kernel
theorem d_jdk_52m21_30 : decode jdk_52_method_21_code 30 = .ok (.i2b, 1) := by decide +kernel
theorem d_jdk_52m21_31 : decode jdk_52_method_21_code 31 = .ok (.bastore, 1) := by decide +kernel
theorem d_jdk_52m21_32 : decode jdk_52_method_21_code 32 = .ok (.iinc 1 1, 3) := by decide +kernel
abbrev lc4 (s : Addr) (d : Addr) (c0 : Int32) : Array Slot := #[.val (.ref s), .val (.int ((0 : Int32) + (1 : Int32))), .val (.ref d), .val (.int (0 : Int32)), .val (.int (1 : Int32)), .val (.int (0 : Int32)), .val (.int c0)]
abbrev lc5 (s : Addr) (d : Addr) (c0 : Int32) : Array Slot := #[.val (.ref s), .val (.int (1 : Int32)), .val (.ref d), .val (.int (0 : Int32)), .val (.int (1 : Int32)), .val (.int (0 : Int32)), .val (.int c0)]
theorem d_jdk_52m21_35 : decode jdk_52_method_21_code 35 = .ok (.iinc 3 1, 3) := by decide +kernel
abbrev lc6 (s : Addr) (d : Addr) (c0 : Int32) : Array Slot := #[.val (.ref s), .val (.int (1 : Int32)), .val (.ref d), .val (.int ((0 : Int32) + (1 : Int32))), .val (.int (1 : Int32)), .val (.int (0 : Int32)), .val (.int c0)]
abbrev lc7 (s : Addr) (d : Addr) (c0 : Int32) : Array Slot := #[.val (.ref s), .val (.int (1 : Int32)), .val (.ref d), .val (.int (1 : Int32)), .val (.int (1 : Int32)), .val (.int (0 : Int32)), .val (.int c0)]
theorem d_jdk_52m21_38 : decode jdk_52_method_21_code 38 = .ok (.iinc 5 1, 3) := by decide +kernel
abbrev lc8 (s : Addr) (d : Addr) (c0 : Int32) : Array Slot := #[.val (.ref s), .val (.int (1 : Int32)), .val (.ref d), .val (.int (1 : Int32)), .val (.int (1 : Int32)), .val (.int ((0 : Int32) + (1 : Int32))), .val (.int c0)]
theorem d_jdk_52m21_41 : decode jdk_52_method_21_code 41 = .ok (.goto (-38), 3) := by decide +kernel
theorem d_jdk_52m21_44 : decode jdk_52_method_21_code 44 = .ok (.iload 4, 2) := by decide +kernel
abbrev lc9 (s : Addr) (d : Addr) (c0 : Int32) : Array Slot := #[.val (.ref s), .val (.int (1 : Int32)), .val (.ref d), .val (.int (1 : Int32)), .val (.int (1 : Int32)), .val (.int (1 : Int32)), .val (.int c0)]
theorem d_jdk_52m21_46 : decode jdk_52_method_21_code 46 = .ok (.ireturn, 1) := by decide +kernel
theorem pn_2 : plainName "java/lang/StringUTF16" = true := by first | (simp [plainName, overriddenIn]; done) | decide +kernel
theorem ef_cmp5_1 (mM : MethodId) (x0 : Addr) (x1 : Int32) (x2 : Addr) (x3 : Int32) (x4 : Int32) : entryFrame mM #[(.ref x0), (.int x1), (.ref x2), (.int x3), (.int x4)] 7 = mkF mM 0 #[.val (.ref x0), .val (.int x1), .val (.ref x2), .val (.int x3), .val (.int x4), .unset, .unset] [] := by first | (simp [entryFrame, mkF, argsToLocals, Value.category]; done) | rfl
def Q_cmp5_1 (Z : State) (s : Addr) (d : Addr) (ks : ClassId) (kd : ClassId) (c0 : Int32) (h0 : Heap) (n0 : Nat) (v_ : Option Value) (h_ : Heap) (L_ : List Loc) : Prop := v_ = some (.int (1 : Int32)) ∧ Fr n0 L_ ∧ Keep h0 h_ [d] ∧ Arv Z h_ d kd .byte (1 : Int32) [(.int (nar .byte (c0.toInt8.toInt32)))] (.int (0 : Int32))
set_option maxRecDepth 65536 in
set_option maxHeartbeats 40000000 in
theorem rm_cmp5_1 (l : Launch) (Z : State) (a0 : Array Value) (hw : ∀ d ∈ tables_1, d.before a0 Z = true) (ws : List Jvm.Cond) (s : Addr) (d : Addr) (ks : ClassId) (kd : ClassId) (c0 : Int32) (h0 : Heap) (n0 : Nat) (Z0 : n0 ≤ h0.size) (V_s : Arv Z h0 s ks .char (1 : Int32) [(.int c0)] (.int (0 : Int32))) (V_d : Arv Z h0 d kd .byte (1 : Int32) [(.int (0 : Int32))] (.int (0 : Int32))) (g_d : n0 ≤ d) (nsd : s ≠ d) (hc0 : ¬ (255 : Int32) < c0) :
    MetFree l (⟨"java/lang/StringUTF16", "compress", "([CI[BII)I"⟩ : MethodName) (head1 (Jvm.Cond.code (⟨"java/lang/StringUTF16", "compress", "([CI[BII)I"⟩ : MethodName) jdk_52_method_21_code 7 (some .int) :: ws) oR3) (fun aa_ U_ => aa_ = #[(.ref s), (.int (0 : Int32)), (.ref d), (.int (0 : Int32)), (.int (1 : Int32))] ∧ Z.Warmed39 U_.vm ∧ U_.heap = h0) (fun _ _ _ _ _ => True) (fun _ U_ o_ U'_ => ∃ v_ L_, o_ = .returned v_ ∧ Q_cmp5_1 Z s d ks kd c0 h0 n0 v_ U'_.heap L_ ∧ FrameEnd U_ o_ U'_ L_ oR3.cells oR3.slots) := by
  refine MetFree.of_bodySF (plainFor_of_name pn_2) hisR ?_
  intro pP eE sS mM argsA below meth cC s₁ Bd hml0 hP hK
  obtain ⟨rfl, hZ, hh⟩ := hP
  have hx := Bd.exec
  have hby := Bd.bytes
  have hml : cC.maxLocals = 7 := hml0
  have hown : sS.vm.findClass "java/lang/StringUTF16" = some mM.cls := findClass_of_methodNamed Bd.named
  have hnm := (name_of_methodNamed Bd.named Bd.method).1
  have X0 : Stand pP l eE oR3 sS mM #[(.ref s), (.int (0 : Int32)), (.ref d), (.int (0 : Int32)), (.int (1 : Int32))] below meth cC s₁ [] 0 0 := Stand.of_body Bd
  have e0 : s₁.heap = h0 := by rw [← hh, Bd.state]; rfl
  have N0 := Fr.nil n0
  have pre0 : ∀ t_, Steps pP.tables eE below (s₁.setTop (mkF mM 0 #[.val (.ref s), .val (.int (0 : Int32)), .val (.ref d), .val (.int (0 : Int32)), .val (.int (1 : Int32)), .unset, .unset] [])) t_ → Steps pP.tables eE below (s₁.setTop (entryFrame mM #[(.ref s), (.int (0 : Int32)), (.ref d), (.int (0 : Int32)), (.int (1 : Int32))] 7)) t_ := fun t_ k_ => castTop (ef_cmp5_1 mM s (0 : Int32) d (0 : Int32) (1 : Int32)) k_
  obtain ⟨cl_1, Ar_1, qa_1, Sa_1, Na_1, Ha_1, Ga_1⟩ := id V_s
  have hin_1 : ¬ ((0 : Int32) < 0 ∨ cl_1.slots.size ≤ ((0 : Int32)).toNatClampNeg) := inb_of Sa_1 ⟨by decide, by decide⟩
  have hat_1 : cl_1.slots[((0 : Int32)).toNatClampNeg]? = some (.int c0) := Has.at Ha_1 hin_1 rfl
  obtain ⟨cl_2, Ar_2, qa_2, Sa_2, Na_2, Ha_2, Ga_2⟩ := id V_d
  have hin_2 : ¬ ((0 : Int32) < 0 ∨ cl_2.slots.size ≤ ((0 : Int32)).toNatClampNeg) := inb_of Sa_2 ⟨by decide, by decide⟩
  obtain ⟨T_2, h_2, X_2, e_2, W_2, st_2⟩ := stB X0 hx hZ e0 Ar_2 (j := (0 : Int32)) hin_2 (g := (mkF mM 31 (lc3 s d c0) [(.int (c0.toInt8.toInt32)), (.int (0 : Int32)), (.ref d)])) rfl rfl (hb hby d_jdk_52m21_31)
  have V_2 : Arv Z h_2 d kd .byte (1 : Int32) [(.int (nar .byte (c0.toInt8.toInt32)))] (.int (0 : Int32)) := Arv.set Ar_2 qa_2 Sa_2 Na_2 Ha_2 Ga_2 (fits_nar_byte _) W_2 0 rfl (Nat.le_of_ble_eq_true rfl)
  have Z_2 : n0 ≤ h_2.size := (Nat.le_trans Z0 (Keep.of_wr W_2).1)
  have K_2 : Keep h0 h_2 [d] := (Keep.refl h0 [d]).wr W_2 (Or.inl (List.mem_of_getElem? (i := 0) rfl))
  have N_2 := Fr.snoc X_2 N0 g_d
  obtain ⟨fs, hr, hrun, hended, hW, hsame⟩ := X_2.leave (v := some (.int (1 : Int32))) (fun h => by rw [Bd.returns] at h; cases h)
  refine ⟨_, _, pre0 _ ?_, hrun, hended, _, _, rfl, ?_, ⟨_, rfl⟩, hW, hsame.mono (by decide) (by decide)⟩
  · show oS pP eE below s₁ (mkF mM 0 (lc1 s d) []) _
    refine XS.iconst X0.here hx rfl (hb hby d_jdk_52m21_0) ?_
    refine XS.istore X0.here hx rfl (hb hby d_jdk_52m21_1) rfl (l' := (lc2 s d)) rfl ?_
    refine XS.iload X0.here hx rfl (hb hby d_jdk_52m21_3) rfl ?_
    refine XS.iload X0.here hx rfl (hb hby d_jdk_52m21_5) rfl ?_
    refine XS.icmpNo X0.here hx rfl (hb hby d_jdk_52m21_7) rfl (by decide) ?_
    refine XS.aloadN X0.here hx rfl (hb hby d_jdk_52m21_10) rfl rfl ?_
    refine XS.iloadN X0.here hx rfl (hb hby d_jdk_52m21_11) rfl ?_
    show oS pP eE below s₁ (mkF mM 12 (lc2 s d) [(.int (0 : Int32)), (.ref s)]) _
    refine X0.caload hx (j := (0 : Int32)) (v := (.int c0)) (by rw [e0]; exact Ar_1.1) (State.isArrayOf_alike hZ.alike Ar_1.2.1) Ar_1.2.2 hin_1 hat_1 (g := (mkF mM 12 (lc2 s d) [(.int (0 : Int32)), (.ref s)])) rfl rfl (hb hby d_jdk_52m21_12) _ ?_
    refine XS.istore X0.here hx rfl (hb hby d_jdk_52m21_13) rfl (l' := (lc3 s d c0)) rfl ?_
    refine XS.iload X0.here hx rfl (hb hby d_jdk_52m21_15) rfl ?_
    refine XS.sipush X0.here hx rfl (hb hby d_jdk_52m21_17) ?_
    refine XS.icmpYes X0.here hx rfl (pc0 := 20) (pc' := 26) rfl (hb hby d_jdk_52m21_20) rfl (XT.ii_le_t hc0) (by decide) (by decide) ?_
    refine XS.aloadN X0.here hx rfl (hb hby d_jdk_52m21_26) rfl rfl ?_
    refine XS.iloadN X0.here hx rfl (hb hby d_jdk_52m21_27) rfl ?_
    refine XS.iload X0.here hx rfl (hb hby d_jdk_52m21_28) rfl ?_
    show oS pP eE below s₁ (mkF mM 30 (lc3 s d c0) [(.int c0), (.int (0 : Int32)), (.ref d)]) _
    refine XT.i2b X0.here hx rfl (hb hby d_jdk_52m21_30) rfl ?_
    show oS pP eE below s₁ (mkF mM 31 (lc3 s d c0) [(.int (c0.toInt8.toInt32)), (.int (0 : Int32)), (.ref d)]) _
    refine st_2 _ ?_
    show oS pP eE below T_2 (mkF mM 32 (lc3 s d c0) []) _
    refine XS.iinc X_2.here hx rfl (hb hby d_jdk_52m21_32) rfl (l' := (lc4 s d c0)) rfl ?_
    show Steps pP.tables eE below (T_2.setTop (mkF mM 35 #[.val (.ref s), .val (.int ((0 : Int32) + (1 : Int32))), .val (.ref d), .val (.int (0 : Int32)), .val (.int (1 : Int32)), .val (.int (0 : Int32)), .val (.int c0)] [])) _
    rw [(by decide : ((0 : Int32) + (1 : Int32)) = (1 : Int32))]
    show oS pP eE below T_2 (mkF mM 35 (lc5 s d c0) []) _
    refine XS.iinc X_2.here hx rfl (hb hby d_jdk_52m21_35) rfl (l' := (lc6 s d c0)) rfl ?_
    show Steps pP.tables eE below (T_2.setTop (mkF mM 38 #[.val (.ref s), .val (.int (1 : Int32)), .val (.ref d), .val (.int ((0 : Int32) + (1 : Int32))), .val (.int (1 : Int32)), .val (.int (0 : Int32)), .val (.int c0)] [])) _
    rw [(by decide : ((0 : Int32) + (1 : Int32)) = (1 : Int32))]
    show oS pP eE below T_2 (mkF mM 38 (lc7 s d c0) []) _
    refine XS.iinc X_2.here hx rfl (hb hby d_jdk_52m21_38) rfl (l' := (lc8 s d c0)) rfl ?_
    show Steps pP.tables eE below (T_2.setTop (mkF mM 41 #[.val (.ref s), .val (.int (1 : Int32)), .val (.ref d), .val (.int (1 : Int32)), .val (.int (1 : Int32)), .val (.int ((0 : Int32) + (1 : Int32))), .val (.int c0)] [])) _
    rw [(by decide : ((0 : Int32) + (1 : Int32)) = (1 : Int32))]
    refine XS.goto X_2.here hx rfl (pc0 := 41) (pc' := 3) rfl (hb hby d_jdk_52m21_41) (by decide) (by decide) ?_
    refine XS.iload X_2.here hx rfl (hb hby d_jdk_52m21_3) rfl ?_
    refine XS.iload X_2.here hx rfl (hb hby d_jdk_52m21_5) rfl ?_
    refine XS.icmpYes X_2.here hx rfl (pc0 := 7) (pc' := 44) rfl (hb hby d_jdk_52m21_7) rfl (by decide) (by decide) (by decide) ?_
    refine XS.iload X_2.here hx rfl (hb hby d_jdk_52m21_44) rfl ?_
    show oS pP eE below T_2 (mkF mM 46 (lc9 s d c0) [(.int (1 : Int32))]) _
    exact retI X_2 hx Bd.returns (hb hby d_jdk_52m21_46) hr
  · show Q_cmp5_1 Z s d ks kd c0 h0 n0 _ T_2.heap _
    rw [e_2]
    exact ⟨rfl, N_2, K_2, V_2⟩
abbrev lc10 (s : Addr) : Array Slot := #[.val (.ref s), .val (.int (0 : Int32)), .val (.int (1 : Int32)), .unset, .unset, .unset]
theorem d_jdk_52m16_0 : decode jdk_52_method_16_code 0 = .ok (.iload_n 2, 1) := by decide +kernel
theorem d_jdk_52m16_1 : decode jdk_52_method_16_code 1 = .ok (.newarray .byte, 2) := by decide +kernel
theorem d_jdk_52m16_3 : decode jdk_52_method_16_code 3 = .ok (.astore_n 3, 1) := by decide +kernel
abbrev lc11 (s : Addr) (b_1 : Addr) : Array Slot := #[.val (.ref s), .val (.int (0 : Int32)), .val (.int (1 : Int32)), .val (.ref b_1), .unset, .unset]
theorem d_jdk_52m16_4 : decode jdk_52_method_16_code 4 = .ok (.aload_n 0, 1) := by decide +kernel
theorem d_jdk_52m16_5 : decode jdk_52_method_16_code 5 = .ok (.iload_n 1, 1) := by decide +kernel
theorem d_jdk_52m16_6 : decode jdk_52_method_16_code 6 = .ok (.aload_n 3, 1) := by decide +kernel
theorem d_jdk_52m16_7 : decode jdk_52_method_16_code 7 = .ok (.iconst 0, 1) := by decide +kernel
theorem d_jdk_52m16_8 : decode jdk_52_method_16_code 8 = .ok (.iload_n 2, 1) := by decide +kernel
theorem d_jdk_52m16_9 : decode jdk_52_method_16_code 9 = .ok (.invokestatic 115, 3) := by decide +kernel
theorem pd_2 : parseMethodDescriptor "([CI[BII)I" = some ⟨[(.array .char), .int, (.array .byte), .int, .int], some .int⟩ := by decide +kernel
abbrev MN2 : MethodName := ⟨"java/lang/StringUTF16", "compress", "([CI[BII)I"⟩
theorem d_jdk_52m16_12 : decode jdk_52_method_16_code 12 = .ok (.istore 4, 2) := by decide +kernel
abbrev lc12 (s : Addr) (b_1 : Addr) : Array Slot := #[.val (.ref s), .val (.int (0 : Int32)), .val (.int (1 : Int32)), .val (.ref b_1), .val (.int (1 : Int32)), .unset]
theorem d_jdk_52m16_14 : decode jdk_52_method_16_code 14 = .ok (.iload 4, 2) := by decide +kernel
theorem d_jdk_52m16_16 : decode jdk_52_method_16_code 16 = .ok (.iload_n 2, 1) := by decide +kernel
theorem d_jdk_52m16_17 : decode jdk_52_method_16_code 17 = .ok (.if_icmp .eq 40, 3) := by decide +kernel
theorem d_jdk_52m16_57 : decode jdk_52_method_16_code 57 = .ok (.aload_n 3, 1) := by decide +kernel
theorem d_jdk_52m16_58 : decode jdk_52_method_16_code 58 = .ok (.areturn, 1) := by decide +kernel
theorem ef_cmp3_1 (mM : MethodId) (x0 : Addr) (x1 : Int32) (x2 : Int32) : entryFrame mM #[(.ref x0), (.int x1), (.int x2)] 6 = mkF mM 0 #[.val (.ref x0), .val (.int x1), .val (.int x2), .unset, .unset, .unset] [] := by first | (simp [entryFrame, mkF, argsToLocals, Value.category]; done) | rfl
def Q_cmp3_1 (Z : State) (s : Addr) (ks : ClassId) (c0 : Int32) (h0 : Heap) (n0 : Nat) (v_ : Option Value) (h_ : Heap) (L_ : List Loc) : Prop := ∃ d : Addr, ∃ kd : ClassId, v_ = some (.ref d) ∧ Fr n0 L_ ∧ Keep h0 h_ [] ∧ h0.size ≤ d ∧ Arv Z h_ d kd .byte (1 : Int32) [(.int (nar .byte (c0.toInt8.toInt32)))] (.int (0 : Int32))
set_option maxRecDepth 65536 in
set_option maxHeartbeats 40000000 in
theorem rm_cmp3_1 (l : Launch) (Z : State) (a0 : Array Value) (hw : ∀ d ∈ tables_1, d.before a0 Z = true) (ws : List Jvm.Cond) (s : Addr) (ks : ClassId) (c0 : Int32) (h0 : Heap) (n0 : Nat) (Z0 : n0 ≤ h0.size) (V_s : Arv Z h0 s ks .char (1 : Int32) [(.int c0)] (.int (0 : Int32))) (hc0 : ¬ (255 : Int32) < c0) :
    MetFree l (⟨"java/lang/StringUTF16", "compress", "([CII)[B"⟩ : MethodName) (head1 (Jvm.Cond.code (⟨"java/lang/StringUTF16", "compress", "([CII)[B"⟩ : MethodName) jdk_52_method_16_code 6 (some (.array .byte)) :: ws) oR4) (fun aa_ U_ => aa_ = #[(.ref s), (.int (0 : Int32)), (.int (1 : Int32))] ∧ Z.Warmed39 U_.vm ∧ U_.heap = h0) (fun _ _ _ _ _ => True) (fun _ U_ o_ U'_ => ∃ v_ L_, o_ = .returned v_ ∧ Q_cmp3_1 Z s ks c0 h0 n0 v_ U'_.heap L_ ∧ FrameEnd U_ o_ U'_ L_ oR4.cells oR4.slots) := by
  refine MetFree.of_bodySF (plainFor_of_name pn_2) hisR ?_
  intro pP eE sS mM argsA below meth cC s₁ Bd hml0 hP hK
  obtain ⟨rfl, hZ, hh⟩ := hP
  have hx := Bd.exec
  have hby := Bd.bytes
  have hml : cC.maxLocals = 6 := hml0
  have hown : sS.vm.findClass "java/lang/StringUTF16" = some mM.cls := findClass_of_methodNamed Bd.named
  have hnm := (name_of_methodNamed Bd.named Bd.method).1
  have X0 : Stand pP l eE oR4 sS mM #[(.ref s), (.int (0 : Int32)), (.int (1 : Int32))] below meth cC s₁ [] 0 0 := Stand.of_body Bd
  have e0 : s₁.heap = h0 := by rw [← hh, Bd.state]; rfl
  have N0 := Fr.nil n0
  have pre0 : ∀ t_, Steps pP.tables eE below (s₁.setTop (mkF mM 0 #[.val (.ref s), .val (.int (0 : Int32)), .val (.int (1 : Int32)), .unset, .unset, .unset] [])) t_ → Steps pP.tables eE below (s₁.setTop (entryFrame mM #[(.ref s), (.int (0 : Int32)), (.int (1 : Int32))] 6)) t_ := fun t_ k_ => castTop (ef_cmp3_1 mM s (0 : Int32) (1 : Int32)) k_
  obtain ⟨T_1, h_1, k_1, X_1, e_1, E_1, A_1, st_1⟩ := newP X0 hx hZ (ow hw 25 rfl) e0 (g := (mkF mM 1 (lc10 s) [(.int (1 : Int32))])) rfl (hb hby d_jdk_52m16_1) rfl (by decide) (cap := 1) (by decide) (by decide) (by decide) (by decide)
  obtain ⟨b_1, g_1⟩ : ∃ z, z = h0.size := ⟨_, rfl⟩
  rw [← g_1] at A_1 st_1
  have g_b_1 : n0 ≤ b_1 := Nat.le_trans Z0 (Nat.le_of_eq g_1.symm)
  have sz_b_1 : h0.size ≤ b_1 := Nat.le_trans (Keep.refl h0 []).1 (Nat.le_of_eq g_1.symm)
  have Z_1 : n0 ≤ h_1.size := (Nat.le_trans Z0 E_1.1)
  have K_1 : Keep h0 h_1 [] := (Keep.refl h0 []).ext E_1
  have V_b_1 : Arv Z h_1 b_1 k_1 .byte (1 : Int32) [(.int (0 : Int32))] (.int (0 : Int32)) := (Arv.new A_1 (by decide)).pad (pad_rep [] (.int (0 : Int32)) 1)
  obtain ⟨_, _, ⟨T_2, L_2, k_2, n_2⟩, -, X_2, ⟨Lc_2, hQ_2, l_2, y_2, z_2⟩, st_2⟩ := Jvm.LawKit.callS X_1 hx (y := MN2) hown (mvT hZ (ow hw 102 rfl)) (mvT hZ (ow hw 103 rfl)) (mvT hZ (ow hw 100 rfl)) (mvT hZ (ow hw 104 rfl)) (by decide) (backOf (W := 0) (rm_cmp5_1 l Z a0 hw [] s b_1 ks k_1 c0 h_1 n0 Z_1 (V_s.ext E_1) V_b_1 g_b_1 (Nat.ne_of_lt (Nat.lt_of_lt_of_le V_s.lt (Nat.le_of_eq g_1.symm))) hc0) hZ (ow hw 104 rfl) (ow hw 100 rfl) (by decide) (by decide)) (g := (mkF mM 9 (lc11 s b_1) [(.int (1 : Int32)), (.int (0 : Int32)), (.ref b_1), (.int (0 : Int32)), (.ref s)])) rfl (by rw [hml]; rfl) (argsL := [(.ref s), (.int (0 : Int32)), (.ref b_1), (.int (0 : Int32)), (.int (1 : Int32))]) (rest := []) (lenOf pd_2 rfl) rfl (by show 2 * 0 + _ ≤ _; exact Nat.le_of_eq rfl) (hb hby d_jdk_52m16_9) (fun _ _ => ⟨rfl, e_1, (by decide : 1 + 0 ≤ _), (by decide : 1 + 0 ≤ _)⟩)
  dsimp only [Pt.U, Pt.locs, Pt.cells, Pt.slots] at X_2 l_2 y_2 z_2 st_2 hQ_2
  subst l_2 y_2 z_2
  obtain ⟨rfl, N_2q, Kc_2, pfV_d_2⟩ := hQ_2
  have Z_2 : n0 ≤ T_2.heap.size := (Nat.le_trans Z_1 Kc_2.1)
  have K_2 : Keep h0 T_2.heap [] := K_1.trans Kc_2 (allS (Or.inr sz_b_1) all0)
  have N_2 := Fr.app N0 N_2q
  obtain ⟨fs, hr, hrun, hended, hW, hsame⟩ := X_2.leave (v := some (.ref b_1)) (fun h => by rw [Bd.returns] at h; cases h)
  refine ⟨_, _, pre0 _ ?_, hrun, hended, _, _, rfl, ?_, ⟨_, rfl⟩, hW, hsame.mono (by decide) (by decide)⟩
  · show oS pP eE below s₁ (mkF mM 0 (lc10 s) []) _
    refine XS.iloadN X0.here hx rfl (hb hby d_jdk_52m16_0) rfl ?_
    show oS pP eE below s₁ (mkF mM 1 (lc10 s) [(.int (1 : Int32))]) _
    refine st_1 _ ?_
    show oS pP eE below T_1 (mkF mM 3 (lc10 s) [(.ref b_1)]) _
    refine XS.astoreN X_1.here hx rfl (hb hby d_jdk_52m16_3) rfl rfl (l' := (lc11 s b_1)) rfl ?_
    refine XS.aloadN X_1.here hx rfl (hb hby d_jdk_52m16_4) rfl rfl ?_
    refine XS.iloadN X_1.here hx rfl (hb hby d_jdk_52m16_5) rfl ?_
    refine XS.aloadN X_1.here hx rfl (hb hby d_jdk_52m16_6) rfl rfl ?_
    refine XS.iconst X_1.here hx rfl (hb hby d_jdk_52m16_7) ?_
    refine XS.iloadN X_1.here hx rfl (hb hby d_jdk_52m16_8) rfl ?_
    show oS pP eE below T_1 (mkF mM 9 (lc11 s b_1) [(.int (1 : Int32)), (.int (0 : Int32)), (.ref b_1), (.int (0 : Int32)), (.ref s)]) _
    refine st_2 _ ?_
    show oS pP eE below T_2 (mkF mM 12 (lc11 s b_1) [(.int (1 : Int32))]) _
    refine XS.istore X_2.here hx rfl (hb hby d_jdk_52m16_12) rfl (l' := (lc12 s b_1)) rfl ?_
    refine XS.iload X_2.here hx rfl (hb hby d_jdk_52m16_14) rfl ?_
    refine XS.iloadN X_2.here hx rfl (hb hby d_jdk_52m16_16) rfl ?_
    refine XS.icmpYes X_2.here hx rfl (pc0 := 17) (pc' := 57) rfl (hb hby d_jdk_52m16_17) rfl (by decide) (by decide) (by decide) ?_
    refine XS.aloadN X_2.here hx rfl (hb hby d_jdk_52m16_57) rfl rfl ?_
    show oS pP eE below T_2 (mkF mM 58 (lc12 s b_1) [(.ref b_1)]) _
    exact retOut X_2 hx Bd.returns rfl (Or.inr (Or.inr (Or.inr (Or.inr ⟨rfl, rfl, rfl⟩)))) (hb hby d_jdk_52m16_58) hr
  · show Q_cmp3_1 Z s ks c0 h0 n0 _ T_2.heap _
    exact ⟨b_1, k_1, rfl, N_2, K_2, sz_b_1, pfV_d_2⟩
theorem d_jdk_52m15_0 : decode jdk_52_method_15_code 0 = .ok (.iload_n 1, 1) := by decide +kernel
theorem d_jdk_52m15_1 : decode jdk_52_method_15_code 1 = .ok (.aload_n 0, 1) := by decide +kernel
theorem d_jdk_52m15_2 : decode jdk_52_method_15_code 2 = .ok (.arraylength, 1) := by decide +kernel
theorem d_jdk_52m15_3 : decode jdk_52_method_15_code 3 = .ok (.isub, 1) := by decide +kernel
theorem d_jdk_52m15_4 : decode jdk_52_method_15_code 4 = .ok (.bipush 31, 2) := by decide +kernel
theorem d_jdk_52m15_6 : decode jdk_52_method_15_code 6 = .ok (.iushr, 1) := by decide +kernel
theorem d_jdk_52m15_7 : decode jdk_52_method_15_code 7 = .ok (.i2b, 1) := by decide +kernel
theorem d_jdk_52m15_8 : decode jdk_52_method_15_code 8 = .ok (.ireturn, 1) := by decide +kernel
theorem ef_cfl_1 (mM : MethodId) (x0 : Addr) (x1 : Int32) : entryFrame mM #[(.ref x0), (.int x1)] 2 = mkF mM 0 #[.val (.ref x0), .val (.int x1)] [] := by first | (simp [entryFrame, mkF, argsToLocals, Value.category]; done) | rfl
def Q_cfl_1 (Z : State) (d : Addr) (kd : ClassId) (w0 : Int32) (h0 : Heap) (n0 : Nat) (v_ : Option Value) (h_ : Heap) (L_ : List Loc) : Prop := v_ = some (.int (0 : Int32)) ∧ Fr n0 L_ ∧ h_ = h0
set_option maxRecDepth 65536 in
set_option maxHeartbeats 40000000 in
theorem rm_cfl_1 (l : Launch) (Z : State) (a0 : Array Value) (hw : ∀ d ∈ tables_1, d.before a0 Z = true) (ws : List Jvm.Cond) (d : Addr) (kd : ClassId) (w0 : Int32) (h0 : Heap) (n0 : Nat) (Z0 : n0 ≤ h0.size) (V_d : Arv Z h0 d kd .byte (1 : Int32) [(.int w0)] (.int (0 : Int32))) :
    MetFree l (⟨"java/lang/StringUTF16", "coderFromArrayLen", "([BI)B"⟩ : MethodName) (head1 (Jvm.Cond.code (⟨"java/lang/StringUTF16", "coderFromArrayLen", "([BI)B"⟩ : MethodName) jdk_52_method_15_code 2 (some .byte) :: ws) oR3) (fun aa_ U_ => aa_ = #[(.ref d), (.int (1 : Int32))] ∧ Z.Warmed39 U_.vm ∧ U_.heap = h0) (fun _ _ _ _ _ => True) (fun _ U_ o_ U'_ => ∃ v_ L_, o_ = .returned v_ ∧ Q_cfl_1 Z d kd w0 h0 n0 v_ U'_.heap L_ ∧ FrameEnd U_ o_ U'_ L_ oR3.cells oR3.slots) := by
  refine MetFree.of_bodySF (plainFor_of_name pn_2) hisR ?_
  intro pP eE sS mM argsA below meth cC s₁ Bd hml0 hP hK
  obtain ⟨rfl, hZ, hh⟩ := hP
  have hx := Bd.exec
  have hby := Bd.bytes
  have hml : cC.maxLocals = 2 := hml0
  have hown : sS.vm.findClass "java/lang/StringUTF16" = some mM.cls := findClass_of_methodNamed Bd.named
  have hnm := (name_of_methodNamed Bd.named Bd.method).1
  have X0 : Stand pP l eE oR3 sS mM #[(.ref d), (.int (1 : Int32))] below meth cC s₁ [] 0 0 := Stand.of_body Bd
  have e0 : s₁.heap = h0 := by rw [← hh, Bd.state]; rfl
  have N0 := Fr.nil n0
  have pre0 : ∀ t_, Steps pP.tables eE below (s₁.setTop (mkF mM 0 #[.val (.ref d), .val (.int (1 : Int32))] [])) t_ → Steps pP.tables eE below (s₁.setTop (entryFrame mM #[(.ref d), (.int (1 : Int32))] 2)) t_ := fun t_ k_ => castTop (ef_cfl_1 mM d (1 : Int32)) k_
  obtain ⟨cl_1, Ar_1, -, Sa_1, Na_1, -, -⟩ := id V_d
  obtain ⟨fs, hr, hrun, hended, hW, hsame⟩ := X0.leave (v := some (.int (0 : Int32))) (fun h => by rw [Bd.returns] at h; cases h)
  refine ⟨_, _, pre0 _ ?_, hrun, hended, _, _, rfl, ?_, ⟨_, rfl⟩, hW, hsame.mono (by decide) (by decide)⟩
  · show oS pP eE below s₁ (mkF mM 0 #[.val (.ref d), .val (.int (1 : Int32))] []) _
    refine XS.iloadN X0.here hx rfl (hb hby d_jdk_52m15_0) rfl ?_
    refine XS.aloadN X0.here hx rfl (hb hby d_jdk_52m15_1) rfl rfl ?_
    show oS pP eE below s₁ (mkF mM 2 #[.val (.ref d), .val (.int (1 : Int32))] [(.ref d), (.int (1 : Int32))]) _
    refine X0.arraylength hx (by rw [e0]; exact Ar_1.1) (State.isArrayOf_alike hZ.alike Ar_1.2.1) (g := (mkF mM 2 #[.val (.ref d), .val (.int (1 : Int32))] [(.ref d), (.int (1 : Int32))])) rfl rfl (hb hby d_jdk_52m15_2) _ ?_
    rw [len_of Sa_1 Na_1]
    show oS pP eE below s₁ (mkF mM 3 #[.val (.ref d), .val (.int (1 : Int32))] [(.int (1 : Int32)), (.int (1 : Int32))]) _
    refine XS.isub X0.here hx rfl (hb hby d_jdk_52m15_3) rfl ?_
    show Steps pP.tables eE below (s₁.setTop (mkF mM 4 #[.val (.ref d), .val (.int (1 : Int32))] [(.int ((1 : Int32) - (1 : Int32)))])) _
    rw [(by decide : ((1 : Int32) - (1 : Int32)) = (0 : Int32))]
    refine XS.bipush X0.here hx rfl (hb hby d_jdk_52m15_4) ?_
    show oS pP eE below s₁ (mkF mM 6 #[.val (.ref d), .val (.int (1 : Int32))] [(.int (31 : Int32)), (.int (0 : Int32))]) _
    refine XT.iushr X0.here hx rfl (hb hby d_jdk_52m15_6) rfl ?_
    show Steps pP.tables eE below (s₁.setTop (mkF mM 7 #[.val (.ref d), .val (.int (1 : Int32))] [(.int (XT.ushr (0 : Int32) (31 : Int32)))])) _
    rw [(by decide : (XT.ushr (0 : Int32) (31 : Int32)) = (0 : Int32))]
    show oS pP eE below s₁ (mkF mM 7 #[.val (.ref d), .val (.int (1 : Int32))] [(.int (0 : Int32))]) _
    refine XT.i2b X0.here hx rfl (hb hby d_jdk_52m15_7) rfl ?_
    show Steps pP.tables eE below (s₁.setTop (mkF mM 8 #[.val (.ref d), .val (.int (1 : Int32))] [(.int ((0 : Int32).toInt8.toInt32))])) _
    rw [(by decide : ((0 : Int32).toInt8.toInt32) = (0 : Int32))]
    show oS pP eE below s₁ (mkF mM 8 #[.val (.ref d), .val (.int (1 : Int32))] [(.int (0 : Int32))]) _
    exact retN X0 hx (t := .byte) Bd.returns (by simp) (hb hby d_jdk_52m15_8) hr
  · show Q_cfl_1 Z d kd w0 h0 n0 _ s₁.heap _
    rw [e0]
    exact ⟨rfl, N0, rfl⟩
abbrev lc13 (a : Addr) (s : Addr) : Array Slot := #[.val (.ref a), .val (.ref s), .val (.int (0 : Int32)), .val (.int (1 : Int32)), .val .null, .unset]
theorem d_jdk_42m149_27 : decode jdk_42_method_149_code 27 = .ok (.getstatic 38, 3) := by decide +kernel
theorem d_jdk_42m149_30 : decode jdk_42_method_149_code 30 = .ok (.ifCond .eq 28, 3) := by decide +kernel
theorem d_jdk_42m149_33 : decode jdk_42_method_149_code 33 = .ok (.aload_n 1, 1) := by decide +kernel
theorem d_jdk_42m149_34 : decode jdk_42_method_149_code 34 = .ok (.iload_n 2, 1) := by decide +kernel
theorem d_jdk_42m149_35 : decode jdk_42_method_149_code 35 = .ok (.iload_n 3, 1) := by decide +kernel
theorem d_jdk_42m149_36 : decode jdk_42_method_149_code 36 = .ok (.invokestatic 177, 3) := by decide +kernel
theorem pd_3 : parseMethodDescriptor "([CII)[B" = some ⟨[(.array .char), .int, .int], some (.array .byte)⟩ := by decide +kernel
abbrev MN3 : MethodName := ⟨"java/lang/StringUTF16", "compress", "([CII)[B"⟩
theorem d_jdk_42m149_39 : decode jdk_42_method_149_code 39 = .ok (.astore 5, 2) := by decide +kernel
abbrev lc14 (a : Addr) (s : Addr) (d__3 : Addr) : Array Slot := #[.val (.ref a), .val (.ref s), .val (.int (0 : Int32)), .val (.int (1 : Int32)), .val .null, .val (.ref d__3)]
theorem d_jdk_42m149_41 : decode jdk_42_method_149_code 41 = .ok (.aload_n 0, 1) := by decide +kernel
theorem d_jdk_42m149_42 : decode jdk_42_method_149_code 42 = .ok (.aload 5, 2) := by decide +kernel
theorem d_jdk_42m149_44 : decode jdk_42_method_149_code 44 = .ok (.iload_n 3, 1) := by decide +kernel
theorem d_jdk_42m149_45 : decode jdk_42_method_149_code 45 = .ok (.invokestatic 47, 3) := by decide +kernel
theorem pd_4 : parseMethodDescriptor "([BI)B" = some ⟨[(.array .byte), .int], some .byte⟩ := by decide +kernel
abbrev MN4 : MethodName := ⟨"java/lang/StringUTF16", "coderFromArrayLen", "([BI)B"⟩
theorem d_jdk_42m149_48 : decode jdk_42_method_149_code 48 = .ok (.putfield 15, 3) := by decide +kernel
theorem d_jdk_42m149_51 : decode jdk_42_method_149_code 51 = .ok (.aload_n 0, 1) := by decide +kernel
theorem d_jdk_42m149_52 : decode jdk_42_method_149_code 52 = .ok (.aload 5, 2) := by decide +kernel
theorem d_jdk_42m149_54 : decode jdk_42_method_149_code 54 = .ok (.putfield 9, 3) := by decide +kernel
theorem d_jdk_42m149_57 : decode jdk_42_method_149_code 57 = .ok (.return_, 1) := by decide +kernel
theorem ef_str5_1 (mM : MethodId) (x0 : Addr) (x1 : Addr) (x2 : Int32) (x3 : Int32) : entryFrame mM #[(.ref x0), (.ref x1), (.int x2), (.int x3), .null] 6 = mkF mM 0 #[.val (.ref x0), .val (.ref x1), .val (.int x2), .val (.int x3), .val .null, .unset] [] := by first | (simp [entryFrame, mkF, argsToLocals, Value.category]; done) | rfl
def Q_str5_1 (Z : State) (a : Addr) (s : Addr) (ks : ClassId) (cs : Int32) (c0 : Int32) (h0 : Heap) (n0 : Nat) (v_ : Option Value) (h_ : Heap) (L_ : List Loc) : Prop := ∃ d : Addr, ∃ kd : ClassId, v_ = none ∧ Fr n0 L_ ∧ Keep h0 h_ [a] ∧ h0.size ≤ d ∧ Exa Z h_ a "java/lang/String" ∧ Fld Z h_ a "java/lang/String" "value" "[B" (.ref d) ∧ Fld Z h_ a "java/lang/String" "coder" "B" (.int (0 : Int32)) ∧ Arv Z h_ d kd .byte (1 : Int32) [(.int (nar .byte (c0.toInt8.toInt32)))] (.int (0 : Int32))
set_option maxRecDepth 65536 in
set_option maxHeartbeats 40000000 in
theorem rm_str5_1 (l : Launch) (Z : State) (a0 : Array Value) (hw : ∀ d ∈ tables_1, d.before a0 Z = true) (ws : List Jvm.Cond) (a : Addr) (s : Addr) (ks : ClassId) (cs : Int32) (c0 : Int32) (h0 : Heap) (n0 : Nat) (Z0 : n0 ≤ h0.size) (F_value_a : Fld Z h0 a "java/lang/String" "value" "[B" .null) (F_coder_a : Fld Z h0 a "java/lang/String" "coder" "B" (.int (0 : Int32))) (E_a : Exa Z h0 a "java/lang/String") (g_a : n0 ≤ a) (S_String_COMPACT_STRINGS : Sta Z h0 "java/lang/String" "COMPACT_STRINGS" "Z" (.int cs)) (hcs : ¬ cs = 0) (V_s : Arv Z h0 s ks .char (1 : Int32) [(.int c0)] (.int (0 : Int32))) (nas : a ≠ s) (hc0 : ¬ (255 : Int32) < c0) :
    MetFree l (⟨"java/lang/String", "<init>", "([CIILjava/lang/Void;)V"⟩ : MethodName) (head1 (Jvm.Cond.code (⟨"java/lang/String", "<init>", "([CIILjava/lang/Void;)V"⟩ : MethodName) jdk_42_method_149_code 6 none :: ws) oR5) (fun aa_ U_ => aa_ = #[(.ref a), (.ref s), (.int (0 : Int32)), (.int (1 : Int32)), .null] ∧ Z.Warmed39 U_.vm ∧ U_.heap = h0 ∧ CHv Z own_EL U_.vm h0) (fun _ _ _ _ _ => True) (fun _ U_ o_ U'_ => ∃ v_ L_, o_ = .returned v_ ∧ Q_str5_1 Z a s ks cs c0 h0 n0 v_ U'_.heap L_ ∧ CHr Z own_EL U_.vm U_.heap U'_.vm U'_.heap ∧ ReturnedEndW U_ o_ U'_ L_ oR5.cells oR5.slots) := by
  refine MetFree.of_bodySF (plainFor_of_name pn_0) hisR ?_
  intro pP eE sS mM argsA below meth cC s₁ Bd hml0 hP hK
  obtain ⟨rfl, hZ, hh, hCH⟩ := hP
  have hx := Bd.exec
  have hby := Bd.bytes
  have hml : cC.maxLocals = 6 := hml0
  have hown : sS.vm.findClass "java/lang/String" = some mM.cls := findClass_of_methodNamed Bd.named
  have hnm := (name_of_methodNamed Bd.named Bd.method).1
  have X0 : Stand pP l eE oR5 (sS.setVm sS.vm) mM #[(.ref a), (.ref s), (.int (0 : Int32)), (.int (1 : Int32)), .null] below meth cC s₁ [] 0 0 := Stand.of_body Bd
  have e0 : s₁.heap = h0 := by rw [← hh, Bd.state]; rfl
  have N0 := Fr.nil n0
  have pre0 : ∀ t_, Steps pP.tables eE below (s₁.setTop (mkF mM 0 #[.val (.ref a), .val (.ref s), .val (.int (0 : Int32)), .val (.int (1 : Int32)), .val .null, .unset] [])) t_ → Steps pP.tables eE below (s₁.setTop (entryFrame mM #[(.ref a), (.ref s), (.int (0 : Int32)), (.int (1 : Int32)), .null] 6)) t_ := fun t_ k_ => castTop (ef_str5_1 mM a s (0 : Int32) (1 : Int32)) k_
  have hZ : Z.Warmed39 (sS.setVm sS.vm).vm := hZ
  have hown : (sS.setVm sS.vm).vm.findClass "java/lang/String" = some mM.cls := hown
  have hS0 : sS.Since sS.vm 0 := (State.WarmedH.refl sS).since 0
  have hk0 : 0 ≤ h0.size := Nat.zero_le _
  have CR0 := CHr.refl hCH
  have Sf_a : Safe Z own_EL sS.vm h0 a := own_safe_null hZ.alike E_a F_value_a
  obtain ⟨T_1, X_1, e_1, st_1⟩ := initO X0 hx hZ hown (ow hw 21 rfl) (ow hw 22 rfl) (ow hw 23 rfl) e0 (g := (mkF mM 1 (lc13 a s) [(.ref a)])) rfl (by rw [hml]; rfl) rfl (hb hby d_jdk_42m149_1) (by decide) (W := 0) (by show 2 * 0 + _ ≤ _; exact Nat.le_of_eq rfl) (by decide)
  obtain ⟨T_2, X_2, e_2, st_2⟩ := getS2 X_1 hx hZ hown (host := "") (Or.inl (ow hw 87 rfl)) Via.refl e_1 S_String_COMPACT_STRINGS (g := (mkF mM 27 (lc13 a s) [])) rfl (hb hby d_jdk_42m149_27)
  obtain ⟨_, _, ⟨T_3, L_3, k_3, n_3⟩, -, X_3, ⟨Lc_3, hQ_3, l_3, y_3, z_3⟩, st_3⟩ := Jvm.LawKit.callS X_2 hx (y := MN3) hown (mvT hZ (ow hw 98 rfl)) (mvT hZ (ow hw 99 rfl)) (mvT hZ (ow hw 100 rfl)) (mvT hZ (ow hw 101 rfl)) (by decide) (backOf (W := 0) (rm_cmp3_1 l Z a0 hw [] s ks c0 h0 n0 Z0 V_s hc0) hZ (ow hw 101 rfl) (ow hw 100 rfl) (by decide) (by decide)) (g := (mkF mM 36 (lc13 a s) [(.int (1 : Int32)), (.int (0 : Int32)), (.ref s)])) rfl (by rw [hml]; rfl) (argsL := [(.ref s), (.int (0 : Int32)), (.int (1 : Int32))]) (rest := []) (lenOf pd_3 rfl) rfl (by show 2 * 0 + _ ≤ _; exact Nat.le_of_eq rfl) (hb hby d_jdk_42m149_36) (fun _ _ => ⟨rfl, e_2, (by decide : 0 + 1 ≤ _), (by decide : 0 + 1 ≤ _)⟩)
  dsimp only [Pt.U, Pt.locs, Pt.cells, Pt.slots] at X_3 l_3 y_3 z_3 st_3 hQ_3
  subst l_3 y_3 z_3
  obtain ⟨d__3, ⟨kd__3, ⟨rfl, N_3q, Kc_3, pfsz_d_3, pfV_d_3⟩⟩⟩ := hQ_3
  have Z_3 : n0 ≤ T_3.heap.size := (Nat.le_trans Z0 Kc_3.1)
  have K_3 : Keep h0 T_3.heap [a] := (Keep.refl h0 [a]).trans Kc_3 all0
  have hk_3 : _ ≤ T_3.heap.size := Nat.le_trans hk0 Kc_3.1
  have Ca_3 := CHr.keep Kc_3 all0 CR0.1
  have CR_3 := CR0.trans Ca_3
  have Sf_a_3 := Ca_3.safe E_a.lt Sf_a
  have sz_d__3 : h0.size ≤ d__3 := Nat.le_trans (Keep.refl h0 [a]).1 pfsz_d_3
  have g_d__3 : n0 ≤ d__3 := Nat.le_trans Z0 pfsz_d_3
  have N_3 := Fr.app N0 N_3q
  obtain ⟨_, _, ⟨T_4, L_4, k_4, n_4⟩, -, X_4, ⟨Lc_4, hQ_4, l_4, y_4, z_4⟩, st_4⟩ := Jvm.LawKit.callS X_3 hx (y := MN4) hown (mvT hZ (ow hw 105 rfl)) (mvT hZ (ow hw 106 rfl)) (mvT hZ (ow hw 100 rfl)) (mvT hZ (ow hw 107 rfl)) (by decide) (backOf (W := 1) (rm_cfl_1 l Z a0 hw [] d__3 kd__3 (nar .byte (c0.toInt8.toInt32)) T_3.heap n0 Z_3 pfV_d_3) hZ (ow hw 107 rfl) (ow hw 100 rfl) (by decide) (by decide)) (g := (mkF mM 45 (lc14 a s d__3) [(.int (1 : Int32)), (.ref d__3), (.ref a)])) rfl (by rw [hml]; rfl) (argsL := [(.ref d__3), (.int (1 : Int32))]) (rest := [(.ref a)]) (lenOf pd_4 rfl) rfl (by show 2 * 0 + _ ≤ _; exact Nat.le_of_eq rfl) (hb hby d_jdk_42m149_45) (fun _ _ => ⟨rfl, rfl, (by decide : 1 + 0 ≤ _), (by decide : 1 + 0 ≤ _)⟩)
  dsimp only [Pt.U, Pt.locs, Pt.cells, Pt.slots] at X_4 l_4 y_4 z_4 st_4 hQ_4
  subst l_4 y_4 z_4
  obtain ⟨rfl, N_4q, eh_4⟩ := hQ_4
  have N_4 := Fr.app N_3 N_4q
  obtain ⟨T_5, h_5, X_5, e_5, W_5, st_5⟩ := putFN X_4 hx hZ hown (ow hw 31 rfl) Via.refl eh_4 (F_coder_a.keep Kc_3 nin0) (E_a.keep Kc_3) (Or.inr ⟨(ow hw 27 rfl), rfl, hnm⟩) (ow hw 11 rfl) (ty := .byte) (v' := (.int (0 : Int32))) (by decide) rfl rfl (g := (mkF mM 48 (lc14 a s d__3) [(.int (0 : Int32)), (.ref a)])) rfl rfl (hb hby d_jdk_42m149_48)
  have Fw_5 := (F_coder_a.keep Kc_3 nin0).same W_5
  have Z_5 : n0 ≤ h_5.size := (Nat.le_trans Z_3 (Keep.of_wr W_5).1)
  have K_5 : Keep h0 h_5 [a] := K_3.wr W_5 (Or.inl (List.mem_of_getElem? (i := 0) rfl))
  have hk_5 : _ ≤ h_5.size := Nat.le_trans hk_3 (Keep.of_wr W_5).1
  have Ca_5 := CHr.wr W_5 Sf_a_3 CR_3.1
  have CR_5 := CR_3.trans Ca_5
  have Sf_a_5 := Ca_5.safe (E_a.keep Kc_3).lt Sf_a_3
  have N_5 := Fr.snoc X_5 N_4 g_a
  obtain ⟨T_6, h_6, X_6, e_6, W_6, st_6⟩ := putF X_5 hx hZ hown (host := "") (Or.inl (ow hw 30 rfl)) Via.refl e_5 ((F_value_a.keep Kc_3 nin0).other W_5 (Or.inr (slot_ne (Or.inr (ow hw 26 rfl)) (Or.inr (ow hw 27 rfl)) (by decide) (t := (.array .byte)) (t' := .byte) (by decide) (by decide)))) ((E_a.keep Kc_3).wr W_5) (Or.inr ⟨(ow hw 26 rfl), rfl, hnm⟩) (ow hw 11 rfl) (ty := (.array .byte)) (by decide) rfl rfl (g := (mkF mM 54 (lc14 a s d__3) [(.ref d__3), (.ref a)])) rfl rfl (hb hby d_jdk_42m149_54)
  have Fw_6 := ((F_value_a.keep Kc_3 nin0).other W_5 (Or.inr (slot_ne (Or.inr (ow hw 26 rfl)) (Or.inr (ow hw 27 rfl)) (by decide) (t := (.array .byte)) (t' := .byte) (by decide) (by decide)))).same W_6
  have Z_6 : n0 ≤ h_6.size := (Nat.le_trans Z_5 (Keep.of_wr W_6).1)
  have K_6 : Keep h0 h_6 [a] := K_5.wr W_6 (Or.inl (List.mem_of_getElem? (i := 0) rfl))
  have hk_6 : _ ≤ h_6.size := Nat.le_trans hk_5 (Keep.of_wr W_6).1
  have Ca_6 := CHr.wr W_6 Sf_a_5 CR_5.1
  have CR_6 := CR_5.trans Ca_6
  have Sf_a_6 := Ca_6.safe ((E_a.keep Kc_3).wr W_5).lt Sf_a_5
  have N_6 := Fr.snoc X_6 N_5 g_a
  have hCF : CHr Z own_EL sS.vm sS.heap T_6.vm T_6.heap := by rw [hh, e_6]; exact CR_6.trans (CHv.at X_6 hZ (own_EW hw) CR_6.1)
  obtain ⟨fs, hr, hrun, hended, hRE⟩ := X_6.leaveW hS0 (show _ ≤ T_6.heap.size by rw [e_6]; exact hk_6) (v := none) (fun _ => rfl)
  refine ⟨_, _, pre0 _ ?_, hrun, hended, _, _, rfl, ?_, hCF, ⟨_, rfl⟩, hRE.2.1, hRE.2.2.1, hRE.2.2.2.mono (by decide) (by decide)⟩
  · show oS pP eE below s₁ (mkF mM 0 (lc13 a s) []) _
    refine XS.aloadN X0.here hx rfl (hb hby d_jdk_42m149_0) rfl rfl ?_
    show oS pP eE below s₁ (mkF mM 1 (lc13 a s) [(.ref a)]) _
    refine st_1 _ ?_
    show oS pP eE below T_1 (mkF mM 4 (lc13 a s) []) _
    refine XS.iloadN X_1.here hx rfl (hb hby d_jdk_42m149_4) rfl ?_
    refine XS.ifYes X_1.here hx rfl (pc0 := 5) (pc' := 27) rfl (hb hby d_jdk_42m149_5) rfl (by decide) (by decide) (by decide) ?_
    show oS pP eE below T_1 (mkF mM 27 (lc13 a s) []) _
    refine st_2 _ ?_
    show oS pP eE below T_2 (mkF mM 30 (lc13 a s) [(.int cs)]) _
    refine XS.ifNo X_2.here hx rfl (hb hby d_jdk_42m149_30) rfl (XT.i0_eq_f hcs) ?_
    refine XS.aloadN X_2.here hx rfl (hb hby d_jdk_42m149_33) rfl rfl ?_
    refine XS.iloadN X_2.here hx rfl (hb hby d_jdk_42m149_34) rfl ?_
    refine XS.iloadN X_2.here hx rfl (hb hby d_jdk_42m149_35) rfl ?_
    show oS pP eE below T_2 (mkF mM 36 (lc13 a s) [(.int (1 : Int32)), (.int (0 : Int32)), (.ref s)]) _
    refine st_3 _ ?_
    show oS pP eE below T_3 (mkF mM 39 (lc13 a s) [(.ref d__3)]) _
    refine XS.astore X_3.here hx rfl (hb hby d_jdk_42m149_39) rfl rfl (l' := (lc14 a s d__3)) rfl ?_
    refine XS.aloadN X_3.here hx rfl (hb hby d_jdk_42m149_41) rfl rfl ?_
    refine XS.aload X_3.here hx rfl (hb hby d_jdk_42m149_42) rfl rfl ?_
    refine XS.iloadN X_3.here hx rfl (hb hby d_jdk_42m149_44) rfl ?_
    show oS pP eE below T_3 (mkF mM 45 (lc14 a s d__3) [(.int (1 : Int32)), (.ref d__3), (.ref a)]) _
    refine st_4 _ ?_
    show oS pP eE below T_4 (mkF mM 48 (lc14 a s d__3) [(.int (0 : Int32)), (.ref a)]) _
    refine st_5 _ ?_
    show oS pP eE below T_5 (mkF mM 51 (lc14 a s d__3) []) _
    refine XS.aloadN X_5.here hx rfl (hb hby d_jdk_42m149_51) rfl rfl ?_
    refine XS.aload X_5.here hx rfl (hb hby d_jdk_42m149_52) rfl rfl ?_
    show oS pP eE below T_5 (mkF mM 54 (lc14 a s d__3) [(.ref d__3), (.ref a)]) _
    refine st_6 _ ?_
    show oS pP eE below T_6 (mkF mM 57 (lc14 a s d__3) []) _
    exact X_6.returnOut hx Bd.returns (hb hby d_jdk_42m149_57) hr
  · show Q_str5_1 Z a s ks cs c0 h0 n0 _ T_6.heap _
    rw [e_6]
    exact ⟨d__3, kd__3, rfl, N_6, K_6, sz_d__3, (((E_a.keep Kc_3).wr W_5).wr W_6), Fw_6, (Fw_5.other W_6 (Or.inr (slot_ne (Or.inr (ow hw 27 rfl)) (Or.inr (ow hw 26 rfl)) (by decide) (t := .byte) (t' := (.array .byte)) (by decide) (by decide)))), ((pfV_d_3.other W_5 (Ne.symm (Nat.ne_of_lt (Nat.lt_of_lt_of_le E_a.lt pfsz_d_3)))).other W_6 (Ne.symm (Nat.ne_of_lt (Nat.lt_of_lt_of_le E_a.lt pfsz_d_3))))⟩
theorem ef_str_1 (mM : MethodId) (x0 : Addr) (x1 : Addr) : entryFrame mM #[(.ref x0), (.ref x1)] 2 = mkF mM 0 #[.val (.ref x0), .val (.ref x1)] [] := by first | (simp [entryFrame, mkF, argsToLocals, Value.category]; done) | rfl
def Q_str_1 (Z : State) (a : Addr) (s : Addr) (ks : ClassId) (cs : Int32) (c0 : Int32) (h0 : Heap) (n0 : Nat) (v_ : Option Value) (h_ : Heap) (L_ : List Loc) : Prop := ∃ d : Addr, ∃ kd : ClassId, v_ = none ∧ Fr n0 L_ ∧ Keep h0 h_ [a] ∧ h0.size ≤ d ∧ Exa Z h_ a "java/lang/String" ∧ Fld Z h_ a "java/lang/String" "value" "[B" (.ref d) ∧ Fld Z h_ a "java/lang/String" "coder" "B" (.int (0 : Int32)) ∧ Arv Z h_ d kd .byte (1 : Int32) [(.int (nar .byte (c0.toInt8.toInt32)))] (.int (0 : Int32))
set_option maxRecDepth 65536 in
set_option maxHeartbeats 40000000 in
theorem rm_str_1 (l : Launch) (Z : State) (a0 : Array Value) (hw : ∀ d ∈ tables_1, d.before a0 Z = true) (ws : List Jvm.Cond) (a : Addr) (s : Addr) (ks : ClassId) (cs : Int32) (c0 : Int32) (h0 : Heap) (n0 : Nat) (Z0 : n0 ≤ h0.size) (F_value_a : Fld Z h0 a "java/lang/String" "value" "[B" .null) (F_coder_a : Fld Z h0 a "java/lang/String" "coder" "B" (.int (0 : Int32))) (E_a : Exa Z h0 a "java/lang/String") (g_a : n0 ≤ a) (S_String_COMPACT_STRINGS : Sta Z h0 "java/lang/String" "COMPACT_STRINGS" "Z" (.int cs)) (hcs : ¬ cs = 0) (V_s : Arv Z h0 s ks .char (1 : Int32) [(.int c0)] (.int (0 : Int32))) (nas : a ≠ s) (hc0 : ¬ (255 : Int32) < c0) :
    MetFree l (⟨"java/lang/String", "<init>", "([C)V"⟩ : MethodName) (head1 (Jvm.Cond.code (⟨"java/lang/String", "<init>", "([C)V"⟩ : MethodName) jdk_42_method_3_code 2 none :: ws) oR6) (fun aa_ U_ => aa_ = #[(.ref a), (.ref s)] ∧ Z.Warmed39 U_.vm ∧ U_.heap = h0 ∧ CHv Z own_EL U_.vm h0) (fun _ _ _ _ _ => True) (fun _ U_ o_ U'_ => ∃ v_ L_, o_ = .returned v_ ∧ Q_str_1 Z a s ks cs c0 h0 n0 v_ U'_.heap L_ ∧ CHr Z own_EL U_.vm U_.heap U'_.vm U'_.heap ∧ ReturnedEndW U_ o_ U'_ L_ oR6.cells oR6.slots) := by
  refine MetFree.of_bodySF (plainFor_of_name pn_0) hisR ?_
  intro pP eE sS mM argsA below meth cC s₁ Bd hml0 hP hK
  obtain ⟨rfl, hZ, hh, hCH⟩ := hP
  have hx := Bd.exec
  have hby := Bd.bytes
  have hml : cC.maxLocals = 2 := hml0
  have hown : sS.vm.findClass "java/lang/String" = some mM.cls := findClass_of_methodNamed Bd.named
  have hnm := (name_of_methodNamed Bd.named Bd.method).1
  have X0 : Stand pP l eE oR6 (sS.setVm sS.vm) mM #[(.ref a), (.ref s)] below meth cC s₁ [] 0 0 := Stand.of_body Bd
  have e0 : s₁.heap = h0 := by rw [← hh, Bd.state]; rfl
  have N0 := Fr.nil n0
  have pre0 : ∀ t_, Steps pP.tables eE below (s₁.setTop (mkF mM 0 #[.val (.ref a), .val (.ref s)] [])) t_ → Steps pP.tables eE below (s₁.setTop (entryFrame mM #[(.ref a), (.ref s)] 2)) t_ := fun t_ k_ => castTop (ef_str_1 mM a s) k_
  have hZ : Z.Warmed39 (sS.setVm sS.vm).vm := hZ
  have hown : (sS.setVm sS.vm).vm.findClass "java/lang/String" = some mM.cls := hown
  have hS0 : sS.Since sS.vm 0 := (State.WarmedH.refl sS).since 0
  have hk0 : 0 ≤ h0.size := Nat.zero_le _
  have CR0 := CHr.refl hCH
  obtain ⟨cl_1, Ar_1, -, Sa_1, Na_1, -, -⟩ := id V_s
  obtain ⟨_, _, ⟨T_2, L_2, k_2, n_2⟩, -, Xc_2, hSc_2, hgr_2, ⟨Lc_2, hQ_2, l_2, y_2, z_2, CHc_2⟩, st_2⟩ := X0.specialBackS hx (y := MN0) rfl hown (mvT hZ (ow hw 17 rfl)) (mvT hZ (ow hw 18 rfl)) (mvT hZ (ow hw 20 rfl)) (by decide) (backOfSH (W := 0) (rm_str5_1 l Z a0 hw [] a s ks cs c0 h0 n0 Z0 F_value_a F_coder_a E_a g_a S_String_COMPACT_STRINGS hcs V_s nas hc0) hZ (ow hw 20 rfl) (ow hw 12 rfl) (by decide) (by decide) (own_EW hw) CR0.1) (g := (mkF mM 6 #[.val (.ref a), .val (.ref s)] [.null, (.int (1 : Int32)), (.int (0 : Int32)), (.ref s), (.ref a)])) rfl (by rw [hml]; rfl) (Steps.refl _) (a := a) (argsL := [(.ref s), (.int (0 : Int32)), (.int (1 : Int32)), .null]) (rest := []) (lenOf pd_0 rfl) rfl (by show 2 * 0 + _ ≤ _; exact Nat.le_of_eq rfl) (hb hby d_jdk_42m3_6) (fun _ _ => ⟨rfl, e0, (by decide : 0 + 1 ≤ _), (by decide : 0 + 1 ≤ _)⟩)
  dsimp only [Pt.U, Pt.locs, Pt.cells, Pt.slots] at Xc_2 hSc_2 hgr_2 l_2 y_2 z_2 st_2 hQ_2 CHc_2
  subst l_2 y_2 z_2
  obtain ⟨X_2, hS_2, hZ_2, hown_2⟩ := rebS hS0 (show _ ≤ s₁.heap.size by rw [e0]; exact hk0) Xc_2 hSc_2 hgr_2 hZ hown
  obtain ⟨d__2, ⟨kd__2, ⟨rfl, N_2q, Kc_2, pfsz_d_2, pfE_a_2, pfF_value_a_2, pfF_coder_a_2, pfV_d_2⟩⟩⟩ := hQ_2
  have Z_2 : n0 ≤ T_2.heap.size := (Nat.le_trans Z0 Kc_2.1)
  have K_2 : Keep h0 T_2.heap [a] := (Keep.refl h0 [a]).trans Kc_2 (allS (Or.inl (List.mem_of_getElem? (i := 0) rfl)) all0)
  have Ca_2 := CHc_2
  have CR_2 := CR0.trans Ca_2
  have hk_2 : _ ≤ T_2.heap.size := Nat.le_refl _
  have sz_d__2 : h0.size ≤ d__2 := Nat.le_trans (Keep.refl h0 [a]).1 pfsz_d_2
  have g_d__2 : n0 ≤ d__2 := Nat.le_trans Z0 pfsz_d_2
  have N_2 := Fr.app N0 N_2q
  have hCF : CHr Z own_EL sS.vm sS.heap T_2.vm T_2.heap := by rw [hh]; exact CR_2.trans (CHv.at X_2 hZ_2 (own_EW hw) CR_2.1)
  obtain ⟨fs, hr, hrun, hended, hRE⟩ := X_2.leaveW hS_2 hk_2 (v := none) (fun _ => rfl)
  refine ⟨_, _, pre0 _ ?_, hrun, hended, _, _, rfl, ?_, hCF, ⟨_, rfl⟩, hRE.2.1, hRE.2.2.1, hRE.2.2.2.mono (by decide) (by decide)⟩
  · show oS pP eE below s₁ (mkF mM 0 #[.val (.ref a), .val (.ref s)] []) _
    refine XS.aloadN X0.here hx rfl (hb hby d_jdk_42m3_0) rfl rfl ?_
    refine XS.aloadN X0.here hx rfl (hb hby d_jdk_42m3_1) rfl rfl ?_
    refine XS.iconst X0.here hx rfl (hb hby d_jdk_42m3_2) ?_
    refine XS.aloadN X0.here hx rfl (hb hby d_jdk_42m3_3) rfl rfl ?_
    show oS pP eE below s₁ (mkF mM 4 #[.val (.ref a), .val (.ref s)] [(.ref s), (.int (0 : Int32)), (.ref s), (.ref a)]) _
    refine X0.arraylength hx (by rw [e0]; exact Ar_1.1) (State.isArrayOf_alike hZ.alike Ar_1.2.1) (g := (mkF mM 4 #[.val (.ref a), .val (.ref s)] [(.ref s), (.int (0 : Int32)), (.ref s), (.ref a)])) rfl rfl (hb hby d_jdk_42m3_4) _ ?_
    rw [len_of Sa_1 Na_1]
    refine XS.aconstNull X0.here hx rfl (hb hby d_jdk_42m3_5) ?_
    show oS pP eE below s₁ (mkF mM 6 #[.val (.ref a), .val (.ref s)] [.null, (.int (1 : Int32)), (.int (0 : Int32)), (.ref s), (.ref a)]) _
    refine st_2.trans ?_
    show oS pP eE below T_2 (mkF mM 9 #[.val (.ref a), .val (.ref s)] []) _
    exact X_2.returnOut hx Bd.returns (hb hby d_jdk_42m3_9) hr
  · show Q_str_1 Z a s ks cs c0 h0 n0 _ T_2.heap _
    exact ⟨d__2, kd__2, rfl, N_2, K_2, sz_d__2, pfE_a_2, pfF_value_a_2, pfF_coder_a_2, pfV_d_2⟩
theorem d_method_2_15 : decode method_2_code 15 = .ok (.iload_n 0, 1) := by decide +kernel
theorem d_method_2_16 : decode method_2_code 16 = .ok (.iconst 1, 1) := by decide +kernel
theorem d_method_2_17 : decode method_2_code 17 = .ok (.if_icmp .ne 18, 3) := by decide +kernel
theorem d_method_2_20 : decode method_2_code 20 = .ok (.new 7, 3) := by decide +kernel
theorem d_method_2_23 : decode method_2_code 23 = .ok (.dup, 1) := by decide +kernel
theorem d_method_2_24 : decode method_2_code 24 = .ok (.iconst 1, 1) := by decide +kernel
theorem d_method_2_25 : decode method_2_code 25 = .ok (.newarray .char, 2) := by decide +kernel
theorem d_method_2_27 : decode method_2_code 27 = .ok (.dup, 1) := by decide +kernel
theorem d_method_2_28 : decode method_2_code 28 = .ok (.iconst 0, 1) := by decide +kernel
theorem d_method_2_29 : decode method_2_code 29 = .ok (.iload_n 1, 1) := by decide +kernel
theorem d_method_2_30 : decode method_2_code 30 = .ok (.castore, 1) := by decide +kernel
theorem d_method_2_31 : decode method_2_code 31 = .ok (.invokespecial 9, 3) := by decide +kernel
theorem d_method_2_34 : decode method_2_code 34 = .ok (.areturn, 1) := by decide +kernel
theorem ef_mk1 (mM : MethodId) (x0 : Int32) (x1 : Int32) (x2 : Int32) : entryFrame mM #[(.int x0), (.int x1), (.int x2)] 3 = mkF mM 0 #[.val (.int x0), .val (.int x1), .val (.int x2)] [] := by first | (simp [entryFrame, mkF, argsToLocals, Value.category]; done) | rfl
def Q_mk1 (Z : State) (cs : Int32) (j0 : Int32) (j1 : Int32) (h0 : Heap) (n0 : Nat) (v_ : Option Value) (h_ : Heap) (L_ : List Loc) : Prop := ∃ g : Addr, ∃ d : Addr, ∃ kd : ClassId, v_ = some (.ref g) ∧ Fr n0 L_ ∧ Keep h0 h_ [] ∧ h0.size ≤ g ∧ h0.size ≤ d ∧ Exa Z h_ g "java/lang/String" ∧ Fld Z h_ g "java/lang/String" "value" "[B" (.ref d) ∧ Fld Z h_ g "java/lang/String" "coder" "B" (.int (0 : Int32)) ∧ Arv Z h_ d kd .byte (1 : Int32) [(.int (nar .byte ((nar .char j0).toInt8.toInt32)))] (.int (0 : Int32))
set_option maxRecDepth 65536 in
set_option maxHeartbeats 40000000 in
theorem rm_mk1 (l : Launch) (Z : State) (a0 : Array Value) (hw : ∀ d ∈ tables_1, d.before a0 Z = true) (ws : List Jvm.Cond) (cs : Int32) (j0 : Int32) (j1 : Int32) (h0 : Heap) (n0 : Nat) (Z0 : n0 ≤ h0.size) (S_String_COMPACT_STRINGS : Sta Z h0 "java/lang/String" "COMPACT_STRINGS" "Z" (.int cs)) (hcs : ¬ cs = 0) (hj0 : own_ch j0) :
    MetFree l (⟨"com/example/rolling_rung/rollingrung/schema/FieldSameDefinitionPinLaw", "str", "(ICC)Ljava/lang/String;"⟩ : MethodName) (head1 (Jvm.Cond.code (⟨"com/example/rolling_rung/rollingrung/schema/FieldSameDefinitionPinLaw", "str", "(ICC)Ljava/lang/String;"⟩ : MethodName) method_2_code 3 (some (.object "java/lang/String")) :: ws) oR7) (fun aa_ U_ => aa_ = #[(.int (1 : Int32)), (.int j0), (.int j1)] ∧ Z.Warmed39 U_.vm ∧ U_.heap = h0 ∧ CHv Z own_EL U_.vm h0) (fun _ _ _ _ _ => True) (fun _ U_ o_ U'_ => ∃ v_ L_, o_ = .returned v_ ∧ Q_mk1 Z cs j0 j1 h0 n0 v_ U'_.heap L_ ∧ CHr Z own_EL U_.vm U_.heap U'_.vm U'_.heap ∧ ReturnedEndW U_ o_ U'_ L_ oR7.cells oR7.slots) := by
  refine MetFree.of_bodySF (plainFor_of_name pn_1) hisR ?_
  intro pP eE sS mM argsA below meth cC s₁ Bd hml0 hP hK
  obtain ⟨rfl, hZ, hh, hCH⟩ := hP
  have hx := Bd.exec
  have hby := Bd.bytes
  have hml : cC.maxLocals = 3 := hml0
  have hown : sS.vm.findClass "com/example/rolling_rung/rollingrung/schema/FieldSameDefinitionPinLaw" = some mM.cls := findClass_of_methodNamed Bd.named
  have hnm := (name_of_methodNamed Bd.named Bd.method).1
  have X0 : Stand pP l eE oR7 (sS.setVm sS.vm) mM #[(.int (1 : Int32)), (.int j0), (.int j1)] below meth cC s₁ [] 0 0 := Stand.of_body Bd
  have e0 : s₁.heap = h0 := by rw [← hh, Bd.state]; rfl
  have N0 := Fr.nil n0
  have pre0 : ∀ t_, Steps pP.tables eE below (s₁.setTop (mkF mM 0 #[.val (.int (1 : Int32)), .val (.int j0), .val (.int j1)] [])) t_ → Steps pP.tables eE below (s₁.setTop (entryFrame mM #[(.int (1 : Int32)), (.int j0), (.int j1)] 3)) t_ := fun t_ k_ => castTop (ef_mk1 mM (1 : Int32) j0 j1) k_
  have hZ : Z.Warmed39 (sS.setVm sS.vm).vm := hZ
  have hown : (sS.setVm sS.vm).vm.findClass "com/example/rolling_rung/rollingrung/schema/FieldSameDefinitionPinLaw" = some mM.cls := hown
  have hS0 : sS.Since sS.vm 0 := (State.WarmedH.refl sS).since 0
  have hk0 : 0 ≤ h0.size := Nat.zero_le _
  have CR0 := CHr.refl hCH
  obtain ⟨T_1, h_1, X_1, e_1, E_1, A_1, D_1, -, st_1⟩ := newO X0 hx hZ hown (ow hw 10 rfl) (ow hw 11 rfl) (ow hw 12 rfl) e0 (g := (mkF mM 20 #[.val (.int (1 : Int32)), .val (.int j0), .val (.int j1)] [])) rfl (hb hby d_method_2_20) (by decide) (by decide)
  obtain ⟨b_1, g_1⟩ : ∃ z, z = h0.size := ⟨_, rfl⟩
  rw [← g_1] at A_1 D_1 st_1
  have g_b_1 : n0 ≤ b_1 := Nat.le_trans Z0 (Nat.le_of_eq g_1.symm)
  have sz_b_1 : h0.size ≤ b_1 := Nat.le_trans (Keep.refl h0 []).1 (Nat.le_of_eq g_1.symm)
  have Z_1 : n0 ≤ h_1.size := (Nat.le_trans Z0 E_1.1)
  have K_1 : Keep h0 h_1 [] := (Keep.refl h0 []).ext E_1
  have hk_1 : _ ≤ h_1.size := Nat.le_trans hk0 E_1.1
  have Ca_1 := CHr.ext E_1 CR0.1
  have CR_1 := CR0.trans Ca_1
  have F_value_b_1__1 : Fld Z h_1 b_1 "java/lang/String" "value" "[B" .null := D_1 (Or.inr (ow hw 26 rfl)) (ty := (.array .byte)) (by decide)
  have F_coder_b_1__1 : Fld Z h_1 b_1 "java/lang/String" "coder" "B" (.int (0 : Int32)) := D_1 (Or.inr (ow hw 27 rfl)) (ty := .byte) (by decide)
  obtain ⟨T_2, h_2, k_2, X_2, e_2, E_2, A_2, st_2⟩ := newP X_1 hx hZ (ow hw 13 rfl) e_1 (g := (mkF mM 25 #[.val (.int (1 : Int32)), .val (.int j0), .val (.int j1)] [(.int (1 : Int32)), (.ref b_1), (.ref b_1)])) rfl (hb hby d_method_2_25) rfl (by decide) (cap := 1) (by decide) (by decide) (by decide) (by decide)
  obtain ⟨b_2, g_2⟩ : ∃ z, z = h_1.size := ⟨_, rfl⟩
  rw [← g_2] at A_2 st_2
  have g_b_2 : n0 ≤ b_2 := Nat.le_trans Z_1 (Nat.le_of_eq g_2.symm)
  have sz_b_2 : h0.size ≤ b_2 := Nat.le_trans K_1.1 (Nat.le_of_eq g_2.symm)
  have Z_2 : n0 ≤ h_2.size := (Nat.le_trans Z_1 E_2.1)
  have K_2 : Keep h0 h_2 [] := K_1.ext E_2
  have hk_2 : _ ≤ h_2.size := Nat.le_trans hk_1 E_2.1
  have Ca_2 := CHr.ext E_2 CR_1.1
  have CR_2 := CR_1.trans Ca_2
  have V_b_2 : Arv Z h_2 b_2 k_2 .char (1 : Int32) [(.int (0 : Int32))] (.int (0 : Int32)) := (Arv.new A_2 (by decide)).pad (pad_rep [] (.int (0 : Int32)) 1)
  obtain ⟨cl_3, Ar_3, qa_3, Sa_3, Na_3, Ha_3, Ga_3⟩ := id V_b_2
  have hin_3 : ¬ ((0 : Int32) < 0 ∨ cl_3.slots.size ≤ ((0 : Int32)).toNatClampNeg) := inb_of Sa_3 ⟨by decide, by decide⟩
  obtain ⟨T_3, h_3, X_3, e_3, W_3, st_3⟩ := stC X_2 hx hZ e_2 Ar_3 (j := (0 : Int32)) hin_3 (g := (mkF mM 30 #[.val (.int (1 : Int32)), .val (.int j0), .val (.int j1)] [(.int j0), (.int (0 : Int32)), (.ref b_2), (.ref b_2), (.ref b_1), (.ref b_1)])) rfl rfl (hb hby d_method_2_30)
  have V_3 : Arv Z h_3 b_2 k_2 .char (1 : Int32) [(.int (nar .char j0))] (.int (0 : Int32)) := Arv.set Ar_3 qa_3 Sa_3 Na_3 Ha_3 Ga_3 (fits_nar_char _) W_3 0 rfl (Nat.le_of_ble_eq_true rfl)
  have Z_3 : n0 ≤ h_3.size := (Nat.le_trans Z_2 (Keep.of_wr W_3).1)
  have K_3 : Keep h0 h_3 [] := K_2.wr W_3 (Or.inr sz_b_2)
  have hk_3 : _ ≤ h_3.size := Nat.le_trans hk_2 (Keep.of_wr W_3).1
  have Ca_3 := CHr.wr W_3 (Safe.arr hZ.alike Ar_3 (by decide)) CR_2.1
  have CR_3 := CR_2.trans Ca_3
  have N_3 := Fr.snoc X_3 N0 g_b_2
  have St_3_0 := (((S_String_COMPACT_STRINGS.ext E_1).ext E_2).wr W_3)
  obtain ⟨_, _, ⟨T_4, L_4, k_4, n_4⟩, -, Xc_4, hSc_4, hgr_4, ⟨Lc_4, hQ_4, l_4, y_4, z_4, CHc_4⟩, st_4⟩ := X_3.specialBackS hx (y := MN1) rfl hown (mvT hZ (ow hw 14 rfl)) (mvT hZ (ow hw 15 rfl)) (mvT hZ (ow hw 16 rfl)) (by decide) (backOfSH (W := 1) (rm_str_1 l Z a0 hw [] b_1 b_2 k_2 cs (nar .char j0) h_3 n0 Z_3 ((F_value_b_1__1.ext E_2).other W_3 (Or.inl (Nat.ne_of_lt (Nat.lt_of_lt_of_le A_1.lt (Nat.le_of_eq g_2.symm))))) ((F_coder_b_1__1.ext E_2).other W_3 (Or.inl (Nat.ne_of_lt (Nat.lt_of_lt_of_le A_1.lt (Nat.le_of_eq g_2.symm))))) ((A_1.ext E_2).wr W_3) g_b_1 St_3_0 hcs V_3 (Nat.ne_of_lt (Nat.lt_of_lt_of_le A_1.lt (Nat.le_of_eq g_2.symm))) (own_ch255 hj0)) hZ (ow hw 16 rfl) (ow hw 12 rfl) (by decide) (by decide) (own_EW hw) CR_3.1) (g := (mkF mM 31 #[.val (.int (1 : Int32)), .val (.int j0), .val (.int j1)] [(.ref b_2), (.ref b_1), (.ref b_1)])) rfl (by rw [hml]; rfl) (Steps.refl _) (a := b_1) (argsL := [(.ref b_2)]) (rest := [(.ref b_1)]) (lenOf pd_1 rfl) rfl (by show 2 * 0 + _ ≤ _; exact Nat.le_of_eq rfl) (hb hby d_method_2_31) (fun _ _ => ⟨rfl, e_3, (by decide : 2 + 1 ≤ _), (by decide : 5 + 1 ≤ _)⟩)
  dsimp only [Pt.U, Pt.locs, Pt.cells, Pt.slots] at Xc_4 hSc_4 hgr_4 l_4 y_4 z_4 st_4 hQ_4 CHc_4
  subst l_4 y_4 z_4
  obtain ⟨X_4, hS_4, hZ_4, hown_4⟩ := rebS hS0 (show _ ≤ T_3.heap.size by rw [e_3]; exact hk_3) Xc_4 hSc_4 hgr_4 hZ hown
  obtain ⟨d__4, ⟨kd__4, ⟨rfl, N_4q, Kc_4, pfsz_d_4, pfE_a_4, pfF_value_a_4, pfF_coder_a_4, pfV_d_4⟩⟩⟩ := hQ_4
  have Z_4 : n0 ≤ T_4.heap.size := (Nat.le_trans Z_3 Kc_4.1)
  have K_4 : Keep h0 T_4.heap [] := K_3.trans Kc_4 (allS (Or.inr sz_b_1) all0)
  have Ca_4 := CHc_4
  have CR_4 := CR_3.trans Ca_4
  have hk_4 : _ ≤ T_4.heap.size := Nat.le_refl _
  have sz_d__4 : h0.size ≤ d__4 := Nat.le_trans K_3.1 pfsz_d_4
  have g_d__4 : n0 ≤ d__4 := Nat.le_trans Z_3 pfsz_d_4
  have N_4 := Fr.app N_3 N_4q
  have hCF : CHr Z own_EL sS.vm sS.heap T_4.vm T_4.heap := by rw [hh]; exact CR_4.trans (CHv.at X_4 hZ_4 (own_EW hw) CR_4.1)
  obtain ⟨fs, hr, hrun, hended, hRE⟩ := X_4.leaveW hS_4 hk_4 (v := some (.ref b_1)) (fun h => by rw [Bd.returns] at h; cases h)
  refine ⟨_, _, pre0 _ ?_, hrun, hended, _, _, rfl, ?_, hCF, ⟨_, rfl⟩, hRE.2.1, hRE.2.2.1, hRE.2.2.2.mono (by decide) (by decide)⟩
  · show oS pP eE below s₁ (mkF mM 0 #[.val (.int (1 : Int32)), .val (.int j0), .val (.int j1)] []) _
    refine XS.iloadN X0.here hx rfl (hb hby d_method_2_0) rfl ?_
    refine XS.ifYes X0.here hx rfl (pc0 := 1) (pc' := 15) rfl (hb hby d_method_2_1) rfl (by decide) (by decide) (by decide) ?_
    refine XS.iloadN X0.here hx rfl (hb hby d_method_2_15) rfl ?_
    refine XS.iconst X0.here hx rfl (hb hby d_method_2_16) ?_
    refine XS.icmpNo X0.here hx rfl (hb hby d_method_2_17) rfl (by decide) ?_
    show oS pP eE below s₁ (mkF mM 20 #[.val (.int (1 : Int32)), .val (.int j0), .val (.int j1)] []) _
    refine st_1 _ ?_
    show oS pP eE below T_1 (mkF mM 23 #[.val (.int (1 : Int32)), .val (.int j0), .val (.int j1)] [(.ref b_1)]) _
    refine XS.dup X_1.here hx rfl (hb hby d_method_2_23) rfl rfl ?_
    refine XS.iconst X_1.here hx rfl (hb hby d_method_2_24) ?_
    show oS pP eE below T_1 (mkF mM 25 #[.val (.int (1 : Int32)), .val (.int j0), .val (.int j1)] [(.int (1 : Int32)), (.ref b_1), (.ref b_1)]) _
    refine st_2 _ ?_
    show oS pP eE below T_2 (mkF mM 27 #[.val (.int (1 : Int32)), .val (.int j0), .val (.int j1)] [(.ref b_2), (.ref b_1), (.ref b_1)]) _
    refine XS.dup X_2.here hx rfl (hb hby d_method_2_27) rfl rfl ?_
    refine XS.iconst X_2.here hx rfl (hb hby d_method_2_28) ?_
    refine XS.iloadN X_2.here hx rfl (hb hby d_method_2_29) rfl ?_
    show oS pP eE below T_2 (mkF mM 30 #[.val (.int (1 : Int32)), .val (.int j0), .val (.int j1)] [(.int j0), (.int (0 : Int32)), (.ref b_2), (.ref b_2), (.ref b_1), (.ref b_1)]) _
    refine st_3 _ ?_
    show oS pP eE below T_3 (mkF mM 31 #[.val (.int (1 : Int32)), .val (.int j0), .val (.int j1)] [(.ref b_2), (.ref b_1), (.ref b_1)]) _
    refine st_4.trans ?_
    show oS pP eE below T_4 (mkF mM 34 #[.val (.int (1 : Int32)), .val (.int j0), .val (.int j1)] [(.ref b_1)]) _
    exact retOut X_4 hx Bd.returns rfl (Or.inr (Or.inr (Or.inr (Or.inr ⟨rfl, rfl, rfl⟩)))) (hb hby d_method_2_34) hr
  · show Q_mk1 Z cs j0 j1 h0 n0 _ T_4.heap _
    exact ⟨b_1, d__4, kd__4, rfl, N_4, K_4, sz_b_1, sz_d__4, pfE_a_4, pfF_value_a_4, pfF_coder_a_4, pfV_d_4⟩
abbrev lc15 (s : Addr) (d : Addr) : Array Slot := #[.val (.ref s), .val (.int (0 : Int32)), .val (.ref d), .val (.int (0 : Int32)), .val (.int (2 : Int32)), .unset, .unset]
abbrev lc16 (s : Addr) (d : Addr) : Array Slot := #[.val (.ref s), .val (.int (0 : Int32)), .val (.ref d), .val (.int (0 : Int32)), .val (.int (2 : Int32)), .val (.int (0 : Int32)), .unset]
abbrev lc17 (s : Addr) (d : Addr) (c0 : Int32) : Array Slot := #[.val (.ref s), .val (.int (0 : Int32)), .val (.ref d), .val (.int (0 : Int32)), .val (.int (2 : Int32)), .val (.int (0 : Int32)), .val (.int c0)]
abbrev lc18 (s : Addr) (d : Addr) (c0 : Int32) : Array Slot := #[.val (.ref s), .val (.int ((0 : Int32) + (1 : Int32))), .val (.ref d), .val (.int (0 : Int32)), .val (.int (2 : Int32)), .val (.int (0 : Int32)), .val (.int c0)]
abbrev lc19 (s : Addr) (d : Addr) (c0 : Int32) : Array Slot := #[.val (.ref s), .val (.int (1 : Int32)), .val (.ref d), .val (.int (0 : Int32)), .val (.int (2 : Int32)), .val (.int (0 : Int32)), .val (.int c0)]
abbrev lc20 (s : Addr) (d : Addr) (c0 : Int32) : Array Slot := #[.val (.ref s), .val (.int (1 : Int32)), .val (.ref d), .val (.int ((0 : Int32) + (1 : Int32))), .val (.int (2 : Int32)), .val (.int (0 : Int32)), .val (.int c0)]
abbrev lc21 (s : Addr) (d : Addr) (c0 : Int32) : Array Slot := #[.val (.ref s), .val (.int (1 : Int32)), .val (.ref d), .val (.int (1 : Int32)), .val (.int (2 : Int32)), .val (.int (0 : Int32)), .val (.int c0)]
abbrev lc22 (s : Addr) (d : Addr) (c0 : Int32) : Array Slot := #[.val (.ref s), .val (.int (1 : Int32)), .val (.ref d), .val (.int (1 : Int32)), .val (.int (2 : Int32)), .val (.int ((0 : Int32) + (1 : Int32))), .val (.int c0)]
abbrev lc23 (s : Addr) (d : Addr) (c0 : Int32) : Array Slot := #[.val (.ref s), .val (.int (1 : Int32)), .val (.ref d), .val (.int (1 : Int32)), .val (.int (2 : Int32)), .val (.int (1 : Int32)), .val (.int c0)]
abbrev lc24 (s : Addr) (d : Addr) (c1 : Int32) : Array Slot := #[.val (.ref s), .val (.int ((1 : Int32) + (1 : Int32))), .val (.ref d), .val (.int (1 : Int32)), .val (.int (2 : Int32)), .val (.int (1 : Int32)), .val (.int c1)]
abbrev lc25 (s : Addr) (d : Addr) (c1 : Int32) : Array Slot := #[.val (.ref s), .val (.int (2 : Int32)), .val (.ref d), .val (.int (1 : Int32)), .val (.int (2 : Int32)), .val (.int (1 : Int32)), .val (.int c1)]
abbrev lc26 (s : Addr) (d : Addr) (c1 : Int32) : Array Slot := #[.val (.ref s), .val (.int (2 : Int32)), .val (.ref d), .val (.int ((1 : Int32) + (1 : Int32))), .val (.int (2 : Int32)), .val (.int (1 : Int32)), .val (.int c1)]
abbrev lc27 (s : Addr) (d : Addr) (c1 : Int32) : Array Slot := #[.val (.ref s), .val (.int (2 : Int32)), .val (.ref d), .val (.int (2 : Int32)), .val (.int (2 : Int32)), .val (.int (1 : Int32)), .val (.int c1)]
abbrev lc28 (s : Addr) (d : Addr) (c1 : Int32) : Array Slot := #[.val (.ref s), .val (.int (2 : Int32)), .val (.ref d), .val (.int (2 : Int32)), .val (.int (2 : Int32)), .val (.int ((1 : Int32) + (1 : Int32))), .val (.int c1)]
abbrev lc29 (s : Addr) (d : Addr) (c1 : Int32) : Array Slot := #[.val (.ref s), .val (.int (2 : Int32)), .val (.ref d), .val (.int (2 : Int32)), .val (.int (2 : Int32)), .val (.int (2 : Int32)), .val (.int c1)]
theorem ef_cmp5_2 (mM : MethodId) (x0 : Addr) (x1 : Int32) (x2 : Addr) (x3 : Int32) (x4 : Int32) : entryFrame mM #[(.ref x0), (.int x1), (.ref x2), (.int x3), (.int x4)] 7 = mkF mM 0 #[.val (.ref x0), .val (.int x1), .val (.ref x2), .val (.int x3), .val (.int x4), .unset, .unset] [] := by first | (simp [entryFrame, mkF, argsToLocals, Value.category]; done) | rfl
def Q_cmp5_2 (Z : State) (s : Addr) (d : Addr) (ks : ClassId) (kd : ClassId) (c0 : Int32) (c1 : Int32) (h0 : Heap) (n0 : Nat) (v_ : Option Value) (h_ : Heap) (L_ : List Loc) : Prop := v_ = some (.int (2 : Int32)) ∧ Fr n0 L_ ∧ Keep h0 h_ [d] ∧ Arv Z h_ d kd .byte (2 : Int32) [(.int (nar .byte (c0.toInt8.toInt32))), (.int (nar .byte (c1.toInt8.toInt32)))] (.int (0 : Int32))
set_option maxRecDepth 65536 in
set_option maxHeartbeats 40000000 in
theorem rm_cmp5_2 (l : Launch) (Z : State) (a0 : Array Value) (hw : ∀ d ∈ tables_1, d.before a0 Z = true) (ws : List Jvm.Cond) (s : Addr) (d : Addr) (ks : ClassId) (kd : ClassId) (c0 : Int32) (c1 : Int32) (h0 : Heap) (n0 : Nat) (Z0 : n0 ≤ h0.size) (V_s : Arv Z h0 s ks .char (2 : Int32) [(.int c0), (.int c1)] (.int (0 : Int32))) (V_d : Arv Z h0 d kd .byte (2 : Int32) [(.int (0 : Int32)), (.int (0 : Int32))] (.int (0 : Int32))) (g_d : n0 ≤ d) (nsd : s ≠ d) (hc0 : ¬ (255 : Int32) < c0) (hc1 : ¬ (255 : Int32) < c1) :
    MetFree l (⟨"java/lang/StringUTF16", "compress", "([CI[BII)I"⟩ : MethodName) (head1 (Jvm.Cond.code (⟨"java/lang/StringUTF16", "compress", "([CI[BII)I"⟩ : MethodName) jdk_52_method_21_code 7 (some .int) :: ws) oR3) (fun aa_ U_ => aa_ = #[(.ref s), (.int (0 : Int32)), (.ref d), (.int (0 : Int32)), (.int (2 : Int32))] ∧ Z.Warmed39 U_.vm ∧ U_.heap = h0) (fun _ _ _ _ _ => True) (fun _ U_ o_ U'_ => ∃ v_ L_, o_ = .returned v_ ∧ Q_cmp5_2 Z s d ks kd c0 c1 h0 n0 v_ U'_.heap L_ ∧ FrameEnd U_ o_ U'_ L_ oR3.cells oR3.slots) := by
  refine MetFree.of_bodySF (plainFor_of_name pn_2) hisR ?_
  intro pP eE sS mM argsA below meth cC s₁ Bd hml0 hP hK
  obtain ⟨rfl, hZ, hh⟩ := hP
  have hx := Bd.exec
  have hby := Bd.bytes
  have hml : cC.maxLocals = 7 := hml0
  have hown : sS.vm.findClass "java/lang/StringUTF16" = some mM.cls := findClass_of_methodNamed Bd.named
  have hnm := (name_of_methodNamed Bd.named Bd.method).1
  have X0 : Stand pP l eE oR3 sS mM #[(.ref s), (.int (0 : Int32)), (.ref d), (.int (0 : Int32)), (.int (2 : Int32))] below meth cC s₁ [] 0 0 := Stand.of_body Bd
  have e0 : s₁.heap = h0 := by rw [← hh, Bd.state]; rfl
  have N0 := Fr.nil n0
  have pre0 : ∀ t_, Steps pP.tables eE below (s₁.setTop (mkF mM 0 #[.val (.ref s), .val (.int (0 : Int32)), .val (.ref d), .val (.int (0 : Int32)), .val (.int (2 : Int32)), .unset, .unset] [])) t_ → Steps pP.tables eE below (s₁.setTop (entryFrame mM #[(.ref s), (.int (0 : Int32)), (.ref d), (.int (0 : Int32)), (.int (2 : Int32))] 7)) t_ := fun t_ k_ => castTop (ef_cmp5_2 mM s (0 : Int32) d (0 : Int32) (2 : Int32)) k_
  obtain ⟨cl_1, Ar_1, qa_1, Sa_1, Na_1, Ha_1, Ga_1⟩ := id V_s
  have hin_1 : ¬ ((0 : Int32) < 0 ∨ cl_1.slots.size ≤ ((0 : Int32)).toNatClampNeg) := inb_of Sa_1 ⟨by decide, by decide⟩
  have hat_1 : cl_1.slots[((0 : Int32)).toNatClampNeg]? = some (.int c0) := Has.at Ha_1 hin_1 rfl
  obtain ⟨cl_2, Ar_2, qa_2, Sa_2, Na_2, Ha_2, Ga_2⟩ := id V_d
  have hin_2 : ¬ ((0 : Int32) < 0 ∨ cl_2.slots.size ≤ ((0 : Int32)).toNatClampNeg) := inb_of Sa_2 ⟨by decide, by decide⟩
  obtain ⟨T_2, h_2, X_2, e_2, W_2, st_2⟩ := stB X0 hx hZ e0 Ar_2 (j := (0 : Int32)) hin_2 (g := (mkF mM 31 (lc17 s d c0) [(.int (c0.toInt8.toInt32)), (.int (0 : Int32)), (.ref d)])) rfl rfl (hb hby d_jdk_52m21_31)
  have V_2 : Arv Z h_2 d kd .byte (2 : Int32) [(.int (nar .byte (c0.toInt8.toInt32))), (.int (0 : Int32))] (.int (0 : Int32)) := Arv.set Ar_2 qa_2 Sa_2 Na_2 Ha_2 Ga_2 (fits_nar_byte _) W_2 0 rfl (Nat.le_of_ble_eq_true rfl)
  have Z_2 : n0 ≤ h_2.size := (Nat.le_trans Z0 (Keep.of_wr W_2).1)
  have K_2 : Keep h0 h_2 [d] := (Keep.refl h0 [d]).wr W_2 (Or.inl (List.mem_of_getElem? (i := 0) rfl))
  have N_2 := Fr.snoc X_2 N0 g_d
  obtain ⟨cl_3, Ar_3, qa_3, Sa_3, Na_3, Ha_3, Ga_3⟩ := id (V_s.other W_2 nsd)
  have hin_3 : ¬ ((1 : Int32) < 0 ∨ cl_3.slots.size ≤ ((1 : Int32)).toNatClampNeg) := inb_of Sa_3 ⟨by decide, by decide⟩
  have hat_3 : cl_3.slots[((1 : Int32)).toNatClampNeg]? = some (.int c1) := Has.at Ha_3 hin_3 rfl
  obtain ⟨cl_4, Ar_4, qa_4, Sa_4, Na_4, Ha_4, Ga_4⟩ := id V_2
  have hin_4 : ¬ ((1 : Int32) < 0 ∨ cl_4.slots.size ≤ ((1 : Int32)).toNatClampNeg) := inb_of Sa_4 ⟨by decide, by decide⟩
  obtain ⟨T_4, h_4, X_4, e_4, W_4, st_4⟩ := stB X_2 hx hZ e_2 Ar_4 (j := (1 : Int32)) hin_4 (g := (mkF mM 31 (lc23 s d c1) [(.int (c1.toInt8.toInt32)), (.int (1 : Int32)), (.ref d)])) rfl rfl (hb hby d_jdk_52m21_31)
  have V_4 : Arv Z h_4 d kd .byte (2 : Int32) [(.int (nar .byte (c0.toInt8.toInt32))), (.int (nar .byte (c1.toInt8.toInt32)))] (.int (0 : Int32)) := Arv.set Ar_4 qa_4 Sa_4 Na_4 Ha_4 Ga_4 (fits_nar_byte _) W_4 1 rfl (Nat.le_of_ble_eq_true rfl)
  have Z_4 : n0 ≤ h_4.size := (Nat.le_trans Z_2 (Keep.of_wr W_4).1)
  have K_4 : Keep h0 h_4 [d] := K_2.wr W_4 (Or.inl (List.mem_of_getElem? (i := 0) rfl))
  have N_4 := Fr.snoc X_4 N_2 g_d
  obtain ⟨fs, hr, hrun, hended, hW, hsame⟩ := X_4.leave (v := some (.int (2 : Int32))) (fun h => by rw [Bd.returns] at h; cases h)
  refine ⟨_, _, pre0 _ ?_, hrun, hended, _, _, rfl, ?_, ⟨_, rfl⟩, hW, hsame.mono (by decide) (by decide)⟩
  · show oS pP eE below s₁ (mkF mM 0 (lc15 s d) []) _
    refine XS.iconst X0.here hx rfl (hb hby d_jdk_52m21_0) ?_
    refine XS.istore X0.here hx rfl (hb hby d_jdk_52m21_1) rfl (l' := (lc16 s d)) rfl ?_
    refine XS.iload X0.here hx rfl (hb hby d_jdk_52m21_3) rfl ?_
    refine XS.iload X0.here hx rfl (hb hby d_jdk_52m21_5) rfl ?_
    refine XS.icmpNo X0.here hx rfl (hb hby d_jdk_52m21_7) rfl (by decide) ?_
    refine XS.aloadN X0.here hx rfl (hb hby d_jdk_52m21_10) rfl rfl ?_
    refine XS.iloadN X0.here hx rfl (hb hby d_jdk_52m21_11) rfl ?_
    show oS pP eE below s₁ (mkF mM 12 (lc16 s d) [(.int (0 : Int32)), (.ref s)]) _
    refine X0.caload hx (j := (0 : Int32)) (v := (.int c0)) (by rw [e0]; exact Ar_1.1) (State.isArrayOf_alike hZ.alike Ar_1.2.1) Ar_1.2.2 hin_1 hat_1 (g := (mkF mM 12 (lc16 s d) [(.int (0 : Int32)), (.ref s)])) rfl rfl (hb hby d_jdk_52m21_12) _ ?_
    refine XS.istore X0.here hx rfl (hb hby d_jdk_52m21_13) rfl (l' := (lc17 s d c0)) rfl ?_
    refine XS.iload X0.here hx rfl (hb hby d_jdk_52m21_15) rfl ?_
    refine XS.sipush X0.here hx rfl (hb hby d_jdk_52m21_17) ?_
    refine XS.icmpYes X0.here hx rfl (pc0 := 20) (pc' := 26) rfl (hb hby d_jdk_52m21_20) rfl (XT.ii_le_t hc0) (by decide) (by decide) ?_
    refine XS.aloadN X0.here hx rfl (hb hby d_jdk_52m21_26) rfl rfl ?_
    refine XS.iloadN X0.here hx rfl (hb hby d_jdk_52m21_27) rfl ?_
    refine XS.iload X0.here hx rfl (hb hby d_jdk_52m21_28) rfl ?_
    show oS pP eE below s₁ (mkF mM 30 (lc17 s d c0) [(.int c0), (.int (0 : Int32)), (.ref d)]) _
    refine XT.i2b X0.here hx rfl (hb hby d_jdk_52m21_30) rfl ?_
    show oS pP eE below s₁ (mkF mM 31 (lc17 s d c0) [(.int (c0.toInt8.toInt32)), (.int (0 : Int32)), (.ref d)]) _
    refine st_2 _ ?_
    show oS pP eE below T_2 (mkF mM 32 (lc17 s d c0) []) _
    refine XS.iinc X_2.here hx rfl (hb hby d_jdk_52m21_32) rfl (l' := (lc18 s d c0)) rfl ?_
    show Steps pP.tables eE below (T_2.setTop (mkF mM 35 #[.val (.ref s), .val (.int ((0 : Int32) + (1 : Int32))), .val (.ref d), .val (.int (0 : Int32)), .val (.int (2 : Int32)), .val (.int (0 : Int32)), .val (.int c0)] [])) _
    rw [(by decide : ((0 : Int32) + (1 : Int32)) = (1 : Int32))]
    show oS pP eE below T_2 (mkF mM 35 (lc19 s d c0) []) _
    refine XS.iinc X_2.here hx rfl (hb hby d_jdk_52m21_35) rfl (l' := (lc20 s d c0)) rfl ?_
    show Steps pP.tables eE below (T_2.setTop (mkF mM 38 #[.val (.ref s), .val (.int (1 : Int32)), .val (.ref d), .val (.int ((0 : Int32) + (1 : Int32))), .val (.int (2 : Int32)), .val (.int (0 : Int32)), .val (.int c0)] [])) _
    rw [(by decide : ((0 : Int32) + (1 : Int32)) = (1 : Int32))]
    show oS pP eE below T_2 (mkF mM 38 (lc21 s d c0) []) _
    refine XS.iinc X_2.here hx rfl (hb hby d_jdk_52m21_38) rfl (l' := (lc22 s d c0)) rfl ?_
    show Steps pP.tables eE below (T_2.setTop (mkF mM 41 #[.val (.ref s), .val (.int (1 : Int32)), .val (.ref d), .val (.int (1 : Int32)), .val (.int (2 : Int32)), .val (.int ((0 : Int32) + (1 : Int32))), .val (.int c0)] [])) _
    rw [(by decide : ((0 : Int32) + (1 : Int32)) = (1 : Int32))]
    refine XS.goto X_2.here hx rfl (pc0 := 41) (pc' := 3) rfl (hb hby d_jdk_52m21_41) (by decide) (by decide) ?_
    refine XS.iload X_2.here hx rfl (hb hby d_jdk_52m21_3) rfl ?_
    refine XS.iload X_2.here hx rfl (hb hby d_jdk_52m21_5) rfl ?_
    refine XS.icmpNo X_2.here hx rfl (hb hby d_jdk_52m21_7) rfl (by decide) ?_
    refine XS.aloadN X_2.here hx rfl (hb hby d_jdk_52m21_10) rfl rfl ?_
    refine XS.iloadN X_2.here hx rfl (hb hby d_jdk_52m21_11) rfl ?_
    show oS pP eE below T_2 (mkF mM 12 (lc23 s d c0) [(.int (1 : Int32)), (.ref s)]) _
    refine X_2.caload hx (j := (1 : Int32)) (v := (.int c1)) (by rw [e_2]; exact Ar_3.1) (State.isArrayOf_alike hZ.alike Ar_3.2.1) Ar_3.2.2 hin_3 hat_3 (g := (mkF mM 12 (lc23 s d c0) [(.int (1 : Int32)), (.ref s)])) rfl rfl (hb hby d_jdk_52m21_12) _ ?_
    refine XS.istore X_2.here hx rfl (hb hby d_jdk_52m21_13) rfl (l' := (lc23 s d c1)) rfl ?_
    refine XS.iload X_2.here hx rfl (hb hby d_jdk_52m21_15) rfl ?_
    refine XS.sipush X_2.here hx rfl (hb hby d_jdk_52m21_17) ?_
    refine XS.icmpYes X_2.here hx rfl (pc0 := 20) (pc' := 26) rfl (hb hby d_jdk_52m21_20) rfl (XT.ii_le_t hc1) (by decide) (by decide) ?_
    refine XS.aloadN X_2.here hx rfl (hb hby d_jdk_52m21_26) rfl rfl ?_
    refine XS.iloadN X_2.here hx rfl (hb hby d_jdk_52m21_27) rfl ?_
    refine XS.iload X_2.here hx rfl (hb hby d_jdk_52m21_28) rfl ?_
    show oS pP eE below T_2 (mkF mM 30 (lc23 s d c1) [(.int c1), (.int (1 : Int32)), (.ref d)]) _
    refine XT.i2b X_2.here hx rfl (hb hby d_jdk_52m21_30) rfl ?_
    show oS pP eE below T_2 (mkF mM 31 (lc23 s d c1) [(.int (c1.toInt8.toInt32)), (.int (1 : Int32)), (.ref d)]) _
    refine st_4 _ ?_
    show oS pP eE below T_4 (mkF mM 32 (lc23 s d c1) []) _
    refine XS.iinc X_4.here hx rfl (hb hby d_jdk_52m21_32) rfl (l' := (lc24 s d c1)) rfl ?_
    show Steps pP.tables eE below (T_4.setTop (mkF mM 35 #[.val (.ref s), .val (.int ((1 : Int32) + (1 : Int32))), .val (.ref d), .val (.int (1 : Int32)), .val (.int (2 : Int32)), .val (.int (1 : Int32)), .val (.int c1)] [])) _
    rw [(by decide : ((1 : Int32) + (1 : Int32)) = (2 : Int32))]
    show oS pP eE below T_4 (mkF mM 35 (lc25 s d c1) []) _
    refine XS.iinc X_4.here hx rfl (hb hby d_jdk_52m21_35) rfl (l' := (lc26 s d c1)) rfl ?_
    show Steps pP.tables eE below (T_4.setTop (mkF mM 38 #[.val (.ref s), .val (.int (2 : Int32)), .val (.ref d), .val (.int ((1 : Int32) + (1 : Int32))), .val (.int (2 : Int32)), .val (.int (1 : Int32)), .val (.int c1)] [])) _
    rw [(by decide : ((1 : Int32) + (1 : Int32)) = (2 : Int32))]
    show oS pP eE below T_4 (mkF mM 38 (lc27 s d c1) []) _
    refine XS.iinc X_4.here hx rfl (hb hby d_jdk_52m21_38) rfl (l' := (lc28 s d c1)) rfl ?_
    show Steps pP.tables eE below (T_4.setTop (mkF mM 41 #[.val (.ref s), .val (.int (2 : Int32)), .val (.ref d), .val (.int (2 : Int32)), .val (.int (2 : Int32)), .val (.int ((1 : Int32) + (1 : Int32))), .val (.int c1)] [])) _
    rw [(by decide : ((1 : Int32) + (1 : Int32)) = (2 : Int32))]
    refine XS.goto X_4.here hx rfl (pc0 := 41) (pc' := 3) rfl (hb hby d_jdk_52m21_41) (by decide) (by decide) ?_
    refine XS.iload X_4.here hx rfl (hb hby d_jdk_52m21_3) rfl ?_
    refine XS.iload X_4.here hx rfl (hb hby d_jdk_52m21_5) rfl ?_
    refine XS.icmpYes X_4.here hx rfl (pc0 := 7) (pc' := 44) rfl (hb hby d_jdk_52m21_7) rfl (by decide) (by decide) (by decide) ?_
    refine XS.iload X_4.here hx rfl (hb hby d_jdk_52m21_44) rfl ?_
    show oS pP eE below T_4 (mkF mM 46 (lc29 s d c1) [(.int (2 : Int32))]) _
    exact retI X_4 hx Bd.returns (hb hby d_jdk_52m21_46) hr
  · show Q_cmp5_2 Z s d ks kd c0 c1 h0 n0 _ T_4.heap _
    rw [e_4]
    exact ⟨rfl, N_4, K_4, V_4⟩
abbrev lc30 (s : Addr) : Array Slot := #[.val (.ref s), .val (.int (0 : Int32)), .val (.int (2 : Int32)), .unset, .unset, .unset]
abbrev lc31 (s : Addr) (b_1 : Addr) : Array Slot := #[.val (.ref s), .val (.int (0 : Int32)), .val (.int (2 : Int32)), .val (.ref b_1), .unset, .unset]
abbrev lc32 (s : Addr) (b_1 : Addr) : Array Slot := #[.val (.ref s), .val (.int (0 : Int32)), .val (.int (2 : Int32)), .val (.ref b_1), .val (.int (2 : Int32)), .unset]
theorem ef_cmp3_2 (mM : MethodId) (x0 : Addr) (x1 : Int32) (x2 : Int32) : entryFrame mM #[(.ref x0), (.int x1), (.int x2)] 6 = mkF mM 0 #[.val (.ref x0), .val (.int x1), .val (.int x2), .unset, .unset, .unset] [] := by first | (simp [entryFrame, mkF, argsToLocals, Value.category]; done) | rfl
def Q_cmp3_2 (Z : State) (s : Addr) (ks : ClassId) (c0 : Int32) (c1 : Int32) (h0 : Heap) (n0 : Nat) (v_ : Option Value) (h_ : Heap) (L_ : List Loc) : Prop := ∃ d : Addr, ∃ kd : ClassId, v_ = some (.ref d) ∧ Fr n0 L_ ∧ Keep h0 h_ [] ∧ h0.size ≤ d ∧ Arv Z h_ d kd .byte (2 : Int32) [(.int (nar .byte (c0.toInt8.toInt32))), (.int (nar .byte (c1.toInt8.toInt32)))] (.int (0 : Int32))
set_option maxRecDepth 65536 in
set_option maxHeartbeats 40000000 in
theorem rm_cmp3_2 (l : Launch) (Z : State) (a0 : Array Value) (hw : ∀ d ∈ tables_1, d.before a0 Z = true) (ws : List Jvm.Cond) (s : Addr) (ks : ClassId) (c0 : Int32) (c1 : Int32) (h0 : Heap) (n0 : Nat) (Z0 : n0 ≤ h0.size) (V_s : Arv Z h0 s ks .char (2 : Int32) [(.int c0), (.int c1)] (.int (0 : Int32))) (hc0 : ¬ (255 : Int32) < c0) (hc1 : ¬ (255 : Int32) < c1) :
    MetFree l (⟨"java/lang/StringUTF16", "compress", "([CII)[B"⟩ : MethodName) (head1 (Jvm.Cond.code (⟨"java/lang/StringUTF16", "compress", "([CII)[B"⟩ : MethodName) jdk_52_method_16_code 6 (some (.array .byte)) :: ws) oR8) (fun aa_ U_ => aa_ = #[(.ref s), (.int (0 : Int32)), (.int (2 : Int32))] ∧ Z.Warmed39 U_.vm ∧ U_.heap = h0) (fun _ _ _ _ _ => True) (fun _ U_ o_ U'_ => ∃ v_ L_, o_ = .returned v_ ∧ Q_cmp3_2 Z s ks c0 c1 h0 n0 v_ U'_.heap L_ ∧ FrameEnd U_ o_ U'_ L_ oR8.cells oR8.slots) := by
  refine MetFree.of_bodySF (plainFor_of_name pn_2) hisR ?_
  intro pP eE sS mM argsA below meth cC s₁ Bd hml0 hP hK
  obtain ⟨rfl, hZ, hh⟩ := hP
  have hx := Bd.exec
  have hby := Bd.bytes
  have hml : cC.maxLocals = 6 := hml0
  have hown : sS.vm.findClass "java/lang/StringUTF16" = some mM.cls := findClass_of_methodNamed Bd.named
  have hnm := (name_of_methodNamed Bd.named Bd.method).1
  have X0 : Stand pP l eE oR8 sS mM #[(.ref s), (.int (0 : Int32)), (.int (2 : Int32))] below meth cC s₁ [] 0 0 := Stand.of_body Bd
  have e0 : s₁.heap = h0 := by rw [← hh, Bd.state]; rfl
  have N0 := Fr.nil n0
  have pre0 : ∀ t_, Steps pP.tables eE below (s₁.setTop (mkF mM 0 #[.val (.ref s), .val (.int (0 : Int32)), .val (.int (2 : Int32)), .unset, .unset, .unset] [])) t_ → Steps pP.tables eE below (s₁.setTop (entryFrame mM #[(.ref s), (.int (0 : Int32)), (.int (2 : Int32))] 6)) t_ := fun t_ k_ => castTop (ef_cmp3_2 mM s (0 : Int32) (2 : Int32)) k_
  obtain ⟨T_1, h_1, k_1, X_1, e_1, E_1, A_1, st_1⟩ := newP X0 hx hZ (ow hw 25 rfl) e0 (g := (mkF mM 1 (lc30 s) [(.int (2 : Int32))])) rfl (hb hby d_jdk_52m16_1) rfl (by decide) (cap := 2) (by decide) (by decide) (by decide) (by decide)
  obtain ⟨b_1, g_1⟩ : ∃ z, z = h0.size := ⟨_, rfl⟩
  rw [← g_1] at A_1 st_1
  have g_b_1 : n0 ≤ b_1 := Nat.le_trans Z0 (Nat.le_of_eq g_1.symm)
  have sz_b_1 : h0.size ≤ b_1 := Nat.le_trans (Keep.refl h0 []).1 (Nat.le_of_eq g_1.symm)
  have Z_1 : n0 ≤ h_1.size := (Nat.le_trans Z0 E_1.1)
  have K_1 : Keep h0 h_1 [] := (Keep.refl h0 []).ext E_1
  have V_b_1 : Arv Z h_1 b_1 k_1 .byte (2 : Int32) [(.int (0 : Int32)), (.int (0 : Int32))] (.int (0 : Int32)) := (Arv.new A_1 (by decide)).pad (pad_rep [] (.int (0 : Int32)) 2)
  obtain ⟨_, _, ⟨T_2, L_2, k_2, n_2⟩, -, X_2, ⟨Lc_2, hQ_2, l_2, y_2, z_2⟩, st_2⟩ := Jvm.LawKit.callS X_1 hx (y := MN2) hown (mvT hZ (ow hw 102 rfl)) (mvT hZ (ow hw 103 rfl)) (mvT hZ (ow hw 100 rfl)) (mvT hZ (ow hw 104 rfl)) (by decide) (backOf (W := 0) (rm_cmp5_2 l Z a0 hw [] s b_1 ks k_1 c0 c1 h_1 n0 Z_1 (V_s.ext E_1) V_b_1 g_b_1 (Nat.ne_of_lt (Nat.lt_of_lt_of_le V_s.lt (Nat.le_of_eq g_1.symm))) hc0 hc1) hZ (ow hw 104 rfl) (ow hw 100 rfl) (by decide) (by decide)) (g := (mkF mM 9 (lc31 s b_1) [(.int (2 : Int32)), (.int (0 : Int32)), (.ref b_1), (.int (0 : Int32)), (.ref s)])) rfl (by rw [hml]; rfl) (argsL := [(.ref s), (.int (0 : Int32)), (.ref b_1), (.int (0 : Int32)), (.int (2 : Int32))]) (rest := []) (lenOf pd_2 rfl) rfl (by show 2 * 0 + _ ≤ _; exact Nat.le_of_eq rfl) (hb hby d_jdk_52m16_9) (fun _ _ => ⟨rfl, e_1, (by decide : 1 + 0 ≤ _), (by decide : 2 + 0 ≤ _)⟩)
  dsimp only [Pt.U, Pt.locs, Pt.cells, Pt.slots] at X_2 l_2 y_2 z_2 st_2 hQ_2
  subst l_2 y_2 z_2
  obtain ⟨rfl, N_2q, Kc_2, pfV_d_2⟩ := hQ_2
  have Z_2 : n0 ≤ T_2.heap.size := (Nat.le_trans Z_1 Kc_2.1)
  have K_2 : Keep h0 T_2.heap [] := K_1.trans Kc_2 (allS (Or.inr sz_b_1) all0)
  have N_2 := Fr.app N0 N_2q
  obtain ⟨fs, hr, hrun, hended, hW, hsame⟩ := X_2.leave (v := some (.ref b_1)) (fun h => by rw [Bd.returns] at h; cases h)
  refine ⟨_, _, pre0 _ ?_, hrun, hended, _, _, rfl, ?_, ⟨_, rfl⟩, hW, hsame.mono (by decide) (by decide)⟩
  · show oS pP eE below s₁ (mkF mM 0 (lc30 s) []) _
    refine XS.iloadN X0.here hx rfl (hb hby d_jdk_52m16_0) rfl ?_
    show oS pP eE below s₁ (mkF mM 1 (lc30 s) [(.int (2 : Int32))]) _
    refine st_1 _ ?_
    show oS pP eE below T_1 (mkF mM 3 (lc30 s) [(.ref b_1)]) _
    refine XS.astoreN X_1.here hx rfl (hb hby d_jdk_52m16_3) rfl rfl (l' := (lc31 s b_1)) rfl ?_
    refine XS.aloadN X_1.here hx rfl (hb hby d_jdk_52m16_4) rfl rfl ?_
    refine XS.iloadN X_1.here hx rfl (hb hby d_jdk_52m16_5) rfl ?_
    refine XS.aloadN X_1.here hx rfl (hb hby d_jdk_52m16_6) rfl rfl ?_
    refine XS.iconst X_1.here hx rfl (hb hby d_jdk_52m16_7) ?_
    refine XS.iloadN X_1.here hx rfl (hb hby d_jdk_52m16_8) rfl ?_
    show oS pP eE below T_1 (mkF mM 9 (lc31 s b_1) [(.int (2 : Int32)), (.int (0 : Int32)), (.ref b_1), (.int (0 : Int32)), (.ref s)]) _
    refine st_2 _ ?_
    show oS pP eE below T_2 (mkF mM 12 (lc31 s b_1) [(.int (2 : Int32))]) _
    refine XS.istore X_2.here hx rfl (hb hby d_jdk_52m16_12) rfl (l' := (lc32 s b_1)) rfl ?_
    refine XS.iload X_2.here hx rfl (hb hby d_jdk_52m16_14) rfl ?_
    refine XS.iloadN X_2.here hx rfl (hb hby d_jdk_52m16_16) rfl ?_
    refine XS.icmpYes X_2.here hx rfl (pc0 := 17) (pc' := 57) rfl (hb hby d_jdk_52m16_17) rfl (by decide) (by decide) (by decide) ?_
    refine XS.aloadN X_2.here hx rfl (hb hby d_jdk_52m16_57) rfl rfl ?_
    show oS pP eE below T_2 (mkF mM 58 (lc32 s b_1) [(.ref b_1)]) _
    exact retOut X_2 hx Bd.returns rfl (Or.inr (Or.inr (Or.inr (Or.inr ⟨rfl, rfl, rfl⟩)))) (hb hby d_jdk_52m16_58) hr
  · show Q_cmp3_2 Z s ks c0 c1 h0 n0 _ T_2.heap _
    exact ⟨b_1, k_1, rfl, N_2, K_2, sz_b_1, pfV_d_2⟩
theorem ef_cfl_2 (mM : MethodId) (x0 : Addr) (x1 : Int32) : entryFrame mM #[(.ref x0), (.int x1)] 2 = mkF mM 0 #[.val (.ref x0), .val (.int x1)] [] := by first | (simp [entryFrame, mkF, argsToLocals, Value.category]; done) | rfl
def Q_cfl_2 (Z : State) (d : Addr) (kd : ClassId) (w0 : Int32) (w1 : Int32) (h0 : Heap) (n0 : Nat) (v_ : Option Value) (h_ : Heap) (L_ : List Loc) : Prop := v_ = some (.int (0 : Int32)) ∧ Fr n0 L_ ∧ h_ = h0
set_option maxRecDepth 65536 in
set_option maxHeartbeats 40000000 in
theorem rm_cfl_2 (l : Launch) (Z : State) (a0 : Array Value) (hw : ∀ d ∈ tables_1, d.before a0 Z = true) (ws : List Jvm.Cond) (d : Addr) (kd : ClassId) (w0 : Int32) (w1 : Int32) (h0 : Heap) (n0 : Nat) (Z0 : n0 ≤ h0.size) (V_d : Arv Z h0 d kd .byte (2 : Int32) [(.int w0), (.int w1)] (.int (0 : Int32))) :
    MetFree l (⟨"java/lang/StringUTF16", "coderFromArrayLen", "([BI)B"⟩ : MethodName) (head1 (Jvm.Cond.code (⟨"java/lang/StringUTF16", "coderFromArrayLen", "([BI)B"⟩ : MethodName) jdk_52_method_15_code 2 (some .byte) :: ws) oR3) (fun aa_ U_ => aa_ = #[(.ref d), (.int (2 : Int32))] ∧ Z.Warmed39 U_.vm ∧ U_.heap = h0) (fun _ _ _ _ _ => True) (fun _ U_ o_ U'_ => ∃ v_ L_, o_ = .returned v_ ∧ Q_cfl_2 Z d kd w0 w1 h0 n0 v_ U'_.heap L_ ∧ FrameEnd U_ o_ U'_ L_ oR3.cells oR3.slots) := by
  refine MetFree.of_bodySF (plainFor_of_name pn_2) hisR ?_
  intro pP eE sS mM argsA below meth cC s₁ Bd hml0 hP hK
  obtain ⟨rfl, hZ, hh⟩ := hP
  have hx := Bd.exec
  have hby := Bd.bytes
  have hml : cC.maxLocals = 2 := hml0
  have hown : sS.vm.findClass "java/lang/StringUTF16" = some mM.cls := findClass_of_methodNamed Bd.named
  have hnm := (name_of_methodNamed Bd.named Bd.method).1
  have X0 : Stand pP l eE oR3 sS mM #[(.ref d), (.int (2 : Int32))] below meth cC s₁ [] 0 0 := Stand.of_body Bd
  have e0 : s₁.heap = h0 := by rw [← hh, Bd.state]; rfl
  have N0 := Fr.nil n0
  have pre0 : ∀ t_, Steps pP.tables eE below (s₁.setTop (mkF mM 0 #[.val (.ref d), .val (.int (2 : Int32))] [])) t_ → Steps pP.tables eE below (s₁.setTop (entryFrame mM #[(.ref d), (.int (2 : Int32))] 2)) t_ := fun t_ k_ => castTop (ef_cfl_2 mM d (2 : Int32)) k_
  obtain ⟨cl_1, Ar_1, -, Sa_1, Na_1, -, -⟩ := id V_d
  obtain ⟨fs, hr, hrun, hended, hW, hsame⟩ := X0.leave (v := some (.int (0 : Int32))) (fun h => by rw [Bd.returns] at h; cases h)
  refine ⟨_, _, pre0 _ ?_, hrun, hended, _, _, rfl, ?_, ⟨_, rfl⟩, hW, hsame.mono (by decide) (by decide)⟩
  · show oS pP eE below s₁ (mkF mM 0 #[.val (.ref d), .val (.int (2 : Int32))] []) _
    refine XS.iloadN X0.here hx rfl (hb hby d_jdk_52m15_0) rfl ?_
    refine XS.aloadN X0.here hx rfl (hb hby d_jdk_52m15_1) rfl rfl ?_
    show oS pP eE below s₁ (mkF mM 2 #[.val (.ref d), .val (.int (2 : Int32))] [(.ref d), (.int (2 : Int32))]) _
    refine X0.arraylength hx (by rw [e0]; exact Ar_1.1) (State.isArrayOf_alike hZ.alike Ar_1.2.1) (g := (mkF mM 2 #[.val (.ref d), .val (.int (2 : Int32))] [(.ref d), (.int (2 : Int32))])) rfl rfl (hb hby d_jdk_52m15_2) _ ?_
    rw [len_of Sa_1 Na_1]
    show oS pP eE below s₁ (mkF mM 3 #[.val (.ref d), .val (.int (2 : Int32))] [(.int (2 : Int32)), (.int (2 : Int32))]) _
    refine XS.isub X0.here hx rfl (hb hby d_jdk_52m15_3) rfl ?_
    show Steps pP.tables eE below (s₁.setTop (mkF mM 4 #[.val (.ref d), .val (.int (2 : Int32))] [(.int ((2 : Int32) - (2 : Int32)))])) _
    rw [(by decide : ((2 : Int32) - (2 : Int32)) = (0 : Int32))]
    refine XS.bipush X0.here hx rfl (hb hby d_jdk_52m15_4) ?_
    show oS pP eE below s₁ (mkF mM 6 #[.val (.ref d), .val (.int (2 : Int32))] [(.int (31 : Int32)), (.int (0 : Int32))]) _
    refine XT.iushr X0.here hx rfl (hb hby d_jdk_52m15_6) rfl ?_
    show Steps pP.tables eE below (s₁.setTop (mkF mM 7 #[.val (.ref d), .val (.int (2 : Int32))] [(.int (XT.ushr (0 : Int32) (31 : Int32)))])) _
    rw [(by decide : (XT.ushr (0 : Int32) (31 : Int32)) = (0 : Int32))]
    show oS pP eE below s₁ (mkF mM 7 #[.val (.ref d), .val (.int (2 : Int32))] [(.int (0 : Int32))]) _
    refine XT.i2b X0.here hx rfl (hb hby d_jdk_52m15_7) rfl ?_
    show Steps pP.tables eE below (s₁.setTop (mkF mM 8 #[.val (.ref d), .val (.int (2 : Int32))] [(.int ((0 : Int32).toInt8.toInt32))])) _
    rw [(by decide : ((0 : Int32).toInt8.toInt32) = (0 : Int32))]
    show oS pP eE below s₁ (mkF mM 8 #[.val (.ref d), .val (.int (2 : Int32))] [(.int (0 : Int32))]) _
    exact retN X0 hx (t := .byte) Bd.returns (by simp) (hb hby d_jdk_52m15_8) hr
  · show Q_cfl_2 Z d kd w0 w1 h0 n0 _ s₁.heap _
    rw [e0]
    exact ⟨rfl, N0, rfl⟩
abbrev lc33 (a : Addr) (s : Addr) : Array Slot := #[.val (.ref a), .val (.ref s), .val (.int (0 : Int32)), .val (.int (2 : Int32)), .val .null, .unset]
abbrev lc34 (a : Addr) (s : Addr) (d__3 : Addr) : Array Slot := #[.val (.ref a), .val (.ref s), .val (.int (0 : Int32)), .val (.int (2 : Int32)), .val .null, .val (.ref d__3)]
theorem ef_str5_2 (mM : MethodId) (x0 : Addr) (x1 : Addr) (x2 : Int32) (x3 : Int32) : entryFrame mM #[(.ref x0), (.ref x1), (.int x2), (.int x3), .null] 6 = mkF mM 0 #[.val (.ref x0), .val (.ref x1), .val (.int x2), .val (.int x3), .val .null, .unset] [] := by first | (simp [entryFrame, mkF, argsToLocals, Value.category]; done) | rfl
def Q_str5_2 (Z : State) (a : Addr) (s : Addr) (ks : ClassId) (cs : Int32) (c0 : Int32) (c1 : Int32) (h0 : Heap) (n0 : Nat) (v_ : Option Value) (h_ : Heap) (L_ : List Loc) : Prop := ∃ d : Addr, ∃ kd : ClassId, v_ = none ∧ Fr n0 L_ ∧ Keep h0 h_ [a] ∧ h0.size ≤ d ∧ Exa Z h_ a "java/lang/String" ∧ Fld Z h_ a "java/lang/String" "value" "[B" (.ref d) ∧ Fld Z h_ a "java/lang/String" "coder" "B" (.int (0 : Int32)) ∧ Arv Z h_ d kd .byte (2 : Int32) [(.int (nar .byte (c0.toInt8.toInt32))), (.int (nar .byte (c1.toInt8.toInt32)))] (.int (0 : Int32))
set_option maxRecDepth 65536 in
set_option maxHeartbeats 40000000 in
theorem rm_str5_2 (l : Launch) (Z : State) (a0 : Array Value) (hw : ∀ d ∈ tables_1, d.before a0 Z = true) (ws : List Jvm.Cond) (a : Addr) (s : Addr) (ks : ClassId) (cs : Int32) (c0 : Int32) (c1 : Int32) (h0 : Heap) (n0 : Nat) (Z0 : n0 ≤ h0.size) (F_value_a : Fld Z h0 a "java/lang/String" "value" "[B" .null) (F_coder_a : Fld Z h0 a "java/lang/String" "coder" "B" (.int (0 : Int32))) (E_a : Exa Z h0 a "java/lang/String") (g_a : n0 ≤ a) (S_String_COMPACT_STRINGS : Sta Z h0 "java/lang/String" "COMPACT_STRINGS" "Z" (.int cs)) (hcs : ¬ cs = 0) (V_s : Arv Z h0 s ks .char (2 : Int32) [(.int c0), (.int c1)] (.int (0 : Int32))) (nas : a ≠ s) (hc0 : ¬ (255 : Int32) < c0) (hc1 : ¬ (255 : Int32) < c1) :
    MetFree l (⟨"java/lang/String", "<init>", "([CIILjava/lang/Void;)V"⟩ : MethodName) (head1 (Jvm.Cond.code (⟨"java/lang/String", "<init>", "([CIILjava/lang/Void;)V"⟩ : MethodName) jdk_42_method_149_code 6 none :: ws) oR9) (fun aa_ U_ => aa_ = #[(.ref a), (.ref s), (.int (0 : Int32)), (.int (2 : Int32)), .null] ∧ Z.Warmed39 U_.vm ∧ U_.heap = h0 ∧ CHv Z own_EL U_.vm h0) (fun _ _ _ _ _ => True) (fun _ U_ o_ U'_ => ∃ v_ L_, o_ = .returned v_ ∧ Q_str5_2 Z a s ks cs c0 c1 h0 n0 v_ U'_.heap L_ ∧ CHr Z own_EL U_.vm U_.heap U'_.vm U'_.heap ∧ ReturnedEndW U_ o_ U'_ L_ oR9.cells oR9.slots) := by
  refine MetFree.of_bodySF (plainFor_of_name pn_0) hisR ?_
  intro pP eE sS mM argsA below meth cC s₁ Bd hml0 hP hK
  obtain ⟨rfl, hZ, hh, hCH⟩ := hP
  have hx := Bd.exec
  have hby := Bd.bytes
  have hml : cC.maxLocals = 6 := hml0
  have hown : sS.vm.findClass "java/lang/String" = some mM.cls := findClass_of_methodNamed Bd.named
  have hnm := (name_of_methodNamed Bd.named Bd.method).1
  have X0 : Stand pP l eE oR9 (sS.setVm sS.vm) mM #[(.ref a), (.ref s), (.int (0 : Int32)), (.int (2 : Int32)), .null] below meth cC s₁ [] 0 0 := Stand.of_body Bd
  have e0 : s₁.heap = h0 := by rw [← hh, Bd.state]; rfl
  have N0 := Fr.nil n0
  have pre0 : ∀ t_, Steps pP.tables eE below (s₁.setTop (mkF mM 0 #[.val (.ref a), .val (.ref s), .val (.int (0 : Int32)), .val (.int (2 : Int32)), .val .null, .unset] [])) t_ → Steps pP.tables eE below (s₁.setTop (entryFrame mM #[(.ref a), (.ref s), (.int (0 : Int32)), (.int (2 : Int32)), .null] 6)) t_ := fun t_ k_ => castTop (ef_str5_2 mM a s (0 : Int32) (2 : Int32)) k_
  have hZ : Z.Warmed39 (sS.setVm sS.vm).vm := hZ
  have hown : (sS.setVm sS.vm).vm.findClass "java/lang/String" = some mM.cls := hown
  have hS0 : sS.Since sS.vm 0 := (State.WarmedH.refl sS).since 0
  have hk0 : 0 ≤ h0.size := Nat.zero_le _
  have CR0 := CHr.refl hCH
  have Sf_a : Safe Z own_EL sS.vm h0 a := own_safe_null hZ.alike E_a F_value_a
  obtain ⟨T_1, X_1, e_1, st_1⟩ := initO X0 hx hZ hown (ow hw 21 rfl) (ow hw 22 rfl) (ow hw 23 rfl) e0 (g := (mkF mM 1 (lc33 a s) [(.ref a)])) rfl (by rw [hml]; rfl) rfl (hb hby d_jdk_42m149_1) (by decide) (W := 0) (by show 2 * 0 + _ ≤ _; exact Nat.le_of_eq rfl) (by decide)
  obtain ⟨T_2, X_2, e_2, st_2⟩ := getS2 X_1 hx hZ hown (host := "") (Or.inl (ow hw 87 rfl)) Via.refl e_1 S_String_COMPACT_STRINGS (g := (mkF mM 27 (lc33 a s) [])) rfl (hb hby d_jdk_42m149_27)
  obtain ⟨_, _, ⟨T_3, L_3, k_3, n_3⟩, -, X_3, ⟨Lc_3, hQ_3, l_3, y_3, z_3⟩, st_3⟩ := Jvm.LawKit.callS X_2 hx (y := MN3) hown (mvT hZ (ow hw 98 rfl)) (mvT hZ (ow hw 99 rfl)) (mvT hZ (ow hw 100 rfl)) (mvT hZ (ow hw 101 rfl)) (by decide) (backOf (W := 0) (rm_cmp3_2 l Z a0 hw [] s ks c0 c1 h0 n0 Z0 V_s hc0 hc1) hZ (ow hw 101 rfl) (ow hw 100 rfl) (by decide) (by decide)) (g := (mkF mM 36 (lc33 a s) [(.int (2 : Int32)), (.int (0 : Int32)), (.ref s)])) rfl (by rw [hml]; rfl) (argsL := [(.ref s), (.int (0 : Int32)), (.int (2 : Int32))]) (rest := []) (lenOf pd_3 rfl) rfl (by show 2 * 0 + _ ≤ _; exact Nat.le_of_eq rfl) (hb hby d_jdk_42m149_36) (fun _ _ => ⟨rfl, e_2, (by decide : 0 + 1 ≤ _), (by decide : 0 + 2 ≤ _)⟩)
  dsimp only [Pt.U, Pt.locs, Pt.cells, Pt.slots] at X_3 l_3 y_3 z_3 st_3 hQ_3
  subst l_3 y_3 z_3
  obtain ⟨d__3, ⟨kd__3, ⟨rfl, N_3q, Kc_3, pfsz_d_3, pfV_d_3⟩⟩⟩ := hQ_3
  have Z_3 : n0 ≤ T_3.heap.size := (Nat.le_trans Z0 Kc_3.1)
  have K_3 : Keep h0 T_3.heap [a] := (Keep.refl h0 [a]).trans Kc_3 all0
  have hk_3 : _ ≤ T_3.heap.size := Nat.le_trans hk0 Kc_3.1
  have Ca_3 := CHr.keep Kc_3 all0 CR0.1
  have CR_3 := CR0.trans Ca_3
  have Sf_a_3 := Ca_3.safe E_a.lt Sf_a
  have sz_d__3 : h0.size ≤ d__3 := Nat.le_trans (Keep.refl h0 [a]).1 pfsz_d_3
  have g_d__3 : n0 ≤ d__3 := Nat.le_trans Z0 pfsz_d_3
  have N_3 := Fr.app N0 N_3q
  obtain ⟨_, _, ⟨T_4, L_4, k_4, n_4⟩, -, X_4, ⟨Lc_4, hQ_4, l_4, y_4, z_4⟩, st_4⟩ := Jvm.LawKit.callS X_3 hx (y := MN4) hown (mvT hZ (ow hw 105 rfl)) (mvT hZ (ow hw 106 rfl)) (mvT hZ (ow hw 100 rfl)) (mvT hZ (ow hw 107 rfl)) (by decide) (backOf (W := 1) (rm_cfl_2 l Z a0 hw [] d__3 kd__3 (nar .byte (c0.toInt8.toInt32)) (nar .byte (c1.toInt8.toInt32)) T_3.heap n0 Z_3 pfV_d_3) hZ (ow hw 107 rfl) (ow hw 100 rfl) (by decide) (by decide)) (g := (mkF mM 45 (lc34 a s d__3) [(.int (2 : Int32)), (.ref d__3), (.ref a)])) rfl (by rw [hml]; rfl) (argsL := [(.ref d__3), (.int (2 : Int32))]) (rest := [(.ref a)]) (lenOf pd_4 rfl) rfl (by show 2 * 0 + _ ≤ _; exact Nat.le_of_eq rfl) (hb hby d_jdk_42m149_45) (fun _ _ => ⟨rfl, rfl, (by decide : 1 + 0 ≤ _), (by decide : 2 + 0 ≤ _)⟩)
  dsimp only [Pt.U, Pt.locs, Pt.cells, Pt.slots] at X_4 l_4 y_4 z_4 st_4 hQ_4
  subst l_4 y_4 z_4
  obtain ⟨rfl, N_4q, eh_4⟩ := hQ_4
  have N_4 := Fr.app N_3 N_4q
  obtain ⟨T_5, h_5, X_5, e_5, W_5, st_5⟩ := putFN X_4 hx hZ hown (ow hw 31 rfl) Via.refl eh_4 (F_coder_a.keep Kc_3 nin0) (E_a.keep Kc_3) (Or.inr ⟨(ow hw 27 rfl), rfl, hnm⟩) (ow hw 11 rfl) (ty := .byte) (v' := (.int (0 : Int32))) (by decide) rfl rfl (g := (mkF mM 48 (lc34 a s d__3) [(.int (0 : Int32)), (.ref a)])) rfl rfl (hb hby d_jdk_42m149_48)
  have Fw_5 := (F_coder_a.keep Kc_3 nin0).same W_5
  have Z_5 : n0 ≤ h_5.size := (Nat.le_trans Z_3 (Keep.of_wr W_5).1)
  have K_5 : Keep h0 h_5 [a] := K_3.wr W_5 (Or.inl (List.mem_of_getElem? (i := 0) rfl))
  have hk_5 : _ ≤ h_5.size := Nat.le_trans hk_3 (Keep.of_wr W_5).1
  have Ca_5 := CHr.wr W_5 Sf_a_3 CR_3.1
  have CR_5 := CR_3.trans Ca_5
  have Sf_a_5 := Ca_5.safe (E_a.keep Kc_3).lt Sf_a_3
  have N_5 := Fr.snoc X_5 N_4 g_a
  obtain ⟨T_6, h_6, X_6, e_6, W_6, st_6⟩ := putF X_5 hx hZ hown (host := "") (Or.inl (ow hw 30 rfl)) Via.refl e_5 ((F_value_a.keep Kc_3 nin0).other W_5 (Or.inr (slot_ne (Or.inr (ow hw 26 rfl)) (Or.inr (ow hw 27 rfl)) (by decide) (t := (.array .byte)) (t' := .byte) (by decide) (by decide)))) ((E_a.keep Kc_3).wr W_5) (Or.inr ⟨(ow hw 26 rfl), rfl, hnm⟩) (ow hw 11 rfl) (ty := (.array .byte)) (by decide) rfl rfl (g := (mkF mM 54 (lc34 a s d__3) [(.ref d__3), (.ref a)])) rfl rfl (hb hby d_jdk_42m149_54)
  have Fw_6 := ((F_value_a.keep Kc_3 nin0).other W_5 (Or.inr (slot_ne (Or.inr (ow hw 26 rfl)) (Or.inr (ow hw 27 rfl)) (by decide) (t := (.array .byte)) (t' := .byte) (by decide) (by decide)))).same W_6
  have Z_6 : n0 ≤ h_6.size := (Nat.le_trans Z_5 (Keep.of_wr W_6).1)
  have K_6 : Keep h0 h_6 [a] := K_5.wr W_6 (Or.inl (List.mem_of_getElem? (i := 0) rfl))
  have hk_6 : _ ≤ h_6.size := Nat.le_trans hk_5 (Keep.of_wr W_6).1
  have Ca_6 := CHr.wr W_6 Sf_a_5 CR_5.1
  have CR_6 := CR_5.trans Ca_6
  have Sf_a_6 := Ca_6.safe ((E_a.keep Kc_3).wr W_5).lt Sf_a_5
  have N_6 := Fr.snoc X_6 N_5 g_a
  have hCF : CHr Z own_EL sS.vm sS.heap T_6.vm T_6.heap := by rw [hh, e_6]; exact CR_6.trans (CHv.at X_6 hZ (own_EW hw) CR_6.1)
  obtain ⟨fs, hr, hrun, hended, hRE⟩ := X_6.leaveW hS0 (show _ ≤ T_6.heap.size by rw [e_6]; exact hk_6) (v := none) (fun _ => rfl)
  refine ⟨_, _, pre0 _ ?_, hrun, hended, _, _, rfl, ?_, hCF, ⟨_, rfl⟩, hRE.2.1, hRE.2.2.1, hRE.2.2.2.mono (by decide) (by decide)⟩
  · show oS pP eE below s₁ (mkF mM 0 (lc33 a s) []) _
    refine XS.aloadN X0.here hx rfl (hb hby d_jdk_42m149_0) rfl rfl ?_
    show oS pP eE below s₁ (mkF mM 1 (lc33 a s) [(.ref a)]) _
    refine st_1 _ ?_
    show oS pP eE below T_1 (mkF mM 4 (lc33 a s) []) _
    refine XS.iloadN X_1.here hx rfl (hb hby d_jdk_42m149_4) rfl ?_
    refine XS.ifYes X_1.here hx rfl (pc0 := 5) (pc' := 27) rfl (hb hby d_jdk_42m149_5) rfl (by decide) (by decide) (by decide) ?_
    show oS pP eE below T_1 (mkF mM 27 (lc33 a s) []) _
    refine st_2 _ ?_
    show oS pP eE below T_2 (mkF mM 30 (lc33 a s) [(.int cs)]) _
    refine XS.ifNo X_2.here hx rfl (hb hby d_jdk_42m149_30) rfl (XT.i0_eq_f hcs) ?_
    refine XS.aloadN X_2.here hx rfl (hb hby d_jdk_42m149_33) rfl rfl ?_
    refine XS.iloadN X_2.here hx rfl (hb hby d_jdk_42m149_34) rfl ?_
    refine XS.iloadN X_2.here hx rfl (hb hby d_jdk_42m149_35) rfl ?_
    show oS pP eE below T_2 (mkF mM 36 (lc33 a s) [(.int (2 : Int32)), (.int (0 : Int32)), (.ref s)]) _
    refine st_3 _ ?_
    show oS pP eE below T_3 (mkF mM 39 (lc33 a s) [(.ref d__3)]) _
    refine XS.astore X_3.here hx rfl (hb hby d_jdk_42m149_39) rfl rfl (l' := (lc34 a s d__3)) rfl ?_
    refine XS.aloadN X_3.here hx rfl (hb hby d_jdk_42m149_41) rfl rfl ?_
    refine XS.aload X_3.here hx rfl (hb hby d_jdk_42m149_42) rfl rfl ?_
    refine XS.iloadN X_3.here hx rfl (hb hby d_jdk_42m149_44) rfl ?_
    show oS pP eE below T_3 (mkF mM 45 (lc34 a s d__3) [(.int (2 : Int32)), (.ref d__3), (.ref a)]) _
    refine st_4 _ ?_
    show oS pP eE below T_4 (mkF mM 48 (lc34 a s d__3) [(.int (0 : Int32)), (.ref a)]) _
    refine st_5 _ ?_
    show oS pP eE below T_5 (mkF mM 51 (lc34 a s d__3) []) _
    refine XS.aloadN X_5.here hx rfl (hb hby d_jdk_42m149_51) rfl rfl ?_
    refine XS.aload X_5.here hx rfl (hb hby d_jdk_42m149_52) rfl rfl ?_
    show oS pP eE below T_5 (mkF mM 54 (lc34 a s d__3) [(.ref d__3), (.ref a)]) _
    refine st_6 _ ?_
    show oS pP eE below T_6 (mkF mM 57 (lc34 a s d__3) []) _
    exact X_6.returnOut hx Bd.returns (hb hby d_jdk_42m149_57) hr
  · show Q_str5_2 Z a s ks cs c0 c1 h0 n0 _ T_6.heap _
    rw [e_6]
    exact ⟨d__3, kd__3, rfl, N_6, K_6, sz_d__3, (((E_a.keep Kc_3).wr W_5).wr W_6), Fw_6, (Fw_5.other W_6 (Or.inr (slot_ne (Or.inr (ow hw 27 rfl)) (Or.inr (ow hw 26 rfl)) (by decide) (t := .byte) (t' := (.array .byte)) (by decide) (by decide)))), ((pfV_d_3.other W_5 (Ne.symm (Nat.ne_of_lt (Nat.lt_of_lt_of_le E_a.lt pfsz_d_3)))).other W_6 (Ne.symm (Nat.ne_of_lt (Nat.lt_of_lt_of_le E_a.lt pfsz_d_3))))⟩
theorem ef_str_2 (mM : MethodId) (x0 : Addr) (x1 : Addr) : entryFrame mM #[(.ref x0), (.ref x1)] 2 = mkF mM 0 #[.val (.ref x0), .val (.ref x1)] [] := by first | (simp [entryFrame, mkF, argsToLocals, Value.category]; done) | rfl
def Q_str_2 (Z : State) (a : Addr) (s : Addr) (ks : ClassId) (cs : Int32) (c0 : Int32) (c1 : Int32) (h0 : Heap) (n0 : Nat) (v_ : Option Value) (h_ : Heap) (L_ : List Loc) : Prop := ∃ d : Addr, ∃ kd : ClassId, v_ = none ∧ Fr n0 L_ ∧ Keep h0 h_ [a] ∧ h0.size ≤ d ∧ Exa Z h_ a "java/lang/String" ∧ Fld Z h_ a "java/lang/String" "value" "[B" (.ref d) ∧ Fld Z h_ a "java/lang/String" "coder" "B" (.int (0 : Int32)) ∧ Arv Z h_ d kd .byte (2 : Int32) [(.int (nar .byte (c0.toInt8.toInt32))), (.int (nar .byte (c1.toInt8.toInt32)))] (.int (0 : Int32))
set_option maxRecDepth 65536 in
set_option maxHeartbeats 40000000 in
theorem rm_str_2 (l : Launch) (Z : State) (a0 : Array Value) (hw : ∀ d ∈ tables_1, d.before a0 Z = true) (ws : List Jvm.Cond) (a : Addr) (s : Addr) (ks : ClassId) (cs : Int32) (c0 : Int32) (c1 : Int32) (h0 : Heap) (n0 : Nat) (Z0 : n0 ≤ h0.size) (F_value_a : Fld Z h0 a "java/lang/String" "value" "[B" .null) (F_coder_a : Fld Z h0 a "java/lang/String" "coder" "B" (.int (0 : Int32))) (E_a : Exa Z h0 a "java/lang/String") (g_a : n0 ≤ a) (S_String_COMPACT_STRINGS : Sta Z h0 "java/lang/String" "COMPACT_STRINGS" "Z" (.int cs)) (hcs : ¬ cs = 0) (V_s : Arv Z h0 s ks .char (2 : Int32) [(.int c0), (.int c1)] (.int (0 : Int32))) (nas : a ≠ s) (hc0 : ¬ (255 : Int32) < c0) (hc1 : ¬ (255 : Int32) < c1) :
    MetFree l (⟨"java/lang/String", "<init>", "([C)V"⟩ : MethodName) (head1 (Jvm.Cond.code (⟨"java/lang/String", "<init>", "([C)V"⟩ : MethodName) jdk_42_method_3_code 2 none :: ws) oR10) (fun aa_ U_ => aa_ = #[(.ref a), (.ref s)] ∧ Z.Warmed39 U_.vm ∧ U_.heap = h0 ∧ CHv Z own_EL U_.vm h0) (fun _ _ _ _ _ => True) (fun _ U_ o_ U'_ => ∃ v_ L_, o_ = .returned v_ ∧ Q_str_2 Z a s ks cs c0 c1 h0 n0 v_ U'_.heap L_ ∧ CHr Z own_EL U_.vm U_.heap U'_.vm U'_.heap ∧ ReturnedEndW U_ o_ U'_ L_ oR10.cells oR10.slots) := by
  refine MetFree.of_bodySF (plainFor_of_name pn_0) hisR ?_
  intro pP eE sS mM argsA below meth cC s₁ Bd hml0 hP hK
  obtain ⟨rfl, hZ, hh, hCH⟩ := hP
  have hx := Bd.exec
  have hby := Bd.bytes
  have hml : cC.maxLocals = 2 := hml0
  have hown : sS.vm.findClass "java/lang/String" = some mM.cls := findClass_of_methodNamed Bd.named
  have hnm := (name_of_methodNamed Bd.named Bd.method).1
  have X0 : Stand pP l eE oR10 (sS.setVm sS.vm) mM #[(.ref a), (.ref s)] below meth cC s₁ [] 0 0 := Stand.of_body Bd
  have e0 : s₁.heap = h0 := by rw [← hh, Bd.state]; rfl
  have N0 := Fr.nil n0
  have pre0 : ∀ t_, Steps pP.tables eE below (s₁.setTop (mkF mM 0 #[.val (.ref a), .val (.ref s)] [])) t_ → Steps pP.tables eE below (s₁.setTop (entryFrame mM #[(.ref a), (.ref s)] 2)) t_ := fun t_ k_ => castTop (ef_str_2 mM a s) k_
  have hZ : Z.Warmed39 (sS.setVm sS.vm).vm := hZ
  have hown : (sS.setVm sS.vm).vm.findClass "java/lang/String" = some mM.cls := hown
  have hS0 : sS.Since sS.vm 0 := (State.WarmedH.refl sS).since 0
  have hk0 : 0 ≤ h0.size := Nat.zero_le _
  have CR0 := CHr.refl hCH
  obtain ⟨cl_1, Ar_1, -, Sa_1, Na_1, -, -⟩ := id V_s
  obtain ⟨_, _, ⟨T_2, L_2, k_2, n_2⟩, -, Xc_2, hSc_2, hgr_2, ⟨Lc_2, hQ_2, l_2, y_2, z_2, CHc_2⟩, st_2⟩ := X0.specialBackS hx (y := MN0) rfl hown (mvT hZ (ow hw 17 rfl)) (mvT hZ (ow hw 18 rfl)) (mvT hZ (ow hw 20 rfl)) (by decide) (backOfSH (W := 0) (rm_str5_2 l Z a0 hw [] a s ks cs c0 c1 h0 n0 Z0 F_value_a F_coder_a E_a g_a S_String_COMPACT_STRINGS hcs V_s nas hc0 hc1) hZ (ow hw 20 rfl) (ow hw 12 rfl) (by decide) (by decide) (own_EW hw) CR0.1) (g := (mkF mM 6 #[.val (.ref a), .val (.ref s)] [.null, (.int (2 : Int32)), (.int (0 : Int32)), (.ref s), (.ref a)])) rfl (by rw [hml]; rfl) (Steps.refl _) (a := a) (argsL := [(.ref s), (.int (0 : Int32)), (.int (2 : Int32)), .null]) (rest := []) (lenOf pd_0 rfl) rfl (by show 2 * 0 + _ ≤ _; exact Nat.le_of_eq rfl) (hb hby d_jdk_42m3_6) (fun _ _ => ⟨rfl, e0, (by decide : 0 + 1 ≤ _), (by decide : 0 + 2 ≤ _)⟩)
  dsimp only [Pt.U, Pt.locs, Pt.cells, Pt.slots] at Xc_2 hSc_2 hgr_2 l_2 y_2 z_2 st_2 hQ_2 CHc_2
  subst l_2 y_2 z_2
  obtain ⟨X_2, hS_2, hZ_2, hown_2⟩ := rebS hS0 (show _ ≤ s₁.heap.size by rw [e0]; exact hk0) Xc_2 hSc_2 hgr_2 hZ hown
  obtain ⟨d__2, ⟨kd__2, ⟨rfl, N_2q, Kc_2, pfsz_d_2, pfE_a_2, pfF_value_a_2, pfF_coder_a_2, pfV_d_2⟩⟩⟩ := hQ_2
  have Z_2 : n0 ≤ T_2.heap.size := (Nat.le_trans Z0 Kc_2.1)
  have K_2 : Keep h0 T_2.heap [a] := (Keep.refl h0 [a]).trans Kc_2 (allS (Or.inl (List.mem_of_getElem? (i := 0) rfl)) all0)
  have Ca_2 := CHc_2
  have CR_2 := CR0.trans Ca_2
  have hk_2 : _ ≤ T_2.heap.size := Nat.le_refl _
  have sz_d__2 : h0.size ≤ d__2 := Nat.le_trans (Keep.refl h0 [a]).1 pfsz_d_2
  have g_d__2 : n0 ≤ d__2 := Nat.le_trans Z0 pfsz_d_2
  have N_2 := Fr.app N0 N_2q
  have hCF : CHr Z own_EL sS.vm sS.heap T_2.vm T_2.heap := by rw [hh]; exact CR_2.trans (CHv.at X_2 hZ_2 (own_EW hw) CR_2.1)
  obtain ⟨fs, hr, hrun, hended, hRE⟩ := X_2.leaveW hS_2 hk_2 (v := none) (fun _ => rfl)
  refine ⟨_, _, pre0 _ ?_, hrun, hended, _, _, rfl, ?_, hCF, ⟨_, rfl⟩, hRE.2.1, hRE.2.2.1, hRE.2.2.2.mono (by decide) (by decide)⟩
  · show oS pP eE below s₁ (mkF mM 0 #[.val (.ref a), .val (.ref s)] []) _
    refine XS.aloadN X0.here hx rfl (hb hby d_jdk_42m3_0) rfl rfl ?_
    refine XS.aloadN X0.here hx rfl (hb hby d_jdk_42m3_1) rfl rfl ?_
    refine XS.iconst X0.here hx rfl (hb hby d_jdk_42m3_2) ?_
    refine XS.aloadN X0.here hx rfl (hb hby d_jdk_42m3_3) rfl rfl ?_
    show oS pP eE below s₁ (mkF mM 4 #[.val (.ref a), .val (.ref s)] [(.ref s), (.int (0 : Int32)), (.ref s), (.ref a)]) _
    refine X0.arraylength hx (by rw [e0]; exact Ar_1.1) (State.isArrayOf_alike hZ.alike Ar_1.2.1) (g := (mkF mM 4 #[.val (.ref a), .val (.ref s)] [(.ref s), (.int (0 : Int32)), (.ref s), (.ref a)])) rfl rfl (hb hby d_jdk_42m3_4) _ ?_
    rw [len_of Sa_1 Na_1]
    refine XS.aconstNull X0.here hx rfl (hb hby d_jdk_42m3_5) ?_
    show oS pP eE below s₁ (mkF mM 6 #[.val (.ref a), .val (.ref s)] [.null, (.int (2 : Int32)), (.int (0 : Int32)), (.ref s), (.ref a)]) _
    refine st_2.trans ?_
    show oS pP eE below T_2 (mkF mM 9 #[.val (.ref a), .val (.ref s)] []) _
    exact X_2.returnOut hx Bd.returns (hb hby d_jdk_42m3_9) hr
  · show Q_str_2 Z a s ks cs c0 c1 h0 n0 _ T_2.heap _
    exact ⟨d__2, kd__2, rfl, N_2, K_2, sz_d__2, pfE_a_2, pfF_value_a_2, pfF_coder_a_2, pfV_d_2⟩
theorem d_method_2_35 : decode method_2_code 35 = .ok (.new 7, 3) := by decide +kernel
theorem d_method_2_38 : decode method_2_code 38 = .ok (.dup, 1) := by decide +kernel
theorem d_method_2_39 : decode method_2_code 39 = .ok (.iconst 2, 1) := by decide +kernel
theorem d_method_2_40 : decode method_2_code 40 = .ok (.newarray .char, 2) := by decide +kernel
theorem d_method_2_42 : decode method_2_code 42 = .ok (.dup, 1) := by decide +kernel
theorem d_method_2_43 : decode method_2_code 43 = .ok (.iconst 0, 1) := by decide +kernel
theorem d_method_2_44 : decode method_2_code 44 = .ok (.iload_n 1, 1) := by decide +kernel
theorem d_method_2_45 : decode method_2_code 45 = .ok (.castore, 1) := by decide +kernel
theorem d_method_2_46 : decode method_2_code 46 = .ok (.dup, 1) := by decide +kernel
theorem d_method_2_47 : decode method_2_code 47 = .ok (.iconst 1, 1) := by decide +kernel
theorem d_method_2_48 : decode method_2_code 48 = .ok (.iload_n 2, 1) := by decide +kernel
theorem d_method_2_49 : decode method_2_code 49 = .ok (.castore, 1) := by decide +kernel
theorem d_method_2_50 : decode method_2_code 50 = .ok (.invokespecial 9, 3) := by decide +kernel
theorem d_method_2_53 : decode method_2_code 53 = .ok (.areturn, 1) := by decide +kernel
theorem ef_mk2 (mM : MethodId) (x0 : Int32) (x1 : Int32) (x2 : Int32) : entryFrame mM #[(.int x0), (.int x1), (.int x2)] 3 = mkF mM 0 #[.val (.int x0), .val (.int x1), .val (.int x2)] [] := by first | (simp [entryFrame, mkF, argsToLocals, Value.category]; done) | rfl
def Q_mk2 (Z : State) (cs : Int32) (j0 : Int32) (j1 : Int32) (h0 : Heap) (n0 : Nat) (v_ : Option Value) (h_ : Heap) (L_ : List Loc) : Prop := ∃ g : Addr, ∃ d : Addr, ∃ kd : ClassId, v_ = some (.ref g) ∧ Fr n0 L_ ∧ Keep h0 h_ [] ∧ h0.size ≤ g ∧ h0.size ≤ d ∧ Exa Z h_ g "java/lang/String" ∧ Fld Z h_ g "java/lang/String" "value" "[B" (.ref d) ∧ Fld Z h_ g "java/lang/String" "coder" "B" (.int (0 : Int32)) ∧ Arv Z h_ d kd .byte (2 : Int32) [(.int (nar .byte ((nar .char j0).toInt8.toInt32))), (.int (nar .byte ((nar .char j1).toInt8.toInt32)))] (.int (0 : Int32))
set_option maxRecDepth 65536 in
set_option maxHeartbeats 40000000 in
theorem rm_mk2 (l : Launch) (Z : State) (a0 : Array Value) (hw : ∀ d ∈ tables_1, d.before a0 Z = true) (ws : List Jvm.Cond) (cs : Int32) (j0 : Int32) (j1 : Int32) (h0 : Heap) (n0 : Nat) (Z0 : n0 ≤ h0.size) (S_String_COMPACT_STRINGS : Sta Z h0 "java/lang/String" "COMPACT_STRINGS" "Z" (.int cs)) (hcs : ¬ cs = 0) (hj0 : own_ch j0) (hj1 : own_ch j1) :
    MetFree l (⟨"com/example/rolling_rung/rollingrung/schema/FieldSameDefinitionPinLaw", "str", "(ICC)Ljava/lang/String;"⟩ : MethodName) (head1 (Jvm.Cond.code (⟨"com/example/rolling_rung/rollingrung/schema/FieldSameDefinitionPinLaw", "str", "(ICC)Ljava/lang/String;"⟩ : MethodName) method_2_code 3 (some (.object "java/lang/String")) :: ws) oR11) (fun aa_ U_ => aa_ = #[(.int (2 : Int32)), (.int j0), (.int j1)] ∧ Z.Warmed39 U_.vm ∧ U_.heap = h0 ∧ CHv Z own_EL U_.vm h0) (fun _ _ _ _ _ => True) (fun _ U_ o_ U'_ => ∃ v_ L_, o_ = .returned v_ ∧ Q_mk2 Z cs j0 j1 h0 n0 v_ U'_.heap L_ ∧ CHr Z own_EL U_.vm U_.heap U'_.vm U'_.heap ∧ ReturnedEndW U_ o_ U'_ L_ oR11.cells oR11.slots) := by
  refine MetFree.of_bodySF (plainFor_of_name pn_1) hisR ?_
  intro pP eE sS mM argsA below meth cC s₁ Bd hml0 hP hK
  obtain ⟨rfl, hZ, hh, hCH⟩ := hP
  have hx := Bd.exec
  have hby := Bd.bytes
  have hml : cC.maxLocals = 3 := hml0
  have hown : sS.vm.findClass "com/example/rolling_rung/rollingrung/schema/FieldSameDefinitionPinLaw" = some mM.cls := findClass_of_methodNamed Bd.named
  have hnm := (name_of_methodNamed Bd.named Bd.method).1
  have X0 : Stand pP l eE oR11 (sS.setVm sS.vm) mM #[(.int (2 : Int32)), (.int j0), (.int j1)] below meth cC s₁ [] 0 0 := Stand.of_body Bd
  have e0 : s₁.heap = h0 := by rw [← hh, Bd.state]; rfl
  have N0 := Fr.nil n0
  have pre0 : ∀ t_, Steps pP.tables eE below (s₁.setTop (mkF mM 0 #[.val (.int (2 : Int32)), .val (.int j0), .val (.int j1)] [])) t_ → Steps pP.tables eE below (s₁.setTop (entryFrame mM #[(.int (2 : Int32)), (.int j0), (.int j1)] 3)) t_ := fun t_ k_ => castTop (ef_mk2 mM (2 : Int32) j0 j1) k_
  have hZ : Z.Warmed39 (sS.setVm sS.vm).vm := hZ
  have hown : (sS.setVm sS.vm).vm.findClass "com/example/rolling_rung/rollingrung/schema/FieldSameDefinitionPinLaw" = some mM.cls := hown
  have hS0 : sS.Since sS.vm 0 := (State.WarmedH.refl sS).since 0
  have hk0 : 0 ≤ h0.size := Nat.zero_le _
  have CR0 := CHr.refl hCH
  obtain ⟨T_1, h_1, X_1, e_1, E_1, A_1, D_1, -, st_1⟩ := newO X0 hx hZ hown (ow hw 10 rfl) (ow hw 11 rfl) (ow hw 12 rfl) e0 (g := (mkF mM 35 #[.val (.int (2 : Int32)), .val (.int j0), .val (.int j1)] [])) rfl (hb hby d_method_2_35) (by decide) (by decide)
  obtain ⟨b_1, g_1⟩ : ∃ z, z = h0.size := ⟨_, rfl⟩
  rw [← g_1] at A_1 D_1 st_1
  have g_b_1 : n0 ≤ b_1 := Nat.le_trans Z0 (Nat.le_of_eq g_1.symm)
  have sz_b_1 : h0.size ≤ b_1 := Nat.le_trans (Keep.refl h0 []).1 (Nat.le_of_eq g_1.symm)
  have Z_1 : n0 ≤ h_1.size := (Nat.le_trans Z0 E_1.1)
  have K_1 : Keep h0 h_1 [] := (Keep.refl h0 []).ext E_1
  have hk_1 : _ ≤ h_1.size := Nat.le_trans hk0 E_1.1
  have Ca_1 := CHr.ext E_1 CR0.1
  have CR_1 := CR0.trans Ca_1
  have F_value_b_1__1 : Fld Z h_1 b_1 "java/lang/String" "value" "[B" .null := D_1 (Or.inr (ow hw 26 rfl)) (ty := (.array .byte)) (by decide)
  have F_coder_b_1__1 : Fld Z h_1 b_1 "java/lang/String" "coder" "B" (.int (0 : Int32)) := D_1 (Or.inr (ow hw 27 rfl)) (ty := .byte) (by decide)
  obtain ⟨T_2, h_2, k_2, X_2, e_2, E_2, A_2, st_2⟩ := newP X_1 hx hZ (ow hw 13 rfl) e_1 (g := (mkF mM 40 #[.val (.int (2 : Int32)), .val (.int j0), .val (.int j1)] [(.int (2 : Int32)), (.ref b_1), (.ref b_1)])) rfl (hb hby d_method_2_40) rfl (by decide) (cap := 2) (by decide) (by decide) (by decide) (by decide)
  obtain ⟨b_2, g_2⟩ : ∃ z, z = h_1.size := ⟨_, rfl⟩
  rw [← g_2] at A_2 st_2
  have g_b_2 : n0 ≤ b_2 := Nat.le_trans Z_1 (Nat.le_of_eq g_2.symm)
  have sz_b_2 : h0.size ≤ b_2 := Nat.le_trans K_1.1 (Nat.le_of_eq g_2.symm)
  have Z_2 : n0 ≤ h_2.size := (Nat.le_trans Z_1 E_2.1)
  have K_2 : Keep h0 h_2 [] := K_1.ext E_2
  have hk_2 : _ ≤ h_2.size := Nat.le_trans hk_1 E_2.1
  have Ca_2 := CHr.ext E_2 CR_1.1
  have CR_2 := CR_1.trans Ca_2
  have V_b_2 : Arv Z h_2 b_2 k_2 .char (2 : Int32) [(.int (0 : Int32)), (.int (0 : Int32))] (.int (0 : Int32)) := (Arv.new A_2 (by decide)).pad (pad_rep [] (.int (0 : Int32)) 2)
  obtain ⟨cl_3, Ar_3, qa_3, Sa_3, Na_3, Ha_3, Ga_3⟩ := id V_b_2
  have hin_3 : ¬ ((0 : Int32) < 0 ∨ cl_3.slots.size ≤ ((0 : Int32)).toNatClampNeg) := inb_of Sa_3 ⟨by decide, by decide⟩
  obtain ⟨T_3, h_3, X_3, e_3, W_3, st_3⟩ := stC X_2 hx hZ e_2 Ar_3 (j := (0 : Int32)) hin_3 (g := (mkF mM 45 #[.val (.int (2 : Int32)), .val (.int j0), .val (.int j1)] [(.int j0), (.int (0 : Int32)), (.ref b_2), (.ref b_2), (.ref b_1), (.ref b_1)])) rfl rfl (hb hby d_method_2_45)
  have V_3 : Arv Z h_3 b_2 k_2 .char (2 : Int32) [(.int (nar .char j0)), (.int (0 : Int32))] (.int (0 : Int32)) := Arv.set Ar_3 qa_3 Sa_3 Na_3 Ha_3 Ga_3 (fits_nar_char _) W_3 0 rfl (Nat.le_of_ble_eq_true rfl)
  have Z_3 : n0 ≤ h_3.size := (Nat.le_trans Z_2 (Keep.of_wr W_3).1)
  have K_3 : Keep h0 h_3 [] := K_2.wr W_3 (Or.inr sz_b_2)
  have hk_3 : _ ≤ h_3.size := Nat.le_trans hk_2 (Keep.of_wr W_3).1
  have Ca_3 := CHr.wr W_3 (Safe.arr hZ.alike Ar_3 (by decide)) CR_2.1
  have CR_3 := CR_2.trans Ca_3
  have N_3 := Fr.snoc X_3 N0 g_b_2
  obtain ⟨cl_4, Ar_4, qa_4, Sa_4, Na_4, Ha_4, Ga_4⟩ := id V_3
  have hin_4 : ¬ ((1 : Int32) < 0 ∨ cl_4.slots.size ≤ ((1 : Int32)).toNatClampNeg) := inb_of Sa_4 ⟨by decide, by decide⟩
  obtain ⟨T_4, h_4, X_4, e_4, W_4, st_4⟩ := stC X_3 hx hZ e_3 Ar_4 (j := (1 : Int32)) hin_4 (g := (mkF mM 49 #[.val (.int (2 : Int32)), .val (.int j0), .val (.int j1)] [(.int j1), (.int (1 : Int32)), (.ref b_2), (.ref b_2), (.ref b_1), (.ref b_1)])) rfl rfl (hb hby d_method_2_49)
  have V_4 : Arv Z h_4 b_2 k_2 .char (2 : Int32) [(.int (nar .char j0)), (.int (nar .char j1))] (.int (0 : Int32)) := Arv.set Ar_4 qa_4 Sa_4 Na_4 Ha_4 Ga_4 (fits_nar_char _) W_4 1 rfl (Nat.le_of_ble_eq_true rfl)
  have Z_4 : n0 ≤ h_4.size := (Nat.le_trans Z_3 (Keep.of_wr W_4).1)
  have K_4 : Keep h0 h_4 [] := K_3.wr W_4 (Or.inr sz_b_2)
  have hk_4 : _ ≤ h_4.size := Nat.le_trans hk_3 (Keep.of_wr W_4).1
  have Ca_4 := CHr.wr W_4 (Safe.arr hZ.alike Ar_4 (by decide)) CR_3.1
  have CR_4 := CR_3.trans Ca_4
  have N_4 := Fr.snoc X_4 N_3 g_b_2
  have St_4_0 := ((((S_String_COMPACT_STRINGS.ext E_1).ext E_2).wr W_3).wr W_4)
  obtain ⟨_, _, ⟨T_5, L_5, k_5, n_5⟩, -, Xc_5, hSc_5, hgr_5, ⟨Lc_5, hQ_5, l_5, y_5, z_5, CHc_5⟩, st_5⟩ := X_4.specialBackS hx (y := MN1) rfl hown (mvT hZ (ow hw 14 rfl)) (mvT hZ (ow hw 15 rfl)) (mvT hZ (ow hw 16 rfl)) (by decide) (backOfSH (W := 1) (rm_str_2 l Z a0 hw [] b_1 b_2 k_2 cs (nar .char j0) (nar .char j1) h_4 n0 Z_4 (((F_value_b_1__1.ext E_2).other W_3 (Or.inl (Nat.ne_of_lt (Nat.lt_of_lt_of_le A_1.lt (Nat.le_of_eq g_2.symm))))).other W_4 (Or.inl (Nat.ne_of_lt (Nat.lt_of_lt_of_le A_1.lt (Nat.le_of_eq g_2.symm))))) (((F_coder_b_1__1.ext E_2).other W_3 (Or.inl (Nat.ne_of_lt (Nat.lt_of_lt_of_le A_1.lt (Nat.le_of_eq g_2.symm))))).other W_4 (Or.inl (Nat.ne_of_lt (Nat.lt_of_lt_of_le A_1.lt (Nat.le_of_eq g_2.symm))))) (((A_1.ext E_2).wr W_3).wr W_4) g_b_1 St_4_0 hcs V_4 (Nat.ne_of_lt (Nat.lt_of_lt_of_le A_1.lt (Nat.le_of_eq g_2.symm))) (own_ch255 hj0) (own_ch255 hj1)) hZ (ow hw 16 rfl) (ow hw 12 rfl) (by decide) (by decide) (own_EW hw) CR_4.1) (g := (mkF mM 50 #[.val (.int (2 : Int32)), .val (.int j0), .val (.int j1)] [(.ref b_2), (.ref b_1), (.ref b_1)])) rfl (by rw [hml]; rfl) (Steps.refl _) (a := b_1) (argsL := [(.ref b_2)]) (rest := [(.ref b_1)]) (lenOf pd_1 rfl) rfl (by show 2 * 0 + _ ≤ _; exact Nat.le_of_eq rfl) (hb hby d_method_2_50) (fun _ _ => ⟨rfl, e_4, (by decide : 2 + 1 ≤ _), (by decide : 6 + 2 ≤ _)⟩)
  dsimp only [Pt.U, Pt.locs, Pt.cells, Pt.slots] at Xc_5 hSc_5 hgr_5 l_5 y_5 z_5 st_5 hQ_5 CHc_5
  subst l_5 y_5 z_5
  obtain ⟨X_5, hS_5, hZ_5, hown_5⟩ := rebS hS0 (show _ ≤ T_4.heap.size by rw [e_4]; exact hk_4) Xc_5 hSc_5 hgr_5 hZ hown
  obtain ⟨d__5, ⟨kd__5, ⟨rfl, N_5q, Kc_5, pfsz_d_5, pfE_a_5, pfF_value_a_5, pfF_coder_a_5, pfV_d_5⟩⟩⟩ := hQ_5
  have Z_5 : n0 ≤ T_5.heap.size := (Nat.le_trans Z_4 Kc_5.1)
  have K_5 : Keep h0 T_5.heap [] := K_4.trans Kc_5 (allS (Or.inr sz_b_1) all0)
  have Ca_5 := CHc_5
  have CR_5 := CR_4.trans Ca_5
  have hk_5 : _ ≤ T_5.heap.size := Nat.le_refl _
  have sz_d__5 : h0.size ≤ d__5 := Nat.le_trans K_4.1 pfsz_d_5
  have g_d__5 : n0 ≤ d__5 := Nat.le_trans Z_4 pfsz_d_5
  have N_5 := Fr.app N_4 N_5q
  have hCF : CHr Z own_EL sS.vm sS.heap T_5.vm T_5.heap := by rw [hh]; exact CR_5.trans (CHv.at X_5 hZ_5 (own_EW hw) CR_5.1)
  obtain ⟨fs, hr, hrun, hended, hRE⟩ := X_5.leaveW hS_5 hk_5 (v := some (.ref b_1)) (fun h => by rw [Bd.returns] at h; cases h)
  refine ⟨_, _, pre0 _ ?_, hrun, hended, _, _, rfl, ?_, hCF, ⟨_, rfl⟩, hRE.2.1, hRE.2.2.1, hRE.2.2.2.mono (by decide) (by decide)⟩
  · show oS pP eE below s₁ (mkF mM 0 #[.val (.int (2 : Int32)), .val (.int j0), .val (.int j1)] []) _
    refine XS.iloadN X0.here hx rfl (hb hby d_method_2_0) rfl ?_
    refine XS.ifYes X0.here hx rfl (pc0 := 1) (pc' := 15) rfl (hb hby d_method_2_1) rfl (by decide) (by decide) (by decide) ?_
    refine XS.iloadN X0.here hx rfl (hb hby d_method_2_15) rfl ?_
    refine XS.iconst X0.here hx rfl (hb hby d_method_2_16) ?_
    refine XS.icmpYes X0.here hx rfl (pc0 := 17) (pc' := 35) rfl (hb hby d_method_2_17) rfl (by decide) (by decide) (by decide) ?_
    show oS pP eE below s₁ (mkF mM 35 #[.val (.int (2 : Int32)), .val (.int j0), .val (.int j1)] []) _
    refine st_1 _ ?_
    show oS pP eE below T_1 (mkF mM 38 #[.val (.int (2 : Int32)), .val (.int j0), .val (.int j1)] [(.ref b_1)]) _
    refine XS.dup X_1.here hx rfl (hb hby d_method_2_38) rfl rfl ?_
    refine XS.iconst X_1.here hx rfl (hb hby d_method_2_39) ?_
    show oS pP eE below T_1 (mkF mM 40 #[.val (.int (2 : Int32)), .val (.int j0), .val (.int j1)] [(.int (2 : Int32)), (.ref b_1), (.ref b_1)]) _
    refine st_2 _ ?_
    show oS pP eE below T_2 (mkF mM 42 #[.val (.int (2 : Int32)), .val (.int j0), .val (.int j1)] [(.ref b_2), (.ref b_1), (.ref b_1)]) _
    refine XS.dup X_2.here hx rfl (hb hby d_method_2_42) rfl rfl ?_
    refine XS.iconst X_2.here hx rfl (hb hby d_method_2_43) ?_
    refine XS.iloadN X_2.here hx rfl (hb hby d_method_2_44) rfl ?_
    show oS pP eE below T_2 (mkF mM 45 #[.val (.int (2 : Int32)), .val (.int j0), .val (.int j1)] [(.int j0), (.int (0 : Int32)), (.ref b_2), (.ref b_2), (.ref b_1), (.ref b_1)]) _
    refine st_3 _ ?_
    show oS pP eE below T_3 (mkF mM 46 #[.val (.int (2 : Int32)), .val (.int j0), .val (.int j1)] [(.ref b_2), (.ref b_1), (.ref b_1)]) _
    refine XS.dup X_3.here hx rfl (hb hby d_method_2_46) rfl rfl ?_
    refine XS.iconst X_3.here hx rfl (hb hby d_method_2_47) ?_
    refine XS.iloadN X_3.here hx rfl (hb hby d_method_2_48) rfl ?_
    show oS pP eE below T_3 (mkF mM 49 #[.val (.int (2 : Int32)), .val (.int j0), .val (.int j1)] [(.int j1), (.int (1 : Int32)), (.ref b_2), (.ref b_2), (.ref b_1), (.ref b_1)]) _
    refine st_4 _ ?_
    show oS pP eE below T_4 (mkF mM 50 #[.val (.int (2 : Int32)), .val (.int j0), .val (.int j1)] [(.ref b_2), (.ref b_1), (.ref b_1)]) _
    refine st_5.trans ?_
    show oS pP eE below T_5 (mkF mM 53 #[.val (.int (2 : Int32)), .val (.int j0), .val (.int j1)] [(.ref b_1)]) _
    exact retOut X_5 hx Bd.returns rfl (Or.inr (Or.inr (Or.inr (Or.inr ⟨rfl, rfl, rfl⟩)))) (hb hby d_method_2_53) hr
  · show Q_mk2 Z cs j0 j1 h0 n0 _ T_5.heap _
    exact ⟨b_1, d__5, kd__5, rfl, N_5, K_5, sz_b_1, sz_d__5, pfE_a_5, pfF_value_a_5, pfF_coder_a_5, pfV_d_5⟩
def Q_typ (Z : State) (p : Int32) (r0 : Addr) (r1 : Addr) (r2 : Addr) (r3 : Addr) (r4 : Addr) (r5 : Addr) (r6 : Addr) (r7 : Addr) (r8 : Addr) (h0 : Heap) (n0 : Nat) (v_ : Option Value) (h_ : Heap) (L_ : List Loc) : Prop := v_ = some (.ref (own_ty p r0 r1 r2 r3 r4 r5 r6 r7 r8)) ∧ Fr n0 L_ ∧ h_ = h0
theorem d_method_3_0 : decode method_3_code 0 = .ok (.iload_n 0, 1) := by decide +kernel
theorem d_method_3_1 : decode method_3_code 1 = .ok (.ifCond .ne 7, 3) := by decide +kernel
theorem d_method_3_4 : decode method_3_code 4 = .ok (.getstatic 12, 3) := by decide +kernel
theorem d_method_3_7 : decode method_3_code 7 = .ok (.areturn, 1) := by decide +kernel
theorem ef_typ_0 (mM : MethodId) (x0 : Int32) : entryFrame mM #[(.int x0)] 1 = mkF mM 0 #[.val (.int x0)] [] := by first | (simp [entryFrame, mkF, argsToLocals, Value.category]; done) | rfl
set_option maxRecDepth 65536 in
set_option maxHeartbeats 40000000 in
theorem rm_typ_0 (l : Launch) (Z : State) (a0 : Array Value) (hw : ∀ d ∈ tables_1, d.before a0 Z = true) (ws : List Jvm.Cond) (p : Int32) (r0 : Addr) (r1 : Addr) (r2 : Addr) (r3 : Addr) (r4 : Addr) (r5 : Addr) (r6 : Addr) (r7 : Addr) (r8 : Addr) (h0 : Heap) (n0 : Nat) (Z0 : n0 ≤ h0.size) (S_FieldType_STRING : Sta Z h0 "com/example/rolling_rung/rollingrung/schema/FieldType" "STRING" "Lcom/example/rolling_rung/rollingrung/schema/FieldType;" (.ref r0)) (S_FieldType_BYTES : Sta Z h0 "com/example/rolling_rung/rollingrung/schema/FieldType" "BYTES" "Lcom/example/rolling_rung/rollingrung/schema/FieldType;" (.ref r1)) (S_FieldType_BOOL : Sta Z h0 "com/example/rolling_rung/rollingrung/schema/FieldType" "BOOL" "Lcom/example/rolling_rung/rollingrung/schema/FieldType;" (.ref r2)) (S_FieldType_INT32 : Sta Z h0 "com/example/rolling_rung/rollingrung/schema/FieldType" "INT32" "Lcom/example/rolling_rung/rollingrung/schema/FieldType;" (.ref r3)) (S_FieldType_INT64 : Sta Z h0 "com/example/rolling_rung/rollingrung/schema/FieldType" "INT64" "Lcom/example/rolling_rung/rollingrung/schema/FieldType;" (.ref r4)) (S_FieldType_SINT32 : Sta Z h0 "com/example/rolling_rung/rollingrung/schema/FieldType" "SINT32" "Lcom/example/rolling_rung/rollingrung/schema/FieldType;" (.ref r5)) (S_FieldType_SINT64 : Sta Z h0 "com/example/rolling_rung/rollingrung/schema/FieldType" "SINT64" "Lcom/example/rolling_rung/rollingrung/schema/FieldType;" (.ref r6)) (S_FieldType_DOUBLE : Sta Z h0 "com/example/rolling_rung/rollingrung/schema/FieldType" "DOUBLE" "Lcom/example/rolling_rung/rollingrung/schema/FieldType;" (.ref r7)) (S_FieldType_FLOAT : Sta Z h0 "com/example/rolling_rung/rollingrung/schema/FieldType" "FLOAT" "Lcom/example/rolling_rung/rollingrung/schema/FieldType;" (.ref r8)) (he : p = 0) :
    MetFree l (⟨"com/example/rolling_rung/rollingrung/schema/FieldSameDefinitionPinLaw", "type", "(I)Lcom/example/rolling_rung/rollingrung/schema/FieldType;"⟩ : MethodName) (head1 (Jvm.Cond.code (⟨"com/example/rolling_rung/rollingrung/schema/FieldSameDefinitionPinLaw", "type", "(I)Lcom/example/rolling_rung/rollingrung/schema/FieldType;"⟩ : MethodName) method_3_code 1 (some (.object "com/example/rolling_rung/rollingrung/schema/FieldType")) :: ws) oR3) (fun aa_ U_ => aa_ = #[(.int p)] ∧ Z.Warmed39 U_.vm ∧ U_.heap = h0) (fun _ _ _ _ _ => True) (fun _ U_ o_ U'_ => ∃ v_ L_, o_ = .returned v_ ∧ Q_typ Z p r0 r1 r2 r3 r4 r5 r6 r7 r8 h0 n0 v_ U'_.heap L_ ∧ FrameEnd U_ o_ U'_ L_ oR3.cells oR3.slots) := by
  refine MetFree.of_bodySF (plainFor_of_name pn_1) hisR ?_
  intro pP eE sS mM argsA below meth cC s₁ Bd hml0 hP hK
  obtain ⟨rfl, hZ, hh⟩ := hP
  have hx := Bd.exec
  have hby := Bd.bytes
  have hml : cC.maxLocals = 1 := hml0
  have hown : sS.vm.findClass "com/example/rolling_rung/rollingrung/schema/FieldSameDefinitionPinLaw" = some mM.cls := findClass_of_methodNamed Bd.named
  have hnm := (name_of_methodNamed Bd.named Bd.method).1
  have X0 : Stand pP l eE oR3 sS mM #[(.int p)] below meth cC s₁ [] 0 0 := Stand.of_body Bd
  have e0 : s₁.heap = h0 := by rw [← hh, Bd.state]; rfl
  have N0 := Fr.nil n0
  have pre0 : ∀ t_, Steps pP.tables eE below (s₁.setTop (mkF mM 0 #[.val (.int p)] [])) t_ → Steps pP.tables eE below (s₁.setTop (entryFrame mM #[(.int p)] 1)) t_ := fun t_ k_ => castTop (ef_typ_0 mM p) k_
  obtain ⟨T_1, X_1, e_1, st_1⟩ := getS2 X0 hx hZ hown (host := "") (Or.inl (ow hw 96 rfl)) Via.refl e0 S_FieldType_STRING (g := (mkF mM 4 #[.val (.int p)] [])) rfl (hb hby d_method_3_4)
  obtain ⟨fs, hr, hrun, hended, hW, hsame⟩ := X_1.leave (v := some (.ref r0)) (fun h => by rw [Bd.returns] at h; cases h)
  refine ⟨_, _, pre0 _ ?_, hrun, hended, _, _, rfl, ?_, ⟨_, rfl⟩, hW, hsame.mono (by decide) (by decide)⟩
  · show oS pP eE below s₁ (mkF mM 0 #[.val (.int p)] []) _
    refine XS.iloadN X0.here hx rfl (hb hby d_method_3_0) rfl ?_
    refine XS.ifNo X0.here hx rfl (hb hby d_method_3_1) rfl (XT.i0_ne_f he) ?_
    show oS pP eE below s₁ (mkF mM 4 #[.val (.int p)] []) _
    refine st_1 _ ?_
    show oS pP eE below T_1 (mkF mM 7 #[.val (.int p)] [(.ref r0)]) _
    exact retOut X_1 hx Bd.returns rfl (Or.inr (Or.inr (Or.inr (Or.inr ⟨rfl, rfl, rfl⟩)))) (hb hby d_method_3_7) hr
  · show Q_typ Z p r0 r1 r2 r3 r4 r5 r6 r7 r8 h0 n0 _ T_1.heap _
    rw [e_1]
    exact ⟨(congrArg (fun z => some (Value.ref z)) (by simp [own_ty, he] : r0 = (own_ty p r0 r1 r2 r3 r4 r5 r6 r7 r8))), N0, rfl⟩
theorem d_method_3_8 : decode method_3_code 8 = .ok (.iload_n 0, 1) := by decide +kernel
theorem d_method_3_9 : decode method_3_code 9 = .ok (.iconst 1, 1) := by decide +kernel
theorem d_method_3_10 : decode method_3_code 10 = .ok (.if_icmp .ne 7, 3) := by decide +kernel
theorem d_method_3_13 : decode method_3_code 13 = .ok (.getstatic 18, 3) := by decide +kernel
theorem d_method_3_16 : decode method_3_code 16 = .ok (.areturn, 1) := by decide +kernel
theorem ef_typ_1 (mM : MethodId) (x0 : Int32) : entryFrame mM #[(.int x0)] 1 = mkF mM 0 #[.val (.int x0)] [] := by first | (simp [entryFrame, mkF, argsToLocals, Value.category]; done) | rfl
set_option maxRecDepth 65536 in
set_option maxHeartbeats 40000000 in
theorem rm_typ_1 (l : Launch) (Z : State) (a0 : Array Value) (hw : ∀ d ∈ tables_1, d.before a0 Z = true) (ws : List Jvm.Cond) (p : Int32) (r0 : Addr) (r1 : Addr) (r2 : Addr) (r3 : Addr) (r4 : Addr) (r5 : Addr) (r6 : Addr) (r7 : Addr) (r8 : Addr) (h0 : Heap) (n0 : Nat) (Z0 : n0 ≤ h0.size) (S_FieldType_STRING : Sta Z h0 "com/example/rolling_rung/rollingrung/schema/FieldType" "STRING" "Lcom/example/rolling_rung/rollingrung/schema/FieldType;" (.ref r0)) (S_FieldType_BYTES : Sta Z h0 "com/example/rolling_rung/rollingrung/schema/FieldType" "BYTES" "Lcom/example/rolling_rung/rollingrung/schema/FieldType;" (.ref r1)) (S_FieldType_BOOL : Sta Z h0 "com/example/rolling_rung/rollingrung/schema/FieldType" "BOOL" "Lcom/example/rolling_rung/rollingrung/schema/FieldType;" (.ref r2)) (S_FieldType_INT32 : Sta Z h0 "com/example/rolling_rung/rollingrung/schema/FieldType" "INT32" "Lcom/example/rolling_rung/rollingrung/schema/FieldType;" (.ref r3)) (S_FieldType_INT64 : Sta Z h0 "com/example/rolling_rung/rollingrung/schema/FieldType" "INT64" "Lcom/example/rolling_rung/rollingrung/schema/FieldType;" (.ref r4)) (S_FieldType_SINT32 : Sta Z h0 "com/example/rolling_rung/rollingrung/schema/FieldType" "SINT32" "Lcom/example/rolling_rung/rollingrung/schema/FieldType;" (.ref r5)) (S_FieldType_SINT64 : Sta Z h0 "com/example/rolling_rung/rollingrung/schema/FieldType" "SINT64" "Lcom/example/rolling_rung/rollingrung/schema/FieldType;" (.ref r6)) (S_FieldType_DOUBLE : Sta Z h0 "com/example/rolling_rung/rollingrung/schema/FieldType" "DOUBLE" "Lcom/example/rolling_rung/rollingrung/schema/FieldType;" (.ref r7)) (S_FieldType_FLOAT : Sta Z h0 "com/example/rolling_rung/rollingrung/schema/FieldType" "FLOAT" "Lcom/example/rolling_rung/rollingrung/schema/FieldType;" (.ref r8)) (hn0 : ¬ p = 0) (he : p = 1) :
    MetFree l (⟨"com/example/rolling_rung/rollingrung/schema/FieldSameDefinitionPinLaw", "type", "(I)Lcom/example/rolling_rung/rollingrung/schema/FieldType;"⟩ : MethodName) (head1 (Jvm.Cond.code (⟨"com/example/rolling_rung/rollingrung/schema/FieldSameDefinitionPinLaw", "type", "(I)Lcom/example/rolling_rung/rollingrung/schema/FieldType;"⟩ : MethodName) method_3_code 1 (some (.object "com/example/rolling_rung/rollingrung/schema/FieldType")) :: ws) oR3) (fun aa_ U_ => aa_ = #[(.int p)] ∧ Z.Warmed39 U_.vm ∧ U_.heap = h0) (fun _ _ _ _ _ => True) (fun _ U_ o_ U'_ => ∃ v_ L_, o_ = .returned v_ ∧ Q_typ Z p r0 r1 r2 r3 r4 r5 r6 r7 r8 h0 n0 v_ U'_.heap L_ ∧ FrameEnd U_ o_ U'_ L_ oR3.cells oR3.slots) := by
  refine MetFree.of_bodySF (plainFor_of_name pn_1) hisR ?_
  intro pP eE sS mM argsA below meth cC s₁ Bd hml0 hP hK
  obtain ⟨rfl, hZ, hh⟩ := hP
  have hx := Bd.exec
  have hby := Bd.bytes
  have hml : cC.maxLocals = 1 := hml0
  have hown : sS.vm.findClass "com/example/rolling_rung/rollingrung/schema/FieldSameDefinitionPinLaw" = some mM.cls := findClass_of_methodNamed Bd.named
  have hnm := (name_of_methodNamed Bd.named Bd.method).1
  have X0 : Stand pP l eE oR3 sS mM #[(.int p)] below meth cC s₁ [] 0 0 := Stand.of_body Bd
  have e0 : s₁.heap = h0 := by rw [← hh, Bd.state]; rfl
  have N0 := Fr.nil n0
  have pre0 : ∀ t_, Steps pP.tables eE below (s₁.setTop (mkF mM 0 #[.val (.int p)] [])) t_ → Steps pP.tables eE below (s₁.setTop (entryFrame mM #[(.int p)] 1)) t_ := fun t_ k_ => castTop (ef_typ_1 mM p) k_
  obtain ⟨T_1, X_1, e_1, st_1⟩ := getS2 X0 hx hZ hown (host := "") (Or.inl (ow hw 112 rfl)) Via.refl e0 S_FieldType_BYTES (g := (mkF mM 13 #[.val (.int p)] [])) rfl (hb hby d_method_3_13)
  obtain ⟨fs, hr, hrun, hended, hW, hsame⟩ := X_1.leave (v := some (.ref r1)) (fun h => by rw [Bd.returns] at h; cases h)
  refine ⟨_, _, pre0 _ ?_, hrun, hended, _, _, rfl, ?_, ⟨_, rfl⟩, hW, hsame.mono (by decide) (by decide)⟩
  · show oS pP eE below s₁ (mkF mM 0 #[.val (.int p)] []) _
    refine XS.iloadN X0.here hx rfl (hb hby d_method_3_0) rfl ?_
    refine XS.ifYes X0.here hx rfl (pc0 := 1) (pc' := 8) rfl (hb hby d_method_3_1) rfl (XT.i0_ne_t hn0) (by decide) (by decide) ?_
    refine XS.iloadN X0.here hx rfl (hb hby d_method_3_8) rfl ?_
    refine XS.iconst X0.here hx rfl (hb hby d_method_3_9) ?_
    refine XS.icmpNo X0.here hx rfl (hb hby d_method_3_10) rfl (XT.ii_ne_f he) ?_
    show oS pP eE below s₁ (mkF mM 13 #[.val (.int p)] []) _
    refine st_1 _ ?_
    show oS pP eE below T_1 (mkF mM 16 #[.val (.int p)] [(.ref r1)]) _
    exact retOut X_1 hx Bd.returns rfl (Or.inr (Or.inr (Or.inr (Or.inr ⟨rfl, rfl, rfl⟩)))) (hb hby d_method_3_16) hr
  · show Q_typ Z p r0 r1 r2 r3 r4 r5 r6 r7 r8 h0 n0 _ T_1.heap _
    rw [e_1]
    exact ⟨(congrArg (fun z => some (Value.ref z)) (by simp [own_ty, hn0, he] : r1 = (own_ty p r0 r1 r2 r3 r4 r5 r6 r7 r8))), N0, rfl⟩
theorem d_method_3_17 : decode method_3_code 17 = .ok (.iload_n 0, 1) := by decide +kernel
theorem d_method_3_18 : decode method_3_code 18 = .ok (.iconst 2, 1) := by decide +kernel
theorem d_method_3_19 : decode method_3_code 19 = .ok (.if_icmp .ne 7, 3) := by decide +kernel
theorem d_method_3_22 : decode method_3_code 22 = .ok (.getstatic 21, 3) := by decide +kernel
theorem d_method_3_25 : decode method_3_code 25 = .ok (.areturn, 1) := by decide +kernel
theorem ef_typ_2 (mM : MethodId) (x0 : Int32) : entryFrame mM #[(.int x0)] 1 = mkF mM 0 #[.val (.int x0)] [] := by first | (simp [entryFrame, mkF, argsToLocals, Value.category]; done) | rfl
set_option maxRecDepth 65536 in
set_option maxHeartbeats 40000000 in
theorem rm_typ_2 (l : Launch) (Z : State) (a0 : Array Value) (hw : ∀ d ∈ tables_1, d.before a0 Z = true) (ws : List Jvm.Cond) (p : Int32) (r0 : Addr) (r1 : Addr) (r2 : Addr) (r3 : Addr) (r4 : Addr) (r5 : Addr) (r6 : Addr) (r7 : Addr) (r8 : Addr) (h0 : Heap) (n0 : Nat) (Z0 : n0 ≤ h0.size) (S_FieldType_STRING : Sta Z h0 "com/example/rolling_rung/rollingrung/schema/FieldType" "STRING" "Lcom/example/rolling_rung/rollingrung/schema/FieldType;" (.ref r0)) (S_FieldType_BYTES : Sta Z h0 "com/example/rolling_rung/rollingrung/schema/FieldType" "BYTES" "Lcom/example/rolling_rung/rollingrung/schema/FieldType;" (.ref r1)) (S_FieldType_BOOL : Sta Z h0 "com/example/rolling_rung/rollingrung/schema/FieldType" "BOOL" "Lcom/example/rolling_rung/rollingrung/schema/FieldType;" (.ref r2)) (S_FieldType_INT32 : Sta Z h0 "com/example/rolling_rung/rollingrung/schema/FieldType" "INT32" "Lcom/example/rolling_rung/rollingrung/schema/FieldType;" (.ref r3)) (S_FieldType_INT64 : Sta Z h0 "com/example/rolling_rung/rollingrung/schema/FieldType" "INT64" "Lcom/example/rolling_rung/rollingrung/schema/FieldType;" (.ref r4)) (S_FieldType_SINT32 : Sta Z h0 "com/example/rolling_rung/rollingrung/schema/FieldType" "SINT32" "Lcom/example/rolling_rung/rollingrung/schema/FieldType;" (.ref r5)) (S_FieldType_SINT64 : Sta Z h0 "com/example/rolling_rung/rollingrung/schema/FieldType" "SINT64" "Lcom/example/rolling_rung/rollingrung/schema/FieldType;" (.ref r6)) (S_FieldType_DOUBLE : Sta Z h0 "com/example/rolling_rung/rollingrung/schema/FieldType" "DOUBLE" "Lcom/example/rolling_rung/rollingrung/schema/FieldType;" (.ref r7)) (S_FieldType_FLOAT : Sta Z h0 "com/example/rolling_rung/rollingrung/schema/FieldType" "FLOAT" "Lcom/example/rolling_rung/rollingrung/schema/FieldType;" (.ref r8)) (hn0 : ¬ p = 0) (hn1 : ¬ p = 1) (he : p = 2) :
    MetFree l (⟨"com/example/rolling_rung/rollingrung/schema/FieldSameDefinitionPinLaw", "type", "(I)Lcom/example/rolling_rung/rollingrung/schema/FieldType;"⟩ : MethodName) (head1 (Jvm.Cond.code (⟨"com/example/rolling_rung/rollingrung/schema/FieldSameDefinitionPinLaw", "type", "(I)Lcom/example/rolling_rung/rollingrung/schema/FieldType;"⟩ : MethodName) method_3_code 1 (some (.object "com/example/rolling_rung/rollingrung/schema/FieldType")) :: ws) oR3) (fun aa_ U_ => aa_ = #[(.int p)] ∧ Z.Warmed39 U_.vm ∧ U_.heap = h0) (fun _ _ _ _ _ => True) (fun _ U_ o_ U'_ => ∃ v_ L_, o_ = .returned v_ ∧ Q_typ Z p r0 r1 r2 r3 r4 r5 r6 r7 r8 h0 n0 v_ U'_.heap L_ ∧ FrameEnd U_ o_ U'_ L_ oR3.cells oR3.slots) := by
  refine MetFree.of_bodySF (plainFor_of_name pn_1) hisR ?_
  intro pP eE sS mM argsA below meth cC s₁ Bd hml0 hP hK
  obtain ⟨rfl, hZ, hh⟩ := hP
  have hx := Bd.exec
  have hby := Bd.bytes
  have hml : cC.maxLocals = 1 := hml0
  have hown : sS.vm.findClass "com/example/rolling_rung/rollingrung/schema/FieldSameDefinitionPinLaw" = some mM.cls := findClass_of_methodNamed Bd.named
  have hnm := (name_of_methodNamed Bd.named Bd.method).1
  have X0 : Stand pP l eE oR3 sS mM #[(.int p)] below meth cC s₁ [] 0 0 := Stand.of_body Bd
  have e0 : s₁.heap = h0 := by rw [← hh, Bd.state]; rfl
  have N0 := Fr.nil n0
  have pre0 : ∀ t_, Steps pP.tables eE below (s₁.setTop (mkF mM 0 #[.val (.int p)] [])) t_ → Steps pP.tables eE below (s₁.setTop (entryFrame mM #[(.int p)] 1)) t_ := fun t_ k_ => castTop (ef_typ_2 mM p) k_
  obtain ⟨T_1, X_1, e_1, st_1⟩ := getS2 X0 hx hZ hown (host := "") (Or.inl (ow hw 35 rfl)) Via.refl e0 S_FieldType_BOOL (g := (mkF mM 22 #[.val (.int p)] [])) rfl (hb hby d_method_3_22)
  obtain ⟨fs, hr, hrun, hended, hW, hsame⟩ := X_1.leave (v := some (.ref r2)) (fun h => by rw [Bd.returns] at h; cases h)
  refine ⟨_, _, pre0 _ ?_, hrun, hended, _, _, rfl, ?_, ⟨_, rfl⟩, hW, hsame.mono (by decide) (by decide)⟩
  · show oS pP eE below s₁ (mkF mM 0 #[.val (.int p)] []) _
    refine XS.iloadN X0.here hx rfl (hb hby d_method_3_0) rfl ?_
    refine XS.ifYes X0.here hx rfl (pc0 := 1) (pc' := 8) rfl (hb hby d_method_3_1) rfl (XT.i0_ne_t hn0) (by decide) (by decide) ?_
    refine XS.iloadN X0.here hx rfl (hb hby d_method_3_8) rfl ?_
    refine XS.iconst X0.here hx rfl (hb hby d_method_3_9) ?_
    refine XS.icmpYes X0.here hx rfl (pc0 := 10) (pc' := 17) rfl (hb hby d_method_3_10) rfl (XT.ii_ne_t hn1) (by decide) (by decide) ?_
    refine XS.iloadN X0.here hx rfl (hb hby d_method_3_17) rfl ?_
    refine XS.iconst X0.here hx rfl (hb hby d_method_3_18) ?_
    refine XS.icmpNo X0.here hx rfl (hb hby d_method_3_19) rfl (XT.ii_ne_f he) ?_
    show oS pP eE below s₁ (mkF mM 22 #[.val (.int p)] []) _
    refine st_1 _ ?_
    show oS pP eE below T_1 (mkF mM 25 #[.val (.int p)] [(.ref r2)]) _
    exact retOut X_1 hx Bd.returns rfl (Or.inr (Or.inr (Or.inr (Or.inr ⟨rfl, rfl, rfl⟩)))) (hb hby d_method_3_25) hr
  · show Q_typ Z p r0 r1 r2 r3 r4 r5 r6 r7 r8 h0 n0 _ T_1.heap _
    rw [e_1]
    exact ⟨(congrArg (fun z => some (Value.ref z)) (by simp [own_ty, hn0, hn1, he] : r2 = (own_ty p r0 r1 r2 r3 r4 r5 r6 r7 r8))), N0, rfl⟩
theorem d_method_3_26 : decode method_3_code 26 = .ok (.iload_n 0, 1) := by decide +kernel
theorem d_method_3_27 : decode method_3_code 27 = .ok (.iconst 3, 1) := by decide +kernel
theorem d_method_3_28 : decode method_3_code 28 = .ok (.if_icmp .ne 7, 3) := by decide +kernel
theorem d_method_3_31 : decode method_3_code 31 = .ok (.getstatic 24, 3) := by decide +kernel
theorem d_method_3_34 : decode method_3_code 34 = .ok (.areturn, 1) := by decide +kernel
theorem ef_typ_3 (mM : MethodId) (x0 : Int32) : entryFrame mM #[(.int x0)] 1 = mkF mM 0 #[.val (.int x0)] [] := by first | (simp [entryFrame, mkF, argsToLocals, Value.category]; done) | rfl
set_option maxRecDepth 65536 in
set_option maxHeartbeats 40000000 in
theorem rm_typ_3 (l : Launch) (Z : State) (a0 : Array Value) (hw : ∀ d ∈ tables_1, d.before a0 Z = true) (ws : List Jvm.Cond) (p : Int32) (r0 : Addr) (r1 : Addr) (r2 : Addr) (r3 : Addr) (r4 : Addr) (r5 : Addr) (r6 : Addr) (r7 : Addr) (r8 : Addr) (h0 : Heap) (n0 : Nat) (Z0 : n0 ≤ h0.size) (S_FieldType_STRING : Sta Z h0 "com/example/rolling_rung/rollingrung/schema/FieldType" "STRING" "Lcom/example/rolling_rung/rollingrung/schema/FieldType;" (.ref r0)) (S_FieldType_BYTES : Sta Z h0 "com/example/rolling_rung/rollingrung/schema/FieldType" "BYTES" "Lcom/example/rolling_rung/rollingrung/schema/FieldType;" (.ref r1)) (S_FieldType_BOOL : Sta Z h0 "com/example/rolling_rung/rollingrung/schema/FieldType" "BOOL" "Lcom/example/rolling_rung/rollingrung/schema/FieldType;" (.ref r2)) (S_FieldType_INT32 : Sta Z h0 "com/example/rolling_rung/rollingrung/schema/FieldType" "INT32" "Lcom/example/rolling_rung/rollingrung/schema/FieldType;" (.ref r3)) (S_FieldType_INT64 : Sta Z h0 "com/example/rolling_rung/rollingrung/schema/FieldType" "INT64" "Lcom/example/rolling_rung/rollingrung/schema/FieldType;" (.ref r4)) (S_FieldType_SINT32 : Sta Z h0 "com/example/rolling_rung/rollingrung/schema/FieldType" "SINT32" "Lcom/example/rolling_rung/rollingrung/schema/FieldType;" (.ref r5)) (S_FieldType_SINT64 : Sta Z h0 "com/example/rolling_rung/rollingrung/schema/FieldType" "SINT64" "Lcom/example/rolling_rung/rollingrung/schema/FieldType;" (.ref r6)) (S_FieldType_DOUBLE : Sta Z h0 "com/example/rolling_rung/rollingrung/schema/FieldType" "DOUBLE" "Lcom/example/rolling_rung/rollingrung/schema/FieldType;" (.ref r7)) (S_FieldType_FLOAT : Sta Z h0 "com/example/rolling_rung/rollingrung/schema/FieldType" "FLOAT" "Lcom/example/rolling_rung/rollingrung/schema/FieldType;" (.ref r8)) (hn0 : ¬ p = 0) (hn1 : ¬ p = 1) (hn2 : ¬ p = 2) (he : p = 3) :
    MetFree l (⟨"com/example/rolling_rung/rollingrung/schema/FieldSameDefinitionPinLaw", "type", "(I)Lcom/example/rolling_rung/rollingrung/schema/FieldType;"⟩ : MethodName) (head1 (Jvm.Cond.code (⟨"com/example/rolling_rung/rollingrung/schema/FieldSameDefinitionPinLaw", "type", "(I)Lcom/example/rolling_rung/rollingrung/schema/FieldType;"⟩ : MethodName) method_3_code 1 (some (.object "com/example/rolling_rung/rollingrung/schema/FieldType")) :: ws) oR3) (fun aa_ U_ => aa_ = #[(.int p)] ∧ Z.Warmed39 U_.vm ∧ U_.heap = h0) (fun _ _ _ _ _ => True) (fun _ U_ o_ U'_ => ∃ v_ L_, o_ = .returned v_ ∧ Q_typ Z p r0 r1 r2 r3 r4 r5 r6 r7 r8 h0 n0 v_ U'_.heap L_ ∧ FrameEnd U_ o_ U'_ L_ oR3.cells oR3.slots) := by
  refine MetFree.of_bodySF (plainFor_of_name pn_1) hisR ?_
  intro pP eE sS mM argsA below meth cC s₁ Bd hml0 hP hK
  obtain ⟨rfl, hZ, hh⟩ := hP
  have hx := Bd.exec
  have hby := Bd.bytes
  have hml : cC.maxLocals = 1 := hml0
  have hown : sS.vm.findClass "com/example/rolling_rung/rollingrung/schema/FieldSameDefinitionPinLaw" = some mM.cls := findClass_of_methodNamed Bd.named
  have hnm := (name_of_methodNamed Bd.named Bd.method).1
  have X0 : Stand pP l eE oR3 sS mM #[(.int p)] below meth cC s₁ [] 0 0 := Stand.of_body Bd
  have e0 : s₁.heap = h0 := by rw [← hh, Bd.state]; rfl
  have N0 := Fr.nil n0
  have pre0 : ∀ t_, Steps pP.tables eE below (s₁.setTop (mkF mM 0 #[.val (.int p)] [])) t_ → Steps pP.tables eE below (s₁.setTop (entryFrame mM #[(.int p)] 1)) t_ := fun t_ k_ => castTop (ef_typ_3 mM p) k_
  obtain ⟨T_1, X_1, e_1, st_1⟩ := getS2 X0 hx hZ hown (host := "") (Or.inl (ow hw 114 rfl)) Via.refl e0 S_FieldType_INT32 (g := (mkF mM 31 #[.val (.int p)] [])) rfl (hb hby d_method_3_31)
  obtain ⟨fs, hr, hrun, hended, hW, hsame⟩ := X_1.leave (v := some (.ref r3)) (fun h => by rw [Bd.returns] at h; cases h)
  refine ⟨_, _, pre0 _ ?_, hrun, hended, _, _, rfl, ?_, ⟨_, rfl⟩, hW, hsame.mono (by decide) (by decide)⟩
  · show oS pP eE below s₁ (mkF mM 0 #[.val (.int p)] []) _
    refine XS.iloadN X0.here hx rfl (hb hby d_method_3_0) rfl ?_
    refine XS.ifYes X0.here hx rfl (pc0 := 1) (pc' := 8) rfl (hb hby d_method_3_1) rfl (XT.i0_ne_t hn0) (by decide) (by decide) ?_
    refine XS.iloadN X0.here hx rfl (hb hby d_method_3_8) rfl ?_
    refine XS.iconst X0.here hx rfl (hb hby d_method_3_9) ?_
    refine XS.icmpYes X0.here hx rfl (pc0 := 10) (pc' := 17) rfl (hb hby d_method_3_10) rfl (XT.ii_ne_t hn1) (by decide) (by decide) ?_
    refine XS.iloadN X0.here hx rfl (hb hby d_method_3_17) rfl ?_
    refine XS.iconst X0.here hx rfl (hb hby d_method_3_18) ?_
    refine XS.icmpYes X0.here hx rfl (pc0 := 19) (pc' := 26) rfl (hb hby d_method_3_19) rfl (XT.ii_ne_t hn2) (by decide) (by decide) ?_
    refine XS.iloadN X0.here hx rfl (hb hby d_method_3_26) rfl ?_
    refine XS.iconst X0.here hx rfl (hb hby d_method_3_27) ?_
    refine XS.icmpNo X0.here hx rfl (hb hby d_method_3_28) rfl (XT.ii_ne_f he) ?_
    show oS pP eE below s₁ (mkF mM 31 #[.val (.int p)] []) _
    refine st_1 _ ?_
    show oS pP eE below T_1 (mkF mM 34 #[.val (.int p)] [(.ref r3)]) _
    exact retOut X_1 hx Bd.returns rfl (Or.inr (Or.inr (Or.inr (Or.inr ⟨rfl, rfl, rfl⟩)))) (hb hby d_method_3_34) hr
  · show Q_typ Z p r0 r1 r2 r3 r4 r5 r6 r7 r8 h0 n0 _ T_1.heap _
    rw [e_1]
    exact ⟨(congrArg (fun z => some (Value.ref z)) (by simp [own_ty, hn0, hn1, hn2, he] : r3 = (own_ty p r0 r1 r2 r3 r4 r5 r6 r7 r8))), N0, rfl⟩
theorem d_method_3_35 : decode method_3_code 35 = .ok (.iload_n 0, 1) := by decide +kernel
theorem d_method_3_36 : decode method_3_code 36 = .ok (.iconst 4, 1) := by decide +kernel
theorem d_method_3_37 : decode method_3_code 37 = .ok (.if_icmp .ne 7, 3) := by decide +kernel
theorem d_method_3_40 : decode method_3_code 40 = .ok (.getstatic 27, 3) := by decide +kernel
theorem d_method_3_43 : decode method_3_code 43 = .ok (.areturn, 1) := by decide +kernel
theorem ef_typ_4 (mM : MethodId) (x0 : Int32) : entryFrame mM #[(.int x0)] 1 = mkF mM 0 #[.val (.int x0)] [] := by first | (simp [entryFrame, mkF, argsToLocals, Value.category]; done) | rfl
set_option maxRecDepth 65536 in
set_option maxHeartbeats 40000000 in
theorem rm_typ_4 (l : Launch) (Z : State) (a0 : Array Value) (hw : ∀ d ∈ tables_1, d.before a0 Z = true) (ws : List Jvm.Cond) (p : Int32) (r0 : Addr) (r1 : Addr) (r2 : Addr) (r3 : Addr) (r4 : Addr) (r5 : Addr) (r6 : Addr) (r7 : Addr) (r8 : Addr) (h0 : Heap) (n0 : Nat) (Z0 : n0 ≤ h0.size) (S_FieldType_STRING : Sta Z h0 "com/example/rolling_rung/rollingrung/schema/FieldType" "STRING" "Lcom/example/rolling_rung/rollingrung/schema/FieldType;" (.ref r0)) (S_FieldType_BYTES : Sta Z h0 "com/example/rolling_rung/rollingrung/schema/FieldType" "BYTES" "Lcom/example/rolling_rung/rollingrung/schema/FieldType;" (.ref r1)) (S_FieldType_BOOL : Sta Z h0 "com/example/rolling_rung/rollingrung/schema/FieldType" "BOOL" "Lcom/example/rolling_rung/rollingrung/schema/FieldType;" (.ref r2)) (S_FieldType_INT32 : Sta Z h0 "com/example/rolling_rung/rollingrung/schema/FieldType" "INT32" "Lcom/example/rolling_rung/rollingrung/schema/FieldType;" (.ref r3)) (S_FieldType_INT64 : Sta Z h0 "com/example/rolling_rung/rollingrung/schema/FieldType" "INT64" "Lcom/example/rolling_rung/rollingrung/schema/FieldType;" (.ref r4)) (S_FieldType_SINT32 : Sta Z h0 "com/example/rolling_rung/rollingrung/schema/FieldType" "SINT32" "Lcom/example/rolling_rung/rollingrung/schema/FieldType;" (.ref r5)) (S_FieldType_SINT64 : Sta Z h0 "com/example/rolling_rung/rollingrung/schema/FieldType" "SINT64" "Lcom/example/rolling_rung/rollingrung/schema/FieldType;" (.ref r6)) (S_FieldType_DOUBLE : Sta Z h0 "com/example/rolling_rung/rollingrung/schema/FieldType" "DOUBLE" "Lcom/example/rolling_rung/rollingrung/schema/FieldType;" (.ref r7)) (S_FieldType_FLOAT : Sta Z h0 "com/example/rolling_rung/rollingrung/schema/FieldType" "FLOAT" "Lcom/example/rolling_rung/rollingrung/schema/FieldType;" (.ref r8)) (hn0 : ¬ p = 0) (hn1 : ¬ p = 1) (hn2 : ¬ p = 2) (hn3 : ¬ p = 3) (he : p = 4) :
    MetFree l (⟨"com/example/rolling_rung/rollingrung/schema/FieldSameDefinitionPinLaw", "type", "(I)Lcom/example/rolling_rung/rollingrung/schema/FieldType;"⟩ : MethodName) (head1 (Jvm.Cond.code (⟨"com/example/rolling_rung/rollingrung/schema/FieldSameDefinitionPinLaw", "type", "(I)Lcom/example/rolling_rung/rollingrung/schema/FieldType;"⟩ : MethodName) method_3_code 1 (some (.object "com/example/rolling_rung/rollingrung/schema/FieldType")) :: ws) oR3) (fun aa_ U_ => aa_ = #[(.int p)] ∧ Z.Warmed39 U_.vm ∧ U_.heap = h0) (fun _ _ _ _ _ => True) (fun _ U_ o_ U'_ => ∃ v_ L_, o_ = .returned v_ ∧ Q_typ Z p r0 r1 r2 r3 r4 r5 r6 r7 r8 h0 n0 v_ U'_.heap L_ ∧ FrameEnd U_ o_ U'_ L_ oR3.cells oR3.slots) := by
  refine MetFree.of_bodySF (plainFor_of_name pn_1) hisR ?_
  intro pP eE sS mM argsA below meth cC s₁ Bd hml0 hP hK
  obtain ⟨rfl, hZ, hh⟩ := hP
  have hx := Bd.exec
  have hby := Bd.bytes
  have hml : cC.maxLocals = 1 := hml0
  have hown : sS.vm.findClass "com/example/rolling_rung/rollingrung/schema/FieldSameDefinitionPinLaw" = some mM.cls := findClass_of_methodNamed Bd.named
  have hnm := (name_of_methodNamed Bd.named Bd.method).1
  have X0 : Stand pP l eE oR3 sS mM #[(.int p)] below meth cC s₁ [] 0 0 := Stand.of_body Bd
  have e0 : s₁.heap = h0 := by rw [← hh, Bd.state]; rfl
  have N0 := Fr.nil n0
  have pre0 : ∀ t_, Steps pP.tables eE below (s₁.setTop (mkF mM 0 #[.val (.int p)] [])) t_ → Steps pP.tables eE below (s₁.setTop (entryFrame mM #[(.int p)] 1)) t_ := fun t_ k_ => castTop (ef_typ_4 mM p) k_
  obtain ⟨T_1, X_1, e_1, st_1⟩ := getS2 X0 hx hZ hown (host := "") (Or.inl (ow hw 72 rfl)) Via.refl e0 S_FieldType_INT64 (g := (mkF mM 40 #[.val (.int p)] [])) rfl (hb hby d_method_3_40)
  obtain ⟨fs, hr, hrun, hended, hW, hsame⟩ := X_1.leave (v := some (.ref r4)) (fun h => by rw [Bd.returns] at h; cases h)
  refine ⟨_, _, pre0 _ ?_, hrun, hended, _, _, rfl, ?_, ⟨_, rfl⟩, hW, hsame.mono (by decide) (by decide)⟩
  · show oS pP eE below s₁ (mkF mM 0 #[.val (.int p)] []) _
    refine XS.iloadN X0.here hx rfl (hb hby d_method_3_0) rfl ?_
    refine XS.ifYes X0.here hx rfl (pc0 := 1) (pc' := 8) rfl (hb hby d_method_3_1) rfl (XT.i0_ne_t hn0) (by decide) (by decide) ?_
    refine XS.iloadN X0.here hx rfl (hb hby d_method_3_8) rfl ?_
    refine XS.iconst X0.here hx rfl (hb hby d_method_3_9) ?_
    refine XS.icmpYes X0.here hx rfl (pc0 := 10) (pc' := 17) rfl (hb hby d_method_3_10) rfl (XT.ii_ne_t hn1) (by decide) (by decide) ?_
    refine XS.iloadN X0.here hx rfl (hb hby d_method_3_17) rfl ?_
    refine XS.iconst X0.here hx rfl (hb hby d_method_3_18) ?_
    refine XS.icmpYes X0.here hx rfl (pc0 := 19) (pc' := 26) rfl (hb hby d_method_3_19) rfl (XT.ii_ne_t hn2) (by decide) (by decide) ?_
    refine XS.iloadN X0.here hx rfl (hb hby d_method_3_26) rfl ?_
    refine XS.iconst X0.here hx rfl (hb hby d_method_3_27) ?_
    refine XS.icmpYes X0.here hx rfl (pc0 := 28) (pc' := 35) rfl (hb hby d_method_3_28) rfl (XT.ii_ne_t hn3) (by decide) (by decide) ?_
    refine XS.iloadN X0.here hx rfl (hb hby d_method_3_35) rfl ?_
    refine XS.iconst X0.here hx rfl (hb hby d_method_3_36) ?_
    refine XS.icmpNo X0.here hx rfl (hb hby d_method_3_37) rfl (XT.ii_ne_f he) ?_
    show oS pP eE below s₁ (mkF mM 40 #[.val (.int p)] []) _
    refine st_1 _ ?_
    show oS pP eE below T_1 (mkF mM 43 #[.val (.int p)] [(.ref r4)]) _
    exact retOut X_1 hx Bd.returns rfl (Or.inr (Or.inr (Or.inr (Or.inr ⟨rfl, rfl, rfl⟩)))) (hb hby d_method_3_43) hr
  · show Q_typ Z p r0 r1 r2 r3 r4 r5 r6 r7 r8 h0 n0 _ T_1.heap _
    rw [e_1]
    exact ⟨(congrArg (fun z => some (Value.ref z)) (by simp [own_ty, hn0, hn1, hn2, hn3, he] : r4 = (own_ty p r0 r1 r2 r3 r4 r5 r6 r7 r8))), N0, rfl⟩
theorem d_method_3_44 : decode method_3_code 44 = .ok (.iload_n 0, 1) := by decide +kernel
theorem d_method_3_45 : decode method_3_code 45 = .ok (.iconst 5, 1) := by decide +kernel
theorem d_method_3_46 : decode method_3_code 46 = .ok (.if_icmp .ne 7, 3) := by decide +kernel
theorem d_method_3_49 : decode method_3_code 49 = .ok (.getstatic 30, 3) := by decide +kernel
theorem d_method_3_52 : decode method_3_code 52 = .ok (.areturn, 1) := by decide +kernel
theorem ef_typ_5 (mM : MethodId) (x0 : Int32) : entryFrame mM #[(.int x0)] 1 = mkF mM 0 #[.val (.int x0)] [] := by first | (simp [entryFrame, mkF, argsToLocals, Value.category]; done) | rfl
set_option maxRecDepth 65536 in
set_option maxHeartbeats 40000000 in
theorem rm_typ_5 (l : Launch) (Z : State) (a0 : Array Value) (hw : ∀ d ∈ tables_1, d.before a0 Z = true) (ws : List Jvm.Cond) (p : Int32) (r0 : Addr) (r1 : Addr) (r2 : Addr) (r3 : Addr) (r4 : Addr) (r5 : Addr) (r6 : Addr) (r7 : Addr) (r8 : Addr) (h0 : Heap) (n0 : Nat) (Z0 : n0 ≤ h0.size) (S_FieldType_STRING : Sta Z h0 "com/example/rolling_rung/rollingrung/schema/FieldType" "STRING" "Lcom/example/rolling_rung/rollingrung/schema/FieldType;" (.ref r0)) (S_FieldType_BYTES : Sta Z h0 "com/example/rolling_rung/rollingrung/schema/FieldType" "BYTES" "Lcom/example/rolling_rung/rollingrung/schema/FieldType;" (.ref r1)) (S_FieldType_BOOL : Sta Z h0 "com/example/rolling_rung/rollingrung/schema/FieldType" "BOOL" "Lcom/example/rolling_rung/rollingrung/schema/FieldType;" (.ref r2)) (S_FieldType_INT32 : Sta Z h0 "com/example/rolling_rung/rollingrung/schema/FieldType" "INT32" "Lcom/example/rolling_rung/rollingrung/schema/FieldType;" (.ref r3)) (S_FieldType_INT64 : Sta Z h0 "com/example/rolling_rung/rollingrung/schema/FieldType" "INT64" "Lcom/example/rolling_rung/rollingrung/schema/FieldType;" (.ref r4)) (S_FieldType_SINT32 : Sta Z h0 "com/example/rolling_rung/rollingrung/schema/FieldType" "SINT32" "Lcom/example/rolling_rung/rollingrung/schema/FieldType;" (.ref r5)) (S_FieldType_SINT64 : Sta Z h0 "com/example/rolling_rung/rollingrung/schema/FieldType" "SINT64" "Lcom/example/rolling_rung/rollingrung/schema/FieldType;" (.ref r6)) (S_FieldType_DOUBLE : Sta Z h0 "com/example/rolling_rung/rollingrung/schema/FieldType" "DOUBLE" "Lcom/example/rolling_rung/rollingrung/schema/FieldType;" (.ref r7)) (S_FieldType_FLOAT : Sta Z h0 "com/example/rolling_rung/rollingrung/schema/FieldType" "FLOAT" "Lcom/example/rolling_rung/rollingrung/schema/FieldType;" (.ref r8)) (hn0 : ¬ p = 0) (hn1 : ¬ p = 1) (hn2 : ¬ p = 2) (hn3 : ¬ p = 3) (hn4 : ¬ p = 4) (he : p = 5) :
    MetFree l (⟨"com/example/rolling_rung/rollingrung/schema/FieldSameDefinitionPinLaw", "type", "(I)Lcom/example/rolling_rung/rollingrung/schema/FieldType;"⟩ : MethodName) (head1 (Jvm.Cond.code (⟨"com/example/rolling_rung/rollingrung/schema/FieldSameDefinitionPinLaw", "type", "(I)Lcom/example/rolling_rung/rollingrung/schema/FieldType;"⟩ : MethodName) method_3_code 1 (some (.object "com/example/rolling_rung/rollingrung/schema/FieldType")) :: ws) oR3) (fun aa_ U_ => aa_ = #[(.int p)] ∧ Z.Warmed39 U_.vm ∧ U_.heap = h0) (fun _ _ _ _ _ => True) (fun _ U_ o_ U'_ => ∃ v_ L_, o_ = .returned v_ ∧ Q_typ Z p r0 r1 r2 r3 r4 r5 r6 r7 r8 h0 n0 v_ U'_.heap L_ ∧ FrameEnd U_ o_ U'_ L_ oR3.cells oR3.slots) := by
  refine MetFree.of_bodySF (plainFor_of_name pn_1) hisR ?_
  intro pP eE sS mM argsA below meth cC s₁ Bd hml0 hP hK
  obtain ⟨rfl, hZ, hh⟩ := hP
  have hx := Bd.exec
  have hby := Bd.bytes
  have hml : cC.maxLocals = 1 := hml0
  have hown : sS.vm.findClass "com/example/rolling_rung/rollingrung/schema/FieldSameDefinitionPinLaw" = some mM.cls := findClass_of_methodNamed Bd.named
  have hnm := (name_of_methodNamed Bd.named Bd.method).1
  have X0 : Stand pP l eE oR3 sS mM #[(.int p)] below meth cC s₁ [] 0 0 := Stand.of_body Bd
  have e0 : s₁.heap = h0 := by rw [← hh, Bd.state]; rfl
  have N0 := Fr.nil n0
  have pre0 : ∀ t_, Steps pP.tables eE below (s₁.setTop (mkF mM 0 #[.val (.int p)] [])) t_ → Steps pP.tables eE below (s₁.setTop (entryFrame mM #[(.int p)] 1)) t_ := fun t_ k_ => castTop (ef_typ_5 mM p) k_
  obtain ⟨T_1, X_1, e_1, st_1⟩ := getS2 X0 hx hZ hown (host := "") (Or.inl (ow hw 116 rfl)) Via.refl e0 S_FieldType_SINT32 (g := (mkF mM 49 #[.val (.int p)] [])) rfl (hb hby d_method_3_49)
  obtain ⟨fs, hr, hrun, hended, hW, hsame⟩ := X_1.leave (v := some (.ref r5)) (fun h => by rw [Bd.returns] at h; cases h)
  refine ⟨_, _, pre0 _ ?_, hrun, hended, _, _, rfl, ?_, ⟨_, rfl⟩, hW, hsame.mono (by decide) (by decide)⟩
  · show oS pP eE below s₁ (mkF mM 0 #[.val (.int p)] []) _
    refine XS.iloadN X0.here hx rfl (hb hby d_method_3_0) rfl ?_
    refine XS.ifYes X0.here hx rfl (pc0 := 1) (pc' := 8) rfl (hb hby d_method_3_1) rfl (XT.i0_ne_t hn0) (by decide) (by decide) ?_
    refine XS.iloadN X0.here hx rfl (hb hby d_method_3_8) rfl ?_
    refine XS.iconst X0.here hx rfl (hb hby d_method_3_9) ?_
    refine XS.icmpYes X0.here hx rfl (pc0 := 10) (pc' := 17) rfl (hb hby d_method_3_10) rfl (XT.ii_ne_t hn1) (by decide) (by decide) ?_
    refine XS.iloadN X0.here hx rfl (hb hby d_method_3_17) rfl ?_
    refine XS.iconst X0.here hx rfl (hb hby d_method_3_18) ?_
    refine XS.icmpYes X0.here hx rfl (pc0 := 19) (pc' := 26) rfl (hb hby d_method_3_19) rfl (XT.ii_ne_t hn2) (by decide) (by decide) ?_
    refine XS.iloadN X0.here hx rfl (hb hby d_method_3_26) rfl ?_
    refine XS.iconst X0.here hx rfl (hb hby d_method_3_27) ?_
    refine XS.icmpYes X0.here hx rfl (pc0 := 28) (pc' := 35) rfl (hb hby d_method_3_28) rfl (XT.ii_ne_t hn3) (by decide) (by decide) ?_
    refine XS.iloadN X0.here hx rfl (hb hby d_method_3_35) rfl ?_
    refine XS.iconst X0.here hx rfl (hb hby d_method_3_36) ?_
    refine XS.icmpYes X0.here hx rfl (pc0 := 37) (pc' := 44) rfl (hb hby d_method_3_37) rfl (XT.ii_ne_t hn4) (by decide) (by decide) ?_
    show oS pP eE below s₁ (mkF mM 44 #[.val (.int p)] []) _
    refine XS.iloadN X0.here hx rfl (hb hby d_method_3_44) rfl ?_
    refine XS.iconst X0.here hx rfl (hb hby d_method_3_45) ?_
    refine XS.icmpNo X0.here hx rfl (hb hby d_method_3_46) rfl (XT.ii_ne_f he) ?_
    show oS pP eE below s₁ (mkF mM 49 #[.val (.int p)] []) _
    refine st_1 _ ?_
    show oS pP eE below T_1 (mkF mM 52 #[.val (.int p)] [(.ref r5)]) _
    exact retOut X_1 hx Bd.returns rfl (Or.inr (Or.inr (Or.inr (Or.inr ⟨rfl, rfl, rfl⟩)))) (hb hby d_method_3_52) hr
  · show Q_typ Z p r0 r1 r2 r3 r4 r5 r6 r7 r8 h0 n0 _ T_1.heap _
    rw [e_1]
    exact ⟨(congrArg (fun z => some (Value.ref z)) (by simp [own_ty, hn0, hn1, hn2, hn3, hn4, he] : r5 = (own_ty p r0 r1 r2 r3 r4 r5 r6 r7 r8))), N0, rfl⟩
theorem d_method_3_53 : decode method_3_code 53 = .ok (.iload_n 0, 1) := by decide +kernel
theorem d_method_3_54 : decode method_3_code 54 = .ok (.bipush 6, 2) := by decide +kernel
theorem d_method_3_56 : decode method_3_code 56 = .ok (.if_icmp .ne 7, 3) := by decide +kernel
theorem d_method_3_59 : decode method_3_code 59 = .ok (.getstatic 33, 3) := by decide +kernel
theorem d_method_3_62 : decode method_3_code 62 = .ok (.areturn, 1) := by decide +kernel
theorem ef_typ_6 (mM : MethodId) (x0 : Int32) : entryFrame mM #[(.int x0)] 1 = mkF mM 0 #[.val (.int x0)] [] := by first | (simp [entryFrame, mkF, argsToLocals, Value.category]; done) | rfl
set_option maxRecDepth 65536 in
set_option maxHeartbeats 40000000 in
theorem rm_typ_6 (l : Launch) (Z : State) (a0 : Array Value) (hw : ∀ d ∈ tables_1, d.before a0 Z = true) (ws : List Jvm.Cond) (p : Int32) (r0 : Addr) (r1 : Addr) (r2 : Addr) (r3 : Addr) (r4 : Addr) (r5 : Addr) (r6 : Addr) (r7 : Addr) (r8 : Addr) (h0 : Heap) (n0 : Nat) (Z0 : n0 ≤ h0.size) (S_FieldType_STRING : Sta Z h0 "com/example/rolling_rung/rollingrung/schema/FieldType" "STRING" "Lcom/example/rolling_rung/rollingrung/schema/FieldType;" (.ref r0)) (S_FieldType_BYTES : Sta Z h0 "com/example/rolling_rung/rollingrung/schema/FieldType" "BYTES" "Lcom/example/rolling_rung/rollingrung/schema/FieldType;" (.ref r1)) (S_FieldType_BOOL : Sta Z h0 "com/example/rolling_rung/rollingrung/schema/FieldType" "BOOL" "Lcom/example/rolling_rung/rollingrung/schema/FieldType;" (.ref r2)) (S_FieldType_INT32 : Sta Z h0 "com/example/rolling_rung/rollingrung/schema/FieldType" "INT32" "Lcom/example/rolling_rung/rollingrung/schema/FieldType;" (.ref r3)) (S_FieldType_INT64 : Sta Z h0 "com/example/rolling_rung/rollingrung/schema/FieldType" "INT64" "Lcom/example/rolling_rung/rollingrung/schema/FieldType;" (.ref r4)) (S_FieldType_SINT32 : Sta Z h0 "com/example/rolling_rung/rollingrung/schema/FieldType" "SINT32" "Lcom/example/rolling_rung/rollingrung/schema/FieldType;" (.ref r5)) (S_FieldType_SINT64 : Sta Z h0 "com/example/rolling_rung/rollingrung/schema/FieldType" "SINT64" "Lcom/example/rolling_rung/rollingrung/schema/FieldType;" (.ref r6)) (S_FieldType_DOUBLE : Sta Z h0 "com/example/rolling_rung/rollingrung/schema/FieldType" "DOUBLE" "Lcom/example/rolling_rung/rollingrung/schema/FieldType;" (.ref r7)) (S_FieldType_FLOAT : Sta Z h0 "com/example/rolling_rung/rollingrung/schema/FieldType" "FLOAT" "Lcom/example/rolling_rung/rollingrung/schema/FieldType;" (.ref r8)) (hn0 : ¬ p = 0) (hn1 : ¬ p = 1) (hn2 : ¬ p = 2) (hn3 : ¬ p = 3) (hn4 : ¬ p = 4) (hn5 : ¬ p = 5) (he : p = 6) :
    MetFree l (⟨"com/example/rolling_rung/rollingrung/schema/FieldSameDefinitionPinLaw", "type", "(I)Lcom/example/rolling_rung/rollingrung/schema/FieldType;"⟩ : MethodName) (head1 (Jvm.Cond.code (⟨"com/example/rolling_rung/rollingrung/schema/FieldSameDefinitionPinLaw", "type", "(I)Lcom/example/rolling_rung/rollingrung/schema/FieldType;"⟩ : MethodName) method_3_code 1 (some (.object "com/example/rolling_rung/rollingrung/schema/FieldType")) :: ws) oR3) (fun aa_ U_ => aa_ = #[(.int p)] ∧ Z.Warmed39 U_.vm ∧ U_.heap = h0) (fun _ _ _ _ _ => True) (fun _ U_ o_ U'_ => ∃ v_ L_, o_ = .returned v_ ∧ Q_typ Z p r0 r1 r2 r3 r4 r5 r6 r7 r8 h0 n0 v_ U'_.heap L_ ∧ FrameEnd U_ o_ U'_ L_ oR3.cells oR3.slots) := by
  refine MetFree.of_bodySF (plainFor_of_name pn_1) hisR ?_
  intro pP eE sS mM argsA below meth cC s₁ Bd hml0 hP hK
  obtain ⟨rfl, hZ, hh⟩ := hP
  have hx := Bd.exec
  have hby := Bd.bytes
  have hml : cC.maxLocals = 1 := hml0
  have hown : sS.vm.findClass "com/example/rolling_rung/rollingrung/schema/FieldSameDefinitionPinLaw" = some mM.cls := findClass_of_methodNamed Bd.named
  have hnm := (name_of_methodNamed Bd.named Bd.method).1
  have X0 : Stand pP l eE oR3 sS mM #[(.int p)] below meth cC s₁ [] 0 0 := Stand.of_body Bd
  have e0 : s₁.heap = h0 := by rw [← hh, Bd.state]; rfl
  have N0 := Fr.nil n0
  have pre0 : ∀ t_, Steps pP.tables eE below (s₁.setTop (mkF mM 0 #[.val (.int p)] [])) t_ → Steps pP.tables eE below (s₁.setTop (entryFrame mM #[(.int p)] 1)) t_ := fun t_ k_ => castTop (ef_typ_6 mM p) k_
  obtain ⟨T_1, X_1, e_1, st_1⟩ := getS2 X0 hx hZ hown (host := "") (Or.inl (ow hw 108 rfl)) Via.refl e0 S_FieldType_SINT64 (g := (mkF mM 59 #[.val (.int p)] [])) rfl (hb hby d_method_3_59)
  obtain ⟨fs, hr, hrun, hended, hW, hsame⟩ := X_1.leave (v := some (.ref r6)) (fun h => by rw [Bd.returns] at h; cases h)
  refine ⟨_, _, pre0 _ ?_, hrun, hended, _, _, rfl, ?_, ⟨_, rfl⟩, hW, hsame.mono (by decide) (by decide)⟩
  · show oS pP eE below s₁ (mkF mM 0 #[.val (.int p)] []) _
    refine XS.iloadN X0.here hx rfl (hb hby d_method_3_0) rfl ?_
    refine XS.ifYes X0.here hx rfl (pc0 := 1) (pc' := 8) rfl (hb hby d_method_3_1) rfl (XT.i0_ne_t hn0) (by decide) (by decide) ?_
    refine XS.iloadN X0.here hx rfl (hb hby d_method_3_8) rfl ?_
    refine XS.iconst X0.here hx rfl (hb hby d_method_3_9) ?_
    refine XS.icmpYes X0.here hx rfl (pc0 := 10) (pc' := 17) rfl (hb hby d_method_3_10) rfl (XT.ii_ne_t hn1) (by decide) (by decide) ?_
    refine XS.iloadN X0.here hx rfl (hb hby d_method_3_17) rfl ?_
    refine XS.iconst X0.here hx rfl (hb hby d_method_3_18) ?_
    refine XS.icmpYes X0.here hx rfl (pc0 := 19) (pc' := 26) rfl (hb hby d_method_3_19) rfl (XT.ii_ne_t hn2) (by decide) (by decide) ?_
    refine XS.iloadN X0.here hx rfl (hb hby d_method_3_26) rfl ?_
    refine XS.iconst X0.here hx rfl (hb hby d_method_3_27) ?_
    refine XS.icmpYes X0.here hx rfl (pc0 := 28) (pc' := 35) rfl (hb hby d_method_3_28) rfl (XT.ii_ne_t hn3) (by decide) (by decide) ?_
    refine XS.iloadN X0.here hx rfl (hb hby d_method_3_35) rfl ?_
    refine XS.iconst X0.here hx rfl (hb hby d_method_3_36) ?_
    refine XS.icmpYes X0.here hx rfl (pc0 := 37) (pc' := 44) rfl (hb hby d_method_3_37) rfl (XT.ii_ne_t hn4) (by decide) (by decide) ?_
    show oS pP eE below s₁ (mkF mM 44 #[.val (.int p)] []) _
    refine XS.iloadN X0.here hx rfl (hb hby d_method_3_44) rfl ?_
    refine XS.iconst X0.here hx rfl (hb hby d_method_3_45) ?_
    refine XS.icmpYes X0.here hx rfl (pc0 := 46) (pc' := 53) rfl (hb hby d_method_3_46) rfl (XT.ii_ne_t hn5) (by decide) (by decide) ?_
    refine XS.iloadN X0.here hx rfl (hb hby d_method_3_53) rfl ?_
    refine XS.bipush X0.here hx rfl (hb hby d_method_3_54) ?_
    refine XS.icmpNo X0.here hx rfl (hb hby d_method_3_56) rfl (XT.ii_ne_f he) ?_
    show oS pP eE below s₁ (mkF mM 59 #[.val (.int p)] []) _
    refine st_1 _ ?_
    show oS pP eE below T_1 (mkF mM 62 #[.val (.int p)] [(.ref r6)]) _
    exact retOut X_1 hx Bd.returns rfl (Or.inr (Or.inr (Or.inr (Or.inr ⟨rfl, rfl, rfl⟩)))) (hb hby d_method_3_62) hr
  · show Q_typ Z p r0 r1 r2 r3 r4 r5 r6 r7 r8 h0 n0 _ T_1.heap _
    rw [e_1]
    exact ⟨(congrArg (fun z => some (Value.ref z)) (by simp [own_ty, hn0, hn1, hn2, hn3, hn4, hn5, he] : r6 = (own_ty p r0 r1 r2 r3 r4 r5 r6 r7 r8))), N0, rfl⟩
theorem d_method_3_63 : decode method_3_code 63 = .ok (.iload_n 0, 1) := by decide +kernel
theorem d_method_3_64 : decode method_3_code 64 = .ok (.bipush 7, 2) := by decide +kernel
theorem d_method_3_66 : decode method_3_code 66 = .ok (.if_icmp .ne 7, 3) := by decide +kernel
theorem d_method_3_69 : decode method_3_code 69 = .ok (.getstatic 36, 3) := by decide +kernel
theorem d_method_3_72 : decode method_3_code 72 = .ok (.areturn, 1) := by decide +kernel
theorem ef_typ_7 (mM : MethodId) (x0 : Int32) : entryFrame mM #[(.int x0)] 1 = mkF mM 0 #[.val (.int x0)] [] := by first | (simp [entryFrame, mkF, argsToLocals, Value.category]; done) | rfl
set_option maxRecDepth 65536 in
set_option maxHeartbeats 40000000 in
theorem rm_typ_7 (l : Launch) (Z : State) (a0 : Array Value) (hw : ∀ d ∈ tables_1, d.before a0 Z = true) (ws : List Jvm.Cond) (p : Int32) (r0 : Addr) (r1 : Addr) (r2 : Addr) (r3 : Addr) (r4 : Addr) (r5 : Addr) (r6 : Addr) (r7 : Addr) (r8 : Addr) (h0 : Heap) (n0 : Nat) (Z0 : n0 ≤ h0.size) (S_FieldType_STRING : Sta Z h0 "com/example/rolling_rung/rollingrung/schema/FieldType" "STRING" "Lcom/example/rolling_rung/rollingrung/schema/FieldType;" (.ref r0)) (S_FieldType_BYTES : Sta Z h0 "com/example/rolling_rung/rollingrung/schema/FieldType" "BYTES" "Lcom/example/rolling_rung/rollingrung/schema/FieldType;" (.ref r1)) (S_FieldType_BOOL : Sta Z h0 "com/example/rolling_rung/rollingrung/schema/FieldType" "BOOL" "Lcom/example/rolling_rung/rollingrung/schema/FieldType;" (.ref r2)) (S_FieldType_INT32 : Sta Z h0 "com/example/rolling_rung/rollingrung/schema/FieldType" "INT32" "Lcom/example/rolling_rung/rollingrung/schema/FieldType;" (.ref r3)) (S_FieldType_INT64 : Sta Z h0 "com/example/rolling_rung/rollingrung/schema/FieldType" "INT64" "Lcom/example/rolling_rung/rollingrung/schema/FieldType;" (.ref r4)) (S_FieldType_SINT32 : Sta Z h0 "com/example/rolling_rung/rollingrung/schema/FieldType" "SINT32" "Lcom/example/rolling_rung/rollingrung/schema/FieldType;" (.ref r5)) (S_FieldType_SINT64 : Sta Z h0 "com/example/rolling_rung/rollingrung/schema/FieldType" "SINT64" "Lcom/example/rolling_rung/rollingrung/schema/FieldType;" (.ref r6)) (S_FieldType_DOUBLE : Sta Z h0 "com/example/rolling_rung/rollingrung/schema/FieldType" "DOUBLE" "Lcom/example/rolling_rung/rollingrung/schema/FieldType;" (.ref r7)) (S_FieldType_FLOAT : Sta Z h0 "com/example/rolling_rung/rollingrung/schema/FieldType" "FLOAT" "Lcom/example/rolling_rung/rollingrung/schema/FieldType;" (.ref r8)) (hn0 : ¬ p = 0) (hn1 : ¬ p = 1) (hn2 : ¬ p = 2) (hn3 : ¬ p = 3) (hn4 : ¬ p = 4) (hn5 : ¬ p = 5) (hn6 : ¬ p = 6) (he : p = 7) :
    MetFree l (⟨"com/example/rolling_rung/rollingrung/schema/FieldSameDefinitionPinLaw", "type", "(I)Lcom/example/rolling_rung/rollingrung/schema/FieldType;"⟩ : MethodName) (head1 (Jvm.Cond.code (⟨"com/example/rolling_rung/rollingrung/schema/FieldSameDefinitionPinLaw", "type", "(I)Lcom/example/rolling_rung/rollingrung/schema/FieldType;"⟩ : MethodName) method_3_code 1 (some (.object "com/example/rolling_rung/rollingrung/schema/FieldType")) :: ws) oR3) (fun aa_ U_ => aa_ = #[(.int p)] ∧ Z.Warmed39 U_.vm ∧ U_.heap = h0) (fun _ _ _ _ _ => True) (fun _ U_ o_ U'_ => ∃ v_ L_, o_ = .returned v_ ∧ Q_typ Z p r0 r1 r2 r3 r4 r5 r6 r7 r8 h0 n0 v_ U'_.heap L_ ∧ FrameEnd U_ o_ U'_ L_ oR3.cells oR3.slots) := by
  refine MetFree.of_bodySF (plainFor_of_name pn_1) hisR ?_
  intro pP eE sS mM argsA below meth cC s₁ Bd hml0 hP hK
  obtain ⟨rfl, hZ, hh⟩ := hP
  have hx := Bd.exec
  have hby := Bd.bytes
  have hml : cC.maxLocals = 1 := hml0
  have hown : sS.vm.findClass "com/example/rolling_rung/rollingrung/schema/FieldSameDefinitionPinLaw" = some mM.cls := findClass_of_methodNamed Bd.named
  have hnm := (name_of_methodNamed Bd.named Bd.method).1
  have X0 : Stand pP l eE oR3 sS mM #[(.int p)] below meth cC s₁ [] 0 0 := Stand.of_body Bd
  have e0 : s₁.heap = h0 := by rw [← hh, Bd.state]; rfl
  have N0 := Fr.nil n0
  have pre0 : ∀ t_, Steps pP.tables eE below (s₁.setTop (mkF mM 0 #[.val (.int p)] [])) t_ → Steps pP.tables eE below (s₁.setTop (entryFrame mM #[(.int p)] 1)) t_ := fun t_ k_ => castTop (ef_typ_7 mM p) k_
  obtain ⟨T_1, X_1, e_1, st_1⟩ := getS2 X0 hx hZ hown (host := "") (Or.inl (ow hw 94 rfl)) Via.refl e0 S_FieldType_DOUBLE (g := (mkF mM 69 #[.val (.int p)] [])) rfl (hb hby d_method_3_69)
  obtain ⟨fs, hr, hrun, hended, hW, hsame⟩ := X_1.leave (v := some (.ref r7)) (fun h => by rw [Bd.returns] at h; cases h)
  refine ⟨_, _, pre0 _ ?_, hrun, hended, _, _, rfl, ?_, ⟨_, rfl⟩, hW, hsame.mono (by decide) (by decide)⟩
  · show oS pP eE below s₁ (mkF mM 0 #[.val (.int p)] []) _
    refine XS.iloadN X0.here hx rfl (hb hby d_method_3_0) rfl ?_
    refine XS.ifYes X0.here hx rfl (pc0 := 1) (pc' := 8) rfl (hb hby d_method_3_1) rfl (XT.i0_ne_t hn0) (by decide) (by decide) ?_
    refine XS.iloadN X0.here hx rfl (hb hby d_method_3_8) rfl ?_
    refine XS.iconst X0.here hx rfl (hb hby d_method_3_9) ?_
    refine XS.icmpYes X0.here hx rfl (pc0 := 10) (pc' := 17) rfl (hb hby d_method_3_10) rfl (XT.ii_ne_t hn1) (by decide) (by decide) ?_
    refine XS.iloadN X0.here hx rfl (hb hby d_method_3_17) rfl ?_
    refine XS.iconst X0.here hx rfl (hb hby d_method_3_18) ?_
    refine XS.icmpYes X0.here hx rfl (pc0 := 19) (pc' := 26) rfl (hb hby d_method_3_19) rfl (XT.ii_ne_t hn2) (by decide) (by decide) ?_
    refine XS.iloadN X0.here hx rfl (hb hby d_method_3_26) rfl ?_
    refine XS.iconst X0.here hx rfl (hb hby d_method_3_27) ?_
    refine XS.icmpYes X0.here hx rfl (pc0 := 28) (pc' := 35) rfl (hb hby d_method_3_28) rfl (XT.ii_ne_t hn3) (by decide) (by decide) ?_
    refine XS.iloadN X0.here hx rfl (hb hby d_method_3_35) rfl ?_
    refine XS.iconst X0.here hx rfl (hb hby d_method_3_36) ?_
    refine XS.icmpYes X0.here hx rfl (pc0 := 37) (pc' := 44) rfl (hb hby d_method_3_37) rfl (XT.ii_ne_t hn4) (by decide) (by decide) ?_
    show oS pP eE below s₁ (mkF mM 44 #[.val (.int p)] []) _
    refine XS.iloadN X0.here hx rfl (hb hby d_method_3_44) rfl ?_
    refine XS.iconst X0.here hx rfl (hb hby d_method_3_45) ?_
    refine XS.icmpYes X0.here hx rfl (pc0 := 46) (pc' := 53) rfl (hb hby d_method_3_46) rfl (XT.ii_ne_t hn5) (by decide) (by decide) ?_
    refine XS.iloadN X0.here hx rfl (hb hby d_method_3_53) rfl ?_
    refine XS.bipush X0.here hx rfl (hb hby d_method_3_54) ?_
    refine XS.icmpYes X0.here hx rfl (pc0 := 56) (pc' := 63) rfl (hb hby d_method_3_56) rfl (XT.ii_ne_t hn6) (by decide) (by decide) ?_
    refine XS.iloadN X0.here hx rfl (hb hby d_method_3_63) rfl ?_
    refine XS.bipush X0.here hx rfl (hb hby d_method_3_64) ?_
    refine XS.icmpNo X0.here hx rfl (hb hby d_method_3_66) rfl (XT.ii_ne_f he) ?_
    show oS pP eE below s₁ (mkF mM 69 #[.val (.int p)] []) _
    refine st_1 _ ?_
    show oS pP eE below T_1 (mkF mM 72 #[.val (.int p)] [(.ref r7)]) _
    exact retOut X_1 hx Bd.returns rfl (Or.inr (Or.inr (Or.inr (Or.inr ⟨rfl, rfl, rfl⟩)))) (hb hby d_method_3_72) hr
  · show Q_typ Z p r0 r1 r2 r3 r4 r5 r6 r7 r8 h0 n0 _ T_1.heap _
    rw [e_1]
    exact ⟨(congrArg (fun z => some (Value.ref z)) (by simp [own_ty, hn0, hn1, hn2, hn3, hn4, hn5, hn6, he] : r7 = (own_ty p r0 r1 r2 r3 r4 r5 r6 r7 r8))), N0, rfl⟩
theorem d_method_3_73 : decode method_3_code 73 = .ok (.getstatic 39, 3) := by decide +kernel
theorem d_method_3_76 : decode method_3_code 76 = .ok (.areturn, 1) := by decide +kernel
theorem ef_typ_8 (mM : MethodId) (x0 : Int32) : entryFrame mM #[(.int x0)] 1 = mkF mM 0 #[.val (.int x0)] [] := by first | (simp [entryFrame, mkF, argsToLocals, Value.category]; done) | rfl
set_option maxRecDepth 65536 in
set_option maxHeartbeats 40000000 in
theorem rm_typ_8 (l : Launch) (Z : State) (a0 : Array Value) (hw : ∀ d ∈ tables_1, d.before a0 Z = true) (ws : List Jvm.Cond) (p : Int32) (r0 : Addr) (r1 : Addr) (r2 : Addr) (r3 : Addr) (r4 : Addr) (r5 : Addr) (r6 : Addr) (r7 : Addr) (r8 : Addr) (h0 : Heap) (n0 : Nat) (Z0 : n0 ≤ h0.size) (S_FieldType_STRING : Sta Z h0 "com/example/rolling_rung/rollingrung/schema/FieldType" "STRING" "Lcom/example/rolling_rung/rollingrung/schema/FieldType;" (.ref r0)) (S_FieldType_BYTES : Sta Z h0 "com/example/rolling_rung/rollingrung/schema/FieldType" "BYTES" "Lcom/example/rolling_rung/rollingrung/schema/FieldType;" (.ref r1)) (S_FieldType_BOOL : Sta Z h0 "com/example/rolling_rung/rollingrung/schema/FieldType" "BOOL" "Lcom/example/rolling_rung/rollingrung/schema/FieldType;" (.ref r2)) (S_FieldType_INT32 : Sta Z h0 "com/example/rolling_rung/rollingrung/schema/FieldType" "INT32" "Lcom/example/rolling_rung/rollingrung/schema/FieldType;" (.ref r3)) (S_FieldType_INT64 : Sta Z h0 "com/example/rolling_rung/rollingrung/schema/FieldType" "INT64" "Lcom/example/rolling_rung/rollingrung/schema/FieldType;" (.ref r4)) (S_FieldType_SINT32 : Sta Z h0 "com/example/rolling_rung/rollingrung/schema/FieldType" "SINT32" "Lcom/example/rolling_rung/rollingrung/schema/FieldType;" (.ref r5)) (S_FieldType_SINT64 : Sta Z h0 "com/example/rolling_rung/rollingrung/schema/FieldType" "SINT64" "Lcom/example/rolling_rung/rollingrung/schema/FieldType;" (.ref r6)) (S_FieldType_DOUBLE : Sta Z h0 "com/example/rolling_rung/rollingrung/schema/FieldType" "DOUBLE" "Lcom/example/rolling_rung/rollingrung/schema/FieldType;" (.ref r7)) (S_FieldType_FLOAT : Sta Z h0 "com/example/rolling_rung/rollingrung/schema/FieldType" "FLOAT" "Lcom/example/rolling_rung/rollingrung/schema/FieldType;" (.ref r8)) (hn0 : ¬ p = 0) (hn1 : ¬ p = 1) (hn2 : ¬ p = 2) (hn3 : ¬ p = 3) (hn4 : ¬ p = 4) (hn5 : ¬ p = 5) (hn6 : ¬ p = 6) (hn7 : ¬ p = 7) :
    MetFree l (⟨"com/example/rolling_rung/rollingrung/schema/FieldSameDefinitionPinLaw", "type", "(I)Lcom/example/rolling_rung/rollingrung/schema/FieldType;"⟩ : MethodName) (head1 (Jvm.Cond.code (⟨"com/example/rolling_rung/rollingrung/schema/FieldSameDefinitionPinLaw", "type", "(I)Lcom/example/rolling_rung/rollingrung/schema/FieldType;"⟩ : MethodName) method_3_code 1 (some (.object "com/example/rolling_rung/rollingrung/schema/FieldType")) :: ws) oR3) (fun aa_ U_ => aa_ = #[(.int p)] ∧ Z.Warmed39 U_.vm ∧ U_.heap = h0) (fun _ _ _ _ _ => True) (fun _ U_ o_ U'_ => ∃ v_ L_, o_ = .returned v_ ∧ Q_typ Z p r0 r1 r2 r3 r4 r5 r6 r7 r8 h0 n0 v_ U'_.heap L_ ∧ FrameEnd U_ o_ U'_ L_ oR3.cells oR3.slots) := by
  refine MetFree.of_bodySF (plainFor_of_name pn_1) hisR ?_
  intro pP eE sS mM argsA below meth cC s₁ Bd hml0 hP hK
  obtain ⟨rfl, hZ, hh⟩ := hP
  have hx := Bd.exec
  have hby := Bd.bytes
  have hml : cC.maxLocals = 1 := hml0
  have hown : sS.vm.findClass "com/example/rolling_rung/rollingrung/schema/FieldSameDefinitionPinLaw" = some mM.cls := findClass_of_methodNamed Bd.named
  have hnm := (name_of_methodNamed Bd.named Bd.method).1
  have X0 : Stand pP l eE oR3 sS mM #[(.int p)] below meth cC s₁ [] 0 0 := Stand.of_body Bd
  have e0 : s₁.heap = h0 := by rw [← hh, Bd.state]; rfl
  have N0 := Fr.nil n0
  have pre0 : ∀ t_, Steps pP.tables eE below (s₁.setTop (mkF mM 0 #[.val (.int p)] [])) t_ → Steps pP.tables eE below (s₁.setTop (entryFrame mM #[(.int p)] 1)) t_ := fun t_ k_ => castTop (ef_typ_8 mM p) k_
  obtain ⟨T_1, X_1, e_1, st_1⟩ := getS2 X0 hx hZ hown (host := "") (Or.inl (ow hw 118 rfl)) Via.refl e0 S_FieldType_FLOAT (g := (mkF mM 73 #[.val (.int p)] [])) rfl (hb hby d_method_3_73)
  obtain ⟨fs, hr, hrun, hended, hW, hsame⟩ := X_1.leave (v := some (.ref r8)) (fun h => by rw [Bd.returns] at h; cases h)
  refine ⟨_, _, pre0 _ ?_, hrun, hended, _, _, rfl, ?_, ⟨_, rfl⟩, hW, hsame.mono (by decide) (by decide)⟩
  · show oS pP eE below s₁ (mkF mM 0 #[.val (.int p)] []) _
    refine XS.iloadN X0.here hx rfl (hb hby d_method_3_0) rfl ?_
    refine XS.ifYes X0.here hx rfl (pc0 := 1) (pc' := 8) rfl (hb hby d_method_3_1) rfl (XT.i0_ne_t hn0) (by decide) (by decide) ?_
    refine XS.iloadN X0.here hx rfl (hb hby d_method_3_8) rfl ?_
    refine XS.iconst X0.here hx rfl (hb hby d_method_3_9) ?_
    refine XS.icmpYes X0.here hx rfl (pc0 := 10) (pc' := 17) rfl (hb hby d_method_3_10) rfl (XT.ii_ne_t hn1) (by decide) (by decide) ?_
    refine XS.iloadN X0.here hx rfl (hb hby d_method_3_17) rfl ?_
    refine XS.iconst X0.here hx rfl (hb hby d_method_3_18) ?_
    refine XS.icmpYes X0.here hx rfl (pc0 := 19) (pc' := 26) rfl (hb hby d_method_3_19) rfl (XT.ii_ne_t hn2) (by decide) (by decide) ?_
    refine XS.iloadN X0.here hx rfl (hb hby d_method_3_26) rfl ?_
    refine XS.iconst X0.here hx rfl (hb hby d_method_3_27) ?_
    refine XS.icmpYes X0.here hx rfl (pc0 := 28) (pc' := 35) rfl (hb hby d_method_3_28) rfl (XT.ii_ne_t hn3) (by decide) (by decide) ?_
    refine XS.iloadN X0.here hx rfl (hb hby d_method_3_35) rfl ?_
    refine XS.iconst X0.here hx rfl (hb hby d_method_3_36) ?_
    refine XS.icmpYes X0.here hx rfl (pc0 := 37) (pc' := 44) rfl (hb hby d_method_3_37) rfl (XT.ii_ne_t hn4) (by decide) (by decide) ?_
    show oS pP eE below s₁ (mkF mM 44 #[.val (.int p)] []) _
    refine XS.iloadN X0.here hx rfl (hb hby d_method_3_44) rfl ?_
    refine XS.iconst X0.here hx rfl (hb hby d_method_3_45) ?_
    refine XS.icmpYes X0.here hx rfl (pc0 := 46) (pc' := 53) rfl (hb hby d_method_3_46) rfl (XT.ii_ne_t hn5) (by decide) (by decide) ?_
    refine XS.iloadN X0.here hx rfl (hb hby d_method_3_53) rfl ?_
    refine XS.bipush X0.here hx rfl (hb hby d_method_3_54) ?_
    refine XS.icmpYes X0.here hx rfl (pc0 := 56) (pc' := 63) rfl (hb hby d_method_3_56) rfl (XT.ii_ne_t hn6) (by decide) (by decide) ?_
    refine XS.iloadN X0.here hx rfl (hb hby d_method_3_63) rfl ?_
    refine XS.bipush X0.here hx rfl (hb hby d_method_3_64) ?_
    refine XS.icmpYes X0.here hx rfl (pc0 := 66) (pc' := 73) rfl (hb hby d_method_3_66) rfl (XT.ii_ne_t hn7) (by decide) (by decide) ?_
    show oS pP eE below s₁ (mkF mM 73 #[.val (.int p)] []) _
    refine st_1 _ ?_
    show oS pP eE below T_1 (mkF mM 76 #[.val (.int p)] [(.ref r8)]) _
    exact retOut X_1 hx Bd.returns rfl (Or.inr (Or.inr (Or.inr (Or.inr ⟨rfl, rfl, rfl⟩)))) (hb hby d_method_3_76) hr
  · show Q_typ Z p r0 r1 r2 r3 r4 r5 r6 r7 r8 h0 n0 _ T_1.heap _
    rw [e_1]
    exact ⟨(congrArg (fun z => some (Value.ref z)) (by simp [own_ty, hn0, hn1, hn2, hn3, hn4, hn5, hn6, hn7] : r8 = (own_ty p r0 r1 r2 r3 r4 r5 r6 r7 r8))), N0, rfl⟩
set_option maxRecDepth 65536 in
set_option maxHeartbeats 40000000 in
theorem rm_typ (l : Launch) (Z : State) (a0 : Array Value) (hw : ∀ d ∈ tables_1, d.before a0 Z = true) (ws : List Jvm.Cond) (p : Int32) (r0 : Addr) (r1 : Addr) (r2 : Addr) (r3 : Addr) (r4 : Addr) (r5 : Addr) (r6 : Addr) (r7 : Addr) (r8 : Addr) (h0 : Heap) (n0 : Nat) (Z0 : n0 ≤ h0.size) (S_FieldType_STRING : Sta Z h0 "com/example/rolling_rung/rollingrung/schema/FieldType" "STRING" "Lcom/example/rolling_rung/rollingrung/schema/FieldType;" (.ref r0)) (S_FieldType_BYTES : Sta Z h0 "com/example/rolling_rung/rollingrung/schema/FieldType" "BYTES" "Lcom/example/rolling_rung/rollingrung/schema/FieldType;" (.ref r1)) (S_FieldType_BOOL : Sta Z h0 "com/example/rolling_rung/rollingrung/schema/FieldType" "BOOL" "Lcom/example/rolling_rung/rollingrung/schema/FieldType;" (.ref r2)) (S_FieldType_INT32 : Sta Z h0 "com/example/rolling_rung/rollingrung/schema/FieldType" "INT32" "Lcom/example/rolling_rung/rollingrung/schema/FieldType;" (.ref r3)) (S_FieldType_INT64 : Sta Z h0 "com/example/rolling_rung/rollingrung/schema/FieldType" "INT64" "Lcom/example/rolling_rung/rollingrung/schema/FieldType;" (.ref r4)) (S_FieldType_SINT32 : Sta Z h0 "com/example/rolling_rung/rollingrung/schema/FieldType" "SINT32" "Lcom/example/rolling_rung/rollingrung/schema/FieldType;" (.ref r5)) (S_FieldType_SINT64 : Sta Z h0 "com/example/rolling_rung/rollingrung/schema/FieldType" "SINT64" "Lcom/example/rolling_rung/rollingrung/schema/FieldType;" (.ref r6)) (S_FieldType_DOUBLE : Sta Z h0 "com/example/rolling_rung/rollingrung/schema/FieldType" "DOUBLE" "Lcom/example/rolling_rung/rollingrung/schema/FieldType;" (.ref r7)) (S_FieldType_FLOAT : Sta Z h0 "com/example/rolling_rung/rollingrung/schema/FieldType" "FLOAT" "Lcom/example/rolling_rung/rollingrung/schema/FieldType;" (.ref r8)) :
    MetFree l (⟨"com/example/rolling_rung/rollingrung/schema/FieldSameDefinitionPinLaw", "type", "(I)Lcom/example/rolling_rung/rollingrung/schema/FieldType;"⟩ : MethodName) (head1 (Jvm.Cond.code (⟨"com/example/rolling_rung/rollingrung/schema/FieldSameDefinitionPinLaw", "type", "(I)Lcom/example/rolling_rung/rollingrung/schema/FieldType;"⟩ : MethodName) method_3_code 1 (some (.object "com/example/rolling_rung/rollingrung/schema/FieldType")) :: ws) oR3) (fun aa_ U_ => aa_ = #[(.int p)] ∧ Z.Warmed39 U_.vm ∧ U_.heap = h0) (fun _ _ _ _ _ => True) (fun _ U_ o_ U'_ => ∃ v_ L_, o_ = .returned v_ ∧ Q_typ Z p r0 r1 r2 r3 r4 r5 r6 r7 r8 h0 n0 v_ U'_.heap L_ ∧ FrameEnd U_ o_ U'_ L_ oR3.cells oR3.slots) := by
  by_cases he : p = 0
  · exact rm_typ_0 l Z a0 hw ws p r0 r1 r2 r3 r4 r5 r6 r7 r8 h0 n0 Z0 S_FieldType_STRING S_FieldType_BYTES S_FieldType_BOOL S_FieldType_INT32 S_FieldType_INT64 S_FieldType_SINT32 S_FieldType_SINT64 S_FieldType_DOUBLE S_FieldType_FLOAT  he
  · have hn0 := he
    by_cases he : p = 1
    · exact rm_typ_1 l Z a0 hw ws p r0 r1 r2 r3 r4 r5 r6 r7 r8 h0 n0 Z0 S_FieldType_STRING S_FieldType_BYTES S_FieldType_BOOL S_FieldType_INT32 S_FieldType_INT64 S_FieldType_SINT32 S_FieldType_SINT64 S_FieldType_DOUBLE S_FieldType_FLOAT hn0 he
    · have hn1 := he
      by_cases he : p = 2
      · exact rm_typ_2 l Z a0 hw ws p r0 r1 r2 r3 r4 r5 r6 r7 r8 h0 n0 Z0 S_FieldType_STRING S_FieldType_BYTES S_FieldType_BOOL S_FieldType_INT32 S_FieldType_INT64 S_FieldType_SINT32 S_FieldType_SINT64 S_FieldType_DOUBLE S_FieldType_FLOAT hn0 hn1 he
      · have hn2 := he
        by_cases he : p = 3
        · exact rm_typ_3 l Z a0 hw ws p r0 r1 r2 r3 r4 r5 r6 r7 r8 h0 n0 Z0 S_FieldType_STRING S_FieldType_BYTES S_FieldType_BOOL S_FieldType_INT32 S_FieldType_INT64 S_FieldType_SINT32 S_FieldType_SINT64 S_FieldType_DOUBLE S_FieldType_FLOAT hn0 hn1 hn2 he
        · have hn3 := he
          by_cases he : p = 4
          · exact rm_typ_4 l Z a0 hw ws p r0 r1 r2 r3 r4 r5 r6 r7 r8 h0 n0 Z0 S_FieldType_STRING S_FieldType_BYTES S_FieldType_BOOL S_FieldType_INT32 S_FieldType_INT64 S_FieldType_SINT32 S_FieldType_SINT64 S_FieldType_DOUBLE S_FieldType_FLOAT hn0 hn1 hn2 hn3 he
          · have hn4 := he
            by_cases he : p = 5
            · exact rm_typ_5 l Z a0 hw ws p r0 r1 r2 r3 r4 r5 r6 r7 r8 h0 n0 Z0 S_FieldType_STRING S_FieldType_BYTES S_FieldType_BOOL S_FieldType_INT32 S_FieldType_INT64 S_FieldType_SINT32 S_FieldType_SINT64 S_FieldType_DOUBLE S_FieldType_FLOAT hn0 hn1 hn2 hn3 hn4 he
            · have hn5 := he
              by_cases he : p = 6
              · exact rm_typ_6 l Z a0 hw ws p r0 r1 r2 r3 r4 r5 r6 r7 r8 h0 n0 Z0 S_FieldType_STRING S_FieldType_BYTES S_FieldType_BOOL S_FieldType_INT32 S_FieldType_INT64 S_FieldType_SINT32 S_FieldType_SINT64 S_FieldType_DOUBLE S_FieldType_FLOAT hn0 hn1 hn2 hn3 hn4 hn5 he
              · have hn6 := he
                by_cases he : p = 7
                · exact rm_typ_7 l Z a0 hw ws p r0 r1 r2 r3 r4 r5 r6 r7 r8 h0 n0 Z0 S_FieldType_STRING S_FieldType_BYTES S_FieldType_BOOL S_FieldType_INT32 S_FieldType_INT64 S_FieldType_SINT32 S_FieldType_SINT64 S_FieldType_DOUBLE S_FieldType_FLOAT hn0 hn1 hn2 hn3 hn4 hn5 hn6 he
                · have hn7 := he
                  exact rm_typ_8 l Z a0 hw ws p r0 r1 r2 r3 r4 r5 r6 r7 r8 h0 n0 Z0 S_FieldType_STRING S_FieldType_BYTES S_FieldType_BOOL S_FieldType_INT32 S_FieldType_INT64 S_FieldType_SINT32 S_FieldType_SINT64 S_FieldType_DOUBLE S_FieldType_FLOAT hn0 hn1 hn2 hn3 hn4 hn5 hn6 hn7
def Q_sta (Z : State) (p : Int32) (r0 : Addr) (r1 : Addr) (r2 : Addr) (r3 : Addr) (h0 : Heap) (n0 : Nat) (v_ : Option Value) (h_ : Heap) (L_ : List Loc) : Prop := v_ = some (.ref (own_st p r0 r1 r2 r3)) ∧ Fr n0 L_ ∧ h_ = h0
theorem d_method_4_0 : decode method_4_code 0 = .ok (.iload_n 0, 1) := by decide +kernel
theorem d_method_4_1 : decode method_4_code 1 = .ok (.ifCond .ne 7, 3) := by decide +kernel
theorem d_method_4_4 : decode method_4_code 4 = .ok (.getstatic 42, 3) := by decide +kernel
theorem d_method_4_7 : decode method_4_code 7 = .ok (.areturn, 1) := by decide +kernel
theorem ef_sta_0 (mM : MethodId) (x0 : Int32) : entryFrame mM #[(.int x0)] 1 = mkF mM 0 #[.val (.int x0)] [] := by first | (simp [entryFrame, mkF, argsToLocals, Value.category]; done) | rfl
set_option maxRecDepth 65536 in
set_option maxHeartbeats 40000000 in
theorem rm_sta_0 (l : Launch) (Z : State) (a0 : Array Value) (hw : ∀ d ∈ tables_1, d.before a0 Z = true) (ws : List Jvm.Cond) (p : Int32) (r0 : Addr) (r1 : Addr) (r2 : Addr) (r3 : Addr) (h0 : Heap) (n0 : Nat) (Z0 : n0 ≤ h0.size) (S_ElementState_ABSENT : Sta Z h0 "com/example/rolling_rung/rollingrung/schema/ElementState" "ABSENT" "Lcom/example/rolling_rung/rollingrung/schema/ElementState;" (.ref r0)) (S_ElementState_DELETE_ONLY : Sta Z h0 "com/example/rolling_rung/rollingrung/schema/ElementState" "DELETE_ONLY" "Lcom/example/rolling_rung/rollingrung/schema/ElementState;" (.ref r1)) (S_ElementState_WRITE_ONLY : Sta Z h0 "com/example/rolling_rung/rollingrung/schema/ElementState" "WRITE_ONLY" "Lcom/example/rolling_rung/rollingrung/schema/ElementState;" (.ref r2)) (S_ElementState_PUBLIC : Sta Z h0 "com/example/rolling_rung/rollingrung/schema/ElementState" "PUBLIC" "Lcom/example/rolling_rung/rollingrung/schema/ElementState;" (.ref r3)) (he : p = 0) :
    MetFree l (⟨"com/example/rolling_rung/rollingrung/schema/FieldSameDefinitionPinLaw", "state", "(I)Lcom/example/rolling_rung/rollingrung/schema/ElementState;"⟩ : MethodName) (head1 (Jvm.Cond.code (⟨"com/example/rolling_rung/rollingrung/schema/FieldSameDefinitionPinLaw", "state", "(I)Lcom/example/rolling_rung/rollingrung/schema/ElementState;"⟩ : MethodName) method_4_code 1 (some (.object "com/example/rolling_rung/rollingrung/schema/ElementState")) :: ws) oR3) (fun aa_ U_ => aa_ = #[(.int p)] ∧ Z.Warmed39 U_.vm ∧ U_.heap = h0) (fun _ _ _ _ _ => True) (fun _ U_ o_ U'_ => ∃ v_ L_, o_ = .returned v_ ∧ Q_sta Z p r0 r1 r2 r3 h0 n0 v_ U'_.heap L_ ∧ FrameEnd U_ o_ U'_ L_ oR3.cells oR3.slots) := by
  refine MetFree.of_bodySF (plainFor_of_name pn_1) hisR ?_
  intro pP eE sS mM argsA below meth cC s₁ Bd hml0 hP hK
  obtain ⟨rfl, hZ, hh⟩ := hP
  have hx := Bd.exec
  have hby := Bd.bytes
  have hml : cC.maxLocals = 1 := hml0
  have hown : sS.vm.findClass "com/example/rolling_rung/rollingrung/schema/FieldSameDefinitionPinLaw" = some mM.cls := findClass_of_methodNamed Bd.named
  have hnm := (name_of_methodNamed Bd.named Bd.method).1
  have X0 : Stand pP l eE oR3 sS mM #[(.int p)] below meth cC s₁ [] 0 0 := Stand.of_body Bd
  have e0 : s₁.heap = h0 := by rw [← hh, Bd.state]; rfl
  have N0 := Fr.nil n0
  have pre0 : ∀ t_, Steps pP.tables eE below (s₁.setTop (mkF mM 0 #[.val (.int p)] [])) t_ → Steps pP.tables eE below (s₁.setTop (entryFrame mM #[(.int p)] 1)) t_ := fun t_ k_ => castTop (ef_sta_0 mM p) k_
  obtain ⟨T_1, X_1, e_1, st_1⟩ := getS2 X0 hx hZ hown (host := "") (Or.inl (ow hw 74 rfl)) Via.refl e0 S_ElementState_ABSENT (g := (mkF mM 4 #[.val (.int p)] [])) rfl (hb hby d_method_4_4)
  obtain ⟨fs, hr, hrun, hended, hW, hsame⟩ := X_1.leave (v := some (.ref r0)) (fun h => by rw [Bd.returns] at h; cases h)
  refine ⟨_, _, pre0 _ ?_, hrun, hended, _, _, rfl, ?_, ⟨_, rfl⟩, hW, hsame.mono (by decide) (by decide)⟩
  · show oS pP eE below s₁ (mkF mM 0 #[.val (.int p)] []) _
    refine XS.iloadN X0.here hx rfl (hb hby d_method_4_0) rfl ?_
    refine XS.ifNo X0.here hx rfl (hb hby d_method_4_1) rfl (XT.i0_ne_f he) ?_
    show oS pP eE below s₁ (mkF mM 4 #[.val (.int p)] []) _
    refine st_1 _ ?_
    show oS pP eE below T_1 (mkF mM 7 #[.val (.int p)] [(.ref r0)]) _
    exact retOut X_1 hx Bd.returns rfl (Or.inr (Or.inr (Or.inr (Or.inr ⟨rfl, rfl, rfl⟩)))) (hb hby d_method_4_7) hr
  · show Q_sta Z p r0 r1 r2 r3 h0 n0 _ T_1.heap _
    rw [e_1]
    exact ⟨(congrArg (fun z => some (Value.ref z)) (by simp [own_st, he] : r0 = (own_st p r0 r1 r2 r3))), N0, rfl⟩
theorem d_method_4_8 : decode method_4_code 8 = .ok (.iload_n 0, 1) := by decide +kernel
theorem d_method_4_9 : decode method_4_code 9 = .ok (.iconst 1, 1) := by decide +kernel
theorem d_method_4_10 : decode method_4_code 10 = .ok (.if_icmp .ne 7, 3) := by decide +kernel
theorem d_method_4_13 : decode method_4_code 13 = .ok (.getstatic 48, 3) := by decide +kernel
theorem d_method_4_16 : decode method_4_code 16 = .ok (.areturn, 1) := by decide +kernel
theorem ef_sta_1 (mM : MethodId) (x0 : Int32) : entryFrame mM #[(.int x0)] 1 = mkF mM 0 #[.val (.int x0)] [] := by first | (simp [entryFrame, mkF, argsToLocals, Value.category]; done) | rfl
set_option maxRecDepth 65536 in
set_option maxHeartbeats 40000000 in
theorem rm_sta_1 (l : Launch) (Z : State) (a0 : Array Value) (hw : ∀ d ∈ tables_1, d.before a0 Z = true) (ws : List Jvm.Cond) (p : Int32) (r0 : Addr) (r1 : Addr) (r2 : Addr) (r3 : Addr) (h0 : Heap) (n0 : Nat) (Z0 : n0 ≤ h0.size) (S_ElementState_ABSENT : Sta Z h0 "com/example/rolling_rung/rollingrung/schema/ElementState" "ABSENT" "Lcom/example/rolling_rung/rollingrung/schema/ElementState;" (.ref r0)) (S_ElementState_DELETE_ONLY : Sta Z h0 "com/example/rolling_rung/rollingrung/schema/ElementState" "DELETE_ONLY" "Lcom/example/rolling_rung/rollingrung/schema/ElementState;" (.ref r1)) (S_ElementState_WRITE_ONLY : Sta Z h0 "com/example/rolling_rung/rollingrung/schema/ElementState" "WRITE_ONLY" "Lcom/example/rolling_rung/rollingrung/schema/ElementState;" (.ref r2)) (S_ElementState_PUBLIC : Sta Z h0 "com/example/rolling_rung/rollingrung/schema/ElementState" "PUBLIC" "Lcom/example/rolling_rung/rollingrung/schema/ElementState;" (.ref r3)) (hn0 : ¬ p = 0) (he : p = 1) :
    MetFree l (⟨"com/example/rolling_rung/rollingrung/schema/FieldSameDefinitionPinLaw", "state", "(I)Lcom/example/rolling_rung/rollingrung/schema/ElementState;"⟩ : MethodName) (head1 (Jvm.Cond.code (⟨"com/example/rolling_rung/rollingrung/schema/FieldSameDefinitionPinLaw", "state", "(I)Lcom/example/rolling_rung/rollingrung/schema/ElementState;"⟩ : MethodName) method_4_code 1 (some (.object "com/example/rolling_rung/rollingrung/schema/ElementState")) :: ws) oR3) (fun aa_ U_ => aa_ = #[(.int p)] ∧ Z.Warmed39 U_.vm ∧ U_.heap = h0) (fun _ _ _ _ _ => True) (fun _ U_ o_ U'_ => ∃ v_ L_, o_ = .returned v_ ∧ Q_sta Z p r0 r1 r2 r3 h0 n0 v_ U'_.heap L_ ∧ FrameEnd U_ o_ U'_ L_ oR3.cells oR3.slots) := by
  refine MetFree.of_bodySF (plainFor_of_name pn_1) hisR ?_
  intro pP eE sS mM argsA below meth cC s₁ Bd hml0 hP hK
  obtain ⟨rfl, hZ, hh⟩ := hP
  have hx := Bd.exec
  have hby := Bd.bytes
  have hml : cC.maxLocals = 1 := hml0
  have hown : sS.vm.findClass "com/example/rolling_rung/rollingrung/schema/FieldSameDefinitionPinLaw" = some mM.cls := findClass_of_methodNamed Bd.named
  have hnm := (name_of_methodNamed Bd.named Bd.method).1
  have X0 : Stand pP l eE oR3 sS mM #[(.int p)] below meth cC s₁ [] 0 0 := Stand.of_body Bd
  have e0 : s₁.heap = h0 := by rw [← hh, Bd.state]; rfl
  have N0 := Fr.nil n0
  have pre0 : ∀ t_, Steps pP.tables eE below (s₁.setTop (mkF mM 0 #[.val (.int p)] [])) t_ → Steps pP.tables eE below (s₁.setTop (entryFrame mM #[(.int p)] 1)) t_ := fun t_ k_ => castTop (ef_sta_1 mM p) k_
  obtain ⟨T_1, X_1, e_1, st_1⟩ := getS2 X0 hx hZ hown (host := "") (Or.inl (ow hw 92 rfl)) Via.refl e0 S_ElementState_DELETE_ONLY (g := (mkF mM 13 #[.val (.int p)] [])) rfl (hb hby d_method_4_13)
  obtain ⟨fs, hr, hrun, hended, hW, hsame⟩ := X_1.leave (v := some (.ref r1)) (fun h => by rw [Bd.returns] at h; cases h)
  refine ⟨_, _, pre0 _ ?_, hrun, hended, _, _, rfl, ?_, ⟨_, rfl⟩, hW, hsame.mono (by decide) (by decide)⟩
  · show oS pP eE below s₁ (mkF mM 0 #[.val (.int p)] []) _
    refine XS.iloadN X0.here hx rfl (hb hby d_method_4_0) rfl ?_
    refine XS.ifYes X0.here hx rfl (pc0 := 1) (pc' := 8) rfl (hb hby d_method_4_1) rfl (XT.i0_ne_t hn0) (by decide) (by decide) ?_
    refine XS.iloadN X0.here hx rfl (hb hby d_method_4_8) rfl ?_
    refine XS.iconst X0.here hx rfl (hb hby d_method_4_9) ?_
    refine XS.icmpNo X0.here hx rfl (hb hby d_method_4_10) rfl (XT.ii_ne_f he) ?_
    show oS pP eE below s₁ (mkF mM 13 #[.val (.int p)] []) _
    refine st_1 _ ?_
    show oS pP eE below T_1 (mkF mM 16 #[.val (.int p)] [(.ref r1)]) _
    exact retOut X_1 hx Bd.returns rfl (Or.inr (Or.inr (Or.inr (Or.inr ⟨rfl, rfl, rfl⟩)))) (hb hby d_method_4_16) hr
  · show Q_sta Z p r0 r1 r2 r3 h0 n0 _ T_1.heap _
    rw [e_1]
    exact ⟨(congrArg (fun z => some (Value.ref z)) (by simp [own_st, hn0, he] : r1 = (own_st p r0 r1 r2 r3))), N0, rfl⟩
theorem d_method_4_17 : decode method_4_code 17 = .ok (.iload_n 0, 1) := by decide +kernel
theorem d_method_4_18 : decode method_4_code 18 = .ok (.iconst 2, 1) := by decide +kernel
theorem d_method_4_19 : decode method_4_code 19 = .ok (.if_icmp .ne 7, 3) := by decide +kernel
theorem d_method_4_22 : decode method_4_code 22 = .ok (.getstatic 51, 3) := by decide +kernel
theorem d_method_4_25 : decode method_4_code 25 = .ok (.areturn, 1) := by decide +kernel
theorem ef_sta_2 (mM : MethodId) (x0 : Int32) : entryFrame mM #[(.int x0)] 1 = mkF mM 0 #[.val (.int x0)] [] := by first | (simp [entryFrame, mkF, argsToLocals, Value.category]; done) | rfl
set_option maxRecDepth 65536 in
set_option maxHeartbeats 40000000 in
theorem rm_sta_2 (l : Launch) (Z : State) (a0 : Array Value) (hw : ∀ d ∈ tables_1, d.before a0 Z = true) (ws : List Jvm.Cond) (p : Int32) (r0 : Addr) (r1 : Addr) (r2 : Addr) (r3 : Addr) (h0 : Heap) (n0 : Nat) (Z0 : n0 ≤ h0.size) (S_ElementState_ABSENT : Sta Z h0 "com/example/rolling_rung/rollingrung/schema/ElementState" "ABSENT" "Lcom/example/rolling_rung/rollingrung/schema/ElementState;" (.ref r0)) (S_ElementState_DELETE_ONLY : Sta Z h0 "com/example/rolling_rung/rollingrung/schema/ElementState" "DELETE_ONLY" "Lcom/example/rolling_rung/rollingrung/schema/ElementState;" (.ref r1)) (S_ElementState_WRITE_ONLY : Sta Z h0 "com/example/rolling_rung/rollingrung/schema/ElementState" "WRITE_ONLY" "Lcom/example/rolling_rung/rollingrung/schema/ElementState;" (.ref r2)) (S_ElementState_PUBLIC : Sta Z h0 "com/example/rolling_rung/rollingrung/schema/ElementState" "PUBLIC" "Lcom/example/rolling_rung/rollingrung/schema/ElementState;" (.ref r3)) (hn0 : ¬ p = 0) (hn1 : ¬ p = 1) (he : p = 2) :
    MetFree l (⟨"com/example/rolling_rung/rollingrung/schema/FieldSameDefinitionPinLaw", "state", "(I)Lcom/example/rolling_rung/rollingrung/schema/ElementState;"⟩ : MethodName) (head1 (Jvm.Cond.code (⟨"com/example/rolling_rung/rollingrung/schema/FieldSameDefinitionPinLaw", "state", "(I)Lcom/example/rolling_rung/rollingrung/schema/ElementState;"⟩ : MethodName) method_4_code 1 (some (.object "com/example/rolling_rung/rollingrung/schema/ElementState")) :: ws) oR3) (fun aa_ U_ => aa_ = #[(.int p)] ∧ Z.Warmed39 U_.vm ∧ U_.heap = h0) (fun _ _ _ _ _ => True) (fun _ U_ o_ U'_ => ∃ v_ L_, o_ = .returned v_ ∧ Q_sta Z p r0 r1 r2 r3 h0 n0 v_ U'_.heap L_ ∧ FrameEnd U_ o_ U'_ L_ oR3.cells oR3.slots) := by
  refine MetFree.of_bodySF (plainFor_of_name pn_1) hisR ?_
  intro pP eE sS mM argsA below meth cC s₁ Bd hml0 hP hK
  obtain ⟨rfl, hZ, hh⟩ := hP
  have hx := Bd.exec
  have hby := Bd.bytes
  have hml : cC.maxLocals = 1 := hml0
  have hown : sS.vm.findClass "com/example/rolling_rung/rollingrung/schema/FieldSameDefinitionPinLaw" = some mM.cls := findClass_of_methodNamed Bd.named
  have hnm := (name_of_methodNamed Bd.named Bd.method).1
  have X0 : Stand pP l eE oR3 sS mM #[(.int p)] below meth cC s₁ [] 0 0 := Stand.of_body Bd
  have e0 : s₁.heap = h0 := by rw [← hh, Bd.state]; rfl
  have N0 := Fr.nil n0
  have pre0 : ∀ t_, Steps pP.tables eE below (s₁.setTop (mkF mM 0 #[.val (.int p)] [])) t_ → Steps pP.tables eE below (s₁.setTop (entryFrame mM #[(.int p)] 1)) t_ := fun t_ k_ => castTop (ef_sta_2 mM p) k_
  obtain ⟨T_1, X_1, e_1, st_1⟩ := getS2 X0 hx hZ hown (host := "") (Or.inl (ow hw 41 rfl)) Via.refl e0 S_ElementState_WRITE_ONLY (g := (mkF mM 22 #[.val (.int p)] [])) rfl (hb hby d_method_4_22)
  obtain ⟨fs, hr, hrun, hended, hW, hsame⟩ := X_1.leave (v := some (.ref r2)) (fun h => by rw [Bd.returns] at h; cases h)
  refine ⟨_, _, pre0 _ ?_, hrun, hended, _, _, rfl, ?_, ⟨_, rfl⟩, hW, hsame.mono (by decide) (by decide)⟩
  · show oS pP eE below s₁ (mkF mM 0 #[.val (.int p)] []) _
    refine XS.iloadN X0.here hx rfl (hb hby d_method_4_0) rfl ?_
    refine XS.ifYes X0.here hx rfl (pc0 := 1) (pc' := 8) rfl (hb hby d_method_4_1) rfl (XT.i0_ne_t hn0) (by decide) (by decide) ?_
    refine XS.iloadN X0.here hx rfl (hb hby d_method_4_8) rfl ?_
    refine XS.iconst X0.here hx rfl (hb hby d_method_4_9) ?_
    refine XS.icmpYes X0.here hx rfl (pc0 := 10) (pc' := 17) rfl (hb hby d_method_4_10) rfl (XT.ii_ne_t hn1) (by decide) (by decide) ?_
    refine XS.iloadN X0.here hx rfl (hb hby d_method_4_17) rfl ?_
    refine XS.iconst X0.here hx rfl (hb hby d_method_4_18) ?_
    refine XS.icmpNo X0.here hx rfl (hb hby d_method_4_19) rfl (XT.ii_ne_f he) ?_
    show oS pP eE below s₁ (mkF mM 22 #[.val (.int p)] []) _
    refine st_1 _ ?_
    show oS pP eE below T_1 (mkF mM 25 #[.val (.int p)] [(.ref r2)]) _
    exact retOut X_1 hx Bd.returns rfl (Or.inr (Or.inr (Or.inr (Or.inr ⟨rfl, rfl, rfl⟩)))) (hb hby d_method_4_25) hr
  · show Q_sta Z p r0 r1 r2 r3 h0 n0 _ T_1.heap _
    rw [e_1]
    exact ⟨(congrArg (fun z => some (Value.ref z)) (by simp [own_st, hn0, hn1, he] : r2 = (own_st p r0 r1 r2 r3))), N0, rfl⟩
theorem d_method_4_26 : decode method_4_code 26 = .ok (.getstatic 54, 3) := by decide +kernel
theorem d_method_4_29 : decode method_4_code 29 = .ok (.areturn, 1) := by decide +kernel
theorem ef_sta_3 (mM : MethodId) (x0 : Int32) : entryFrame mM #[(.int x0)] 1 = mkF mM 0 #[.val (.int x0)] [] := by first | (simp [entryFrame, mkF, argsToLocals, Value.category]; done) | rfl
set_option maxRecDepth 65536 in
set_option maxHeartbeats 40000000 in
theorem rm_sta_3 (l : Launch) (Z : State) (a0 : Array Value) (hw : ∀ d ∈ tables_1, d.before a0 Z = true) (ws : List Jvm.Cond) (p : Int32) (r0 : Addr) (r1 : Addr) (r2 : Addr) (r3 : Addr) (h0 : Heap) (n0 : Nat) (Z0 : n0 ≤ h0.size) (S_ElementState_ABSENT : Sta Z h0 "com/example/rolling_rung/rollingrung/schema/ElementState" "ABSENT" "Lcom/example/rolling_rung/rollingrung/schema/ElementState;" (.ref r0)) (S_ElementState_DELETE_ONLY : Sta Z h0 "com/example/rolling_rung/rollingrung/schema/ElementState" "DELETE_ONLY" "Lcom/example/rolling_rung/rollingrung/schema/ElementState;" (.ref r1)) (S_ElementState_WRITE_ONLY : Sta Z h0 "com/example/rolling_rung/rollingrung/schema/ElementState" "WRITE_ONLY" "Lcom/example/rolling_rung/rollingrung/schema/ElementState;" (.ref r2)) (S_ElementState_PUBLIC : Sta Z h0 "com/example/rolling_rung/rollingrung/schema/ElementState" "PUBLIC" "Lcom/example/rolling_rung/rollingrung/schema/ElementState;" (.ref r3)) (hn0 : ¬ p = 0) (hn1 : ¬ p = 1) (hn2 : ¬ p = 2) :
    MetFree l (⟨"com/example/rolling_rung/rollingrung/schema/FieldSameDefinitionPinLaw", "state", "(I)Lcom/example/rolling_rung/rollingrung/schema/ElementState;"⟩ : MethodName) (head1 (Jvm.Cond.code (⟨"com/example/rolling_rung/rollingrung/schema/FieldSameDefinitionPinLaw", "state", "(I)Lcom/example/rolling_rung/rollingrung/schema/ElementState;"⟩ : MethodName) method_4_code 1 (some (.object "com/example/rolling_rung/rollingrung/schema/ElementState")) :: ws) oR3) (fun aa_ U_ => aa_ = #[(.int p)] ∧ Z.Warmed39 U_.vm ∧ U_.heap = h0) (fun _ _ _ _ _ => True) (fun _ U_ o_ U'_ => ∃ v_ L_, o_ = .returned v_ ∧ Q_sta Z p r0 r1 r2 r3 h0 n0 v_ U'_.heap L_ ∧ FrameEnd U_ o_ U'_ L_ oR3.cells oR3.slots) := by
  refine MetFree.of_bodySF (plainFor_of_name pn_1) hisR ?_
  intro pP eE sS mM argsA below meth cC s₁ Bd hml0 hP hK
  obtain ⟨rfl, hZ, hh⟩ := hP
  have hx := Bd.exec
  have hby := Bd.bytes
  have hml : cC.maxLocals = 1 := hml0
  have hown : sS.vm.findClass "com/example/rolling_rung/rollingrung/schema/FieldSameDefinitionPinLaw" = some mM.cls := findClass_of_methodNamed Bd.named
  have hnm := (name_of_methodNamed Bd.named Bd.method).1
  have X0 : Stand pP l eE oR3 sS mM #[(.int p)] below meth cC s₁ [] 0 0 := Stand.of_body Bd
  have e0 : s₁.heap = h0 := by rw [← hh, Bd.state]; rfl
  have N0 := Fr.nil n0
  have pre0 : ∀ t_, Steps pP.tables eE below (s₁.setTop (mkF mM 0 #[.val (.int p)] [])) t_ → Steps pP.tables eE below (s₁.setTop (entryFrame mM #[(.int p)] 1)) t_ := fun t_ k_ => castTop (ef_sta_3 mM p) k_
  obtain ⟨T_1, X_1, e_1, st_1⟩ := getS2 X0 hx hZ hown (host := "") (Or.inl (ow hw 110 rfl)) Via.refl e0 S_ElementState_PUBLIC (g := (mkF mM 26 #[.val (.int p)] [])) rfl (hb hby d_method_4_26)
  obtain ⟨fs, hr, hrun, hended, hW, hsame⟩ := X_1.leave (v := some (.ref r3)) (fun h => by rw [Bd.returns] at h; cases h)
  refine ⟨_, _, pre0 _ ?_, hrun, hended, _, _, rfl, ?_, ⟨_, rfl⟩, hW, hsame.mono (by decide) (by decide)⟩
  · show oS pP eE below s₁ (mkF mM 0 #[.val (.int p)] []) _
    refine XS.iloadN X0.here hx rfl (hb hby d_method_4_0) rfl ?_
    refine XS.ifYes X0.here hx rfl (pc0 := 1) (pc' := 8) rfl (hb hby d_method_4_1) rfl (XT.i0_ne_t hn0) (by decide) (by decide) ?_
    refine XS.iloadN X0.here hx rfl (hb hby d_method_4_8) rfl ?_
    refine XS.iconst X0.here hx rfl (hb hby d_method_4_9) ?_
    refine XS.icmpYes X0.here hx rfl (pc0 := 10) (pc' := 17) rfl (hb hby d_method_4_10) rfl (XT.ii_ne_t hn1) (by decide) (by decide) ?_
    refine XS.iloadN X0.here hx rfl (hb hby d_method_4_17) rfl ?_
    refine XS.iconst X0.here hx rfl (hb hby d_method_4_18) ?_
    refine XS.icmpYes X0.here hx rfl (pc0 := 19) (pc' := 26) rfl (hb hby d_method_4_19) rfl (XT.ii_ne_t hn2) (by decide) (by decide) ?_
    show oS pP eE below s₁ (mkF mM 26 #[.val (.int p)] []) _
    refine st_1 _ ?_
    show oS pP eE below T_1 (mkF mM 29 #[.val (.int p)] [(.ref r3)]) _
    exact retOut X_1 hx Bd.returns rfl (Or.inr (Or.inr (Or.inr (Or.inr ⟨rfl, rfl, rfl⟩)))) (hb hby d_method_4_29) hr
  · show Q_sta Z p r0 r1 r2 r3 h0 n0 _ T_1.heap _
    rw [e_1]
    exact ⟨(congrArg (fun z => some (Value.ref z)) (by simp [own_st, hn0, hn1, hn2] : r3 = (own_st p r0 r1 r2 r3))), N0, rfl⟩
set_option maxRecDepth 65536 in
set_option maxHeartbeats 40000000 in
theorem rm_sta (l : Launch) (Z : State) (a0 : Array Value) (hw : ∀ d ∈ tables_1, d.before a0 Z = true) (ws : List Jvm.Cond) (p : Int32) (r0 : Addr) (r1 : Addr) (r2 : Addr) (r3 : Addr) (h0 : Heap) (n0 : Nat) (Z0 : n0 ≤ h0.size) (S_ElementState_ABSENT : Sta Z h0 "com/example/rolling_rung/rollingrung/schema/ElementState" "ABSENT" "Lcom/example/rolling_rung/rollingrung/schema/ElementState;" (.ref r0)) (S_ElementState_DELETE_ONLY : Sta Z h0 "com/example/rolling_rung/rollingrung/schema/ElementState" "DELETE_ONLY" "Lcom/example/rolling_rung/rollingrung/schema/ElementState;" (.ref r1)) (S_ElementState_WRITE_ONLY : Sta Z h0 "com/example/rolling_rung/rollingrung/schema/ElementState" "WRITE_ONLY" "Lcom/example/rolling_rung/rollingrung/schema/ElementState;" (.ref r2)) (S_ElementState_PUBLIC : Sta Z h0 "com/example/rolling_rung/rollingrung/schema/ElementState" "PUBLIC" "Lcom/example/rolling_rung/rollingrung/schema/ElementState;" (.ref r3)) :
    MetFree l (⟨"com/example/rolling_rung/rollingrung/schema/FieldSameDefinitionPinLaw", "state", "(I)Lcom/example/rolling_rung/rollingrung/schema/ElementState;"⟩ : MethodName) (head1 (Jvm.Cond.code (⟨"com/example/rolling_rung/rollingrung/schema/FieldSameDefinitionPinLaw", "state", "(I)Lcom/example/rolling_rung/rollingrung/schema/ElementState;"⟩ : MethodName) method_4_code 1 (some (.object "com/example/rolling_rung/rollingrung/schema/ElementState")) :: ws) oR3) (fun aa_ U_ => aa_ = #[(.int p)] ∧ Z.Warmed39 U_.vm ∧ U_.heap = h0) (fun _ _ _ _ _ => True) (fun _ U_ o_ U'_ => ∃ v_ L_, o_ = .returned v_ ∧ Q_sta Z p r0 r1 r2 r3 h0 n0 v_ U'_.heap L_ ∧ FrameEnd U_ o_ U'_ L_ oR3.cells oR3.slots) := by
  by_cases he : p = 0
  · exact rm_sta_0 l Z a0 hw ws p r0 r1 r2 r3 h0 n0 Z0 S_ElementState_ABSENT S_ElementState_DELETE_ONLY S_ElementState_WRITE_ONLY S_ElementState_PUBLIC  he
  · have hn0 := he
    by_cases he : p = 1
    · exact rm_sta_1 l Z a0 hw ws p r0 r1 r2 r3 h0 n0 Z0 S_ElementState_ABSENT S_ElementState_DELETE_ONLY S_ElementState_WRITE_ONLY S_ElementState_PUBLIC hn0 he
    · have hn1 := he
      by_cases he : p = 2
      · exact rm_sta_2 l Z a0 hw ws p r0 r1 r2 r3 h0 n0 Z0 S_ElementState_ABSENT S_ElementState_DELETE_ONLY S_ElementState_WRITE_ONLY S_ElementState_PUBLIC hn0 hn1 he
      · have hn2 := he
        exact rm_sta_3 l Z a0 hw ws p r0 r1 r2 r3 h0 n0 Z0 S_ElementState_ABSENT S_ElementState_DELETE_ONLY S_ElementState_WRITE_ONLY S_ElementState_PUBLIC hn0 hn1 hn2
theorem d_jdk_30m1_0 : decode jdk_30_method_1_code 0 = .ok (.aload_n 0, 1) := by decide +kernel
theorem d_jdk_30m1_1 : decode jdk_30_method_1_code 1 = .ok (.invokespecial 1, 3) := by decide +kernel
theorem d_jdk_30m1_4 : decode jdk_30_method_1_code 4 = .ok (.return_, 1) := by decide +kernel
theorem pn_3 : plainName "java/lang/Record" = true := by first | (simp [plainName, overriddenIn]; done) | decide +kernel
theorem ef_rec (mM : MethodId) (x0 : Addr) : entryFrame mM #[(.ref x0)] 1 = mkF mM 0 #[.val (.ref x0)] [] := by first | (simp [entryFrame, mkF, argsToLocals, Value.category]; done) | rfl
def Q_rec (Z : State) (a : Addr) (h0 : Heap) (n0 : Nat) (v_ : Option Value) (h_ : Heap) (L_ : List Loc) : Prop := v_ = none ∧ Fr n0 L_ ∧ h_ = h0
set_option maxRecDepth 65536 in
set_option maxHeartbeats 40000000 in
theorem rm_rec (l : Launch) (Z : State) (a0 : Array Value) (hw : ∀ d ∈ tables_1, d.before a0 Z = true) (ws : List Jvm.Cond) (a : Addr) (h0 : Heap) (n0 : Nat) (Z0 : n0 ≤ h0.size) :
    MetFree l (⟨"java/lang/Record", "<init>", "()V"⟩ : MethodName) (head1 (Jvm.Cond.code (⟨"java/lang/Record", "<init>", "()V"⟩ : MethodName) jdk_30_method_1_code 1 none :: ws) oR12) (fun aa_ U_ => aa_ = #[(.ref a)] ∧ Z.Warmed39 U_.vm ∧ U_.heap = h0) (fun _ _ _ _ _ => True) (fun _ U_ o_ U'_ => ∃ v_ L_, o_ = .returned v_ ∧ Q_rec Z a h0 n0 v_ U'_.heap L_ ∧ FrameEnd U_ o_ U'_ L_ oR12.cells oR12.slots) := by
  refine MetFree.of_bodySF (plainFor_of_name pn_3) hisR ?_
  intro pP eE sS mM argsA below meth cC s₁ Bd hml0 hP hK
  obtain ⟨rfl, hZ, hh⟩ := hP
  have hx := Bd.exec
  have hby := Bd.bytes
  have hml : cC.maxLocals = 1 := hml0
  have hown : sS.vm.findClass "java/lang/Record" = some mM.cls := findClass_of_methodNamed Bd.named
  have hnm := (name_of_methodNamed Bd.named Bd.method).1
  have X0 : Stand pP l eE oR12 sS mM #[(.ref a)] below meth cC s₁ [] 0 0 := Stand.of_body Bd
  have e0 : s₁.heap = h0 := by rw [← hh, Bd.state]; rfl
  have N0 := Fr.nil n0
  have pre0 : ∀ t_, Steps pP.tables eE below (s₁.setTop (mkF mM 0 #[.val (.ref a)] [])) t_ → Steps pP.tables eE below (s₁.setTop (entryFrame mM #[(.ref a)] 1)) t_ := fun t_ k_ => castTop (ef_rec mM a) k_
  obtain ⟨T_1, X_1, e_1, st_1⟩ := initO X0 hx hZ hown (ow hw 52 rfl) (ow hw 22 rfl) (ow hw 23 rfl) e0 (g := (mkF mM 1 #[.val (.ref a)] [(.ref a)])) rfl (by rw [hml]; rfl) rfl (hb hby d_jdk_30m1_1) (by decide) (W := 0) (by show 2 * 0 + _ ≤ _; exact Nat.le_of_eq rfl) (by decide)
  obtain ⟨fs, hr, hrun, hended, hW, hsame⟩ := X_1.leave (v := none) (fun _ => rfl)
  refine ⟨_, _, pre0 _ ?_, hrun, hended, _, _, rfl, ?_, ⟨_, rfl⟩, hW, hsame.mono (by decide) (by decide)⟩
  · show oS pP eE below s₁ (mkF mM 0 #[.val (.ref a)] []) _
    refine XS.aloadN X0.here hx rfl (hb hby d_jdk_30m1_0) rfl rfl ?_
    show oS pP eE below s₁ (mkF mM 1 #[.val (.ref a)] [(.ref a)]) _
    refine st_1 _ ?_
    show oS pP eE below T_1 (mkF mM 4 #[.val (.ref a)] []) _
    exact X_1.returnOut hx Bd.returns (hb hby d_jdk_30m1_4) hr
  · show Q_rec Z a h0 n0 _ T_1.heap _
    rw [e_1]
    exact ⟨rfl, N0, rfl⟩
theorem d_jdk_31m11_0 : decode jdk_31_method_11_code 0 = .ok (.aload_n 0, 1) := by decide +kernel
theorem d_jdk_31m11_1 : decode jdk_31_method_11_code 1 = .ok (.ifnonnull 12, 3) := by decide +kernel
theorem d_jdk_31m11_13 : decode jdk_31_method_11_code 13 = .ok (.aload_n 0, 1) := by decide +kernel
theorem d_jdk_31m11_14 : decode jdk_31_method_11_code 14 = .ok (.areturn, 1) := by decide +kernel
theorem pn_4 : plainName "java/util/Objects" = true := by first | (simp [plainName, overriddenIn]; done) | decide +kernel
theorem ef_rnn (mM : MethodId) (x0 : Addr) (x1 : Addr) : entryFrame mM #[(.ref x0), (.ref x1)] 2 = mkF mM 0 #[.val (.ref x0), .val (.ref x1)] [] := by first | (simp [entryFrame, mkF, argsToLocals, Value.category]; done) | rfl
def Q_rnn (Z : State) (a : Addr) (b : Addr) (h0 : Heap) (n0 : Nat) (v_ : Option Value) (h_ : Heap) (L_ : List Loc) : Prop := v_ = some (.ref a) ∧ Fr n0 L_ ∧ h_ = h0
set_option maxRecDepth 65536 in
set_option maxHeartbeats 40000000 in
theorem rm_rnn (l : Launch) (Z : State) (a0 : Array Value) (hw : ∀ d ∈ tables_1, d.before a0 Z = true) (ws : List Jvm.Cond) (a : Addr) (b : Addr) (h0 : Heap) (n0 : Nat) (Z0 : n0 ≤ h0.size) :
    MetFree l (⟨"java/util/Objects", "requireNonNull", "(Ljava/lang/Object;Ljava/lang/String;)Ljava/lang/Object;"⟩ : MethodName) (head1 (Jvm.Cond.code (⟨"java/util/Objects", "requireNonNull", "(Ljava/lang/Object;Ljava/lang/String;)Ljava/lang/Object;"⟩ : MethodName) jdk_31_method_11_code 2 (some (.object "java/lang/Object")) :: ws) oR3) (fun aa_ U_ => aa_ = #[(.ref a), (.ref b)] ∧ Z.Warmed39 U_.vm ∧ U_.heap = h0) (fun _ _ _ _ _ => True) (fun _ U_ o_ U'_ => ∃ v_ L_, o_ = .returned v_ ∧ Q_rnn Z a b h0 n0 v_ U'_.heap L_ ∧ FrameEnd U_ o_ U'_ L_ oR3.cells oR3.slots) := by
  refine MetFree.of_bodySF (plainFor_of_name pn_4) hisR ?_
  intro pP eE sS mM argsA below meth cC s₁ Bd hml0 hP hK
  obtain ⟨rfl, hZ, hh⟩ := hP
  have hx := Bd.exec
  have hby := Bd.bytes
  have hml : cC.maxLocals = 2 := hml0
  have hown : sS.vm.findClass "java/util/Objects" = some mM.cls := findClass_of_methodNamed Bd.named
  have hnm := (name_of_methodNamed Bd.named Bd.method).1
  have X0 : Stand pP l eE oR3 sS mM #[(.ref a), (.ref b)] below meth cC s₁ [] 0 0 := Stand.of_body Bd
  have e0 : s₁.heap = h0 := by rw [← hh, Bd.state]; rfl
  have N0 := Fr.nil n0
  have pre0 : ∀ t_, Steps pP.tables eE below (s₁.setTop (mkF mM 0 #[.val (.ref a), .val (.ref b)] [])) t_ → Steps pP.tables eE below (s₁.setTop (entryFrame mM #[(.ref a), (.ref b)] 2)) t_ := fun t_ k_ => castTop (ef_rnn mM a b) k_
  obtain ⟨fs, hr, hrun, hended, hW, hsame⟩ := X0.leave (v := some (.ref a)) (fun h => by rw [Bd.returns] at h; cases h)
  refine ⟨_, _, pre0 _ ?_, hrun, hended, _, _, rfl, ?_, ⟨_, rfl⟩, hW, hsame.mono (by decide) (by decide)⟩
  · show oS pP eE below s₁ (mkF mM 0 #[.val (.ref a), .val (.ref b)] []) _
    refine XS.aloadN X0.here hx rfl (hb hby d_jdk_31m11_0) rfl rfl ?_
    show oS pP eE below s₁ (mkF mM 1 #[.val (.ref a), .val (.ref b)] [(.ref a)]) _
    refine XT.ifnonnullYes X0.here hx rfl (pc0 := 1) (pc' := 13) rfl (hb hby d_jdk_31m11_1) rfl (by decide) (by decide) ?_
    refine XS.aloadN X0.here hx rfl (hb hby d_jdk_31m11_13) rfl rfl ?_
    show oS pP eE below s₁ (mkF mM 14 #[.val (.ref a), .val (.ref b)] [(.ref a)]) _
    exact retOut X0 hx Bd.returns rfl (Or.inr (Or.inr (Or.inr (Or.inr ⟨rfl, rfl, rfl⟩)))) (hb hby d_jdk_31m11_14) hr
  · show Q_rnn Z a b h0 n0 _ s₁.heap _
    rw [e0]
    exact ⟨rfl, N0, rfl⟩
abbrev lc35 (a : Addr) (nm : Addr) (num : Int32) (ty : Addr) (rq : Int32) (rp : Int32) (stt : Addr) : Array Slot := #[.val (.ref a), .val (.ref nm), .val (.int num), .val (.ref ty), .val (.int rq), .val (.int rp), .val (.ref stt)]
theorem d_prog_32m1_0 : decode prog_32_method_1_code 0 = .ok (.aload_n 0, 1) := by decide +kernel
theorem d_prog_32m1_1 : decode prog_32_method_1_code 1 = .ok (.invokespecial 1, 3) := by decide +kernel
theorem pd_5 : parseMethodDescriptor "()V" = some ⟨[], none⟩ := by decide +kernel
abbrev MN5 : MethodName := ⟨"java/lang/Record", "<init>", "()V"⟩
theorem d_prog_32m1_4 : decode prog_32_method_1_code 4 = .ok (.aload_n 1, 1) := by decide +kernel
theorem d_prog_32m1_5 : decode prog_32_method_1_code 5 = .ok (.ldc 7, 2) := by decide +kernel
theorem d_prog_32m1_7 : decode prog_32_method_1_code 7 = .ok (.invokestatic 9, 3) := by decide +kernel
theorem pd_6 : parseMethodDescriptor "(Ljava/lang/Object;Ljava/lang/String;)Ljava/lang/Object;" = some ⟨[(.object "java/lang/Object"), (.object "java/lang/String")], some (.object "java/lang/Object")⟩ := by decide +kernel
abbrev MN6 : MethodName := ⟨"java/util/Objects", "requireNonNull", "(Ljava/lang/Object;Ljava/lang/String;)Ljava/lang/Object;"⟩
theorem d_prog_32m1_10 : decode prog_32_method_1_code 10 = .ok (.pop, 1) := by decide +kernel
theorem d_prog_32m1_11 : decode prog_32_method_1_code 11 = .ok (.aload_n 3, 1) := by decide +kernel
theorem d_prog_32m1_12 : decode prog_32_method_1_code 12 = .ok (.ldc 15, 2) := by decide +kernel
theorem d_prog_32m1_14 : decode prog_32_method_1_code 14 = .ok (.invokestatic 9, 3) := by decide +kernel
theorem d_prog_32m1_17 : decode prog_32_method_1_code 17 = .ok (.pop, 1) := by decide +kernel
theorem d_prog_32m1_18 : decode prog_32_method_1_code 18 = .ok (.aload 6, 2) := by decide +kernel
theorem d_prog_32m1_20 : decode prog_32_method_1_code 20 = .ok (.ldc 17, 2) := by decide +kernel
theorem d_prog_32m1_22 : decode prog_32_method_1_code 22 = .ok (.invokestatic 9, 3) := by decide +kernel
theorem d_prog_32m1_25 : decode prog_32_method_1_code 25 = .ok (.pop, 1) := by decide +kernel
theorem d_prog_32m1_26 : decode prog_32_method_1_code 26 = .ok (.aload_n 0, 1) := by decide +kernel
theorem d_prog_32m1_27 : decode prog_32_method_1_code 27 = .ok (.aload_n 1, 1) := by decide +kernel
theorem d_prog_32m1_28 : decode prog_32_method_1_code 28 = .ok (.putfield 19, 3) := by decide +kernel
theorem d_prog_32m1_31 : decode prog_32_method_1_code 31 = .ok (.aload_n 0, 1) := by decide +kernel
theorem d_prog_32m1_32 : decode prog_32_method_1_code 32 = .ok (.iload_n 2, 1) := by decide +kernel
theorem d_prog_32m1_33 : decode prog_32_method_1_code 33 = .ok (.putfield 24, 3) := by decide +kernel
theorem d_prog_32m1_36 : decode prog_32_method_1_code 36 = .ok (.aload_n 0, 1) := by decide +kernel
theorem d_prog_32m1_37 : decode prog_32_method_1_code 37 = .ok (.aload_n 3, 1) := by decide +kernel
theorem d_prog_32m1_38 : decode prog_32_method_1_code 38 = .ok (.putfield 28, 3) := by decide +kernel
theorem d_prog_32m1_41 : decode prog_32_method_1_code 41 = .ok (.aload_n 0, 1) := by decide +kernel
theorem d_prog_32m1_42 : decode prog_32_method_1_code 42 = .ok (.iload 4, 2) := by decide +kernel
theorem d_prog_32m1_44 : decode prog_32_method_1_code 44 = .ok (.putfield 31, 3) := by decide +kernel
theorem d_prog_32m1_47 : decode prog_32_method_1_code 47 = .ok (.aload_n 0, 1) := by decide +kernel
theorem d_prog_32m1_48 : decode prog_32_method_1_code 48 = .ok (.iload 5, 2) := by decide +kernel
theorem d_prog_32m1_50 : decode prog_32_method_1_code 50 = .ok (.putfield 35, 3) := by decide +kernel
theorem d_prog_32m1_53 : decode prog_32_method_1_code 53 = .ok (.aload_n 0, 1) := by decide +kernel
theorem d_prog_32m1_54 : decode prog_32_method_1_code 54 = .ok (.aload 6, 2) := by decide +kernel
theorem d_prog_32m1_56 : decode prog_32_method_1_code 56 = .ok (.putfield 38, 3) := by decide +kernel
theorem d_prog_32m1_59 : decode prog_32_method_1_code 59 = .ok (.return_, 1) := by decide +kernel
theorem pn_5 : plainName "com/example/rolling_rung/rollingrung/schema/Field" = true := by first | (simp [plainName, overriddenIn]; done) | decide +kernel
theorem ef_fini (mM : MethodId) (x0 : Addr) (x1 : Addr) (x2 : Int32) (x3 : Addr) (x4 : Int32) (x5 : Int32) (x6 : Addr) : entryFrame mM #[(.ref x0), (.ref x1), (.int x2), (.ref x3), (.int x4), (.int x5), (.ref x6)] 7 = mkF mM 0 #[.val (.ref x0), .val (.ref x1), .val (.int x2), .val (.ref x3), .val (.int x4), .val (.int x5), .val (.ref x6)] [] := by first | (simp [entryFrame, mkF, argsToLocals, Value.category]; done) | rfl
def Q_fini (Z : State) (a : Addr) (nm : Addr) (num : Int32) (ty : Addr) (rq : Int32) (rp : Int32) (stt : Addr) (h0 : Heap) (n0 : Nat) (v_ : Option Value) (h_ : Heap) (L_ : List Loc) : Prop := v_ = none ∧ Fr n0 L_ ∧ Keep h0 h_ [a] ∧ Fld Z h_ a "com/example/rolling_rung/rollingrung/schema/Field" "name" "Ljava/lang/String;" (.ref nm) ∧ Fld Z h_ a "com/example/rolling_rung/rollingrung/schema/Field" "number" "I" (.int num) ∧ Fld Z h_ a "com/example/rolling_rung/rollingrung/schema/Field" "type" "Lcom/example/rolling_rung/rollingrung/schema/FieldType;" (.ref ty) ∧ Fld Z h_ a "com/example/rolling_rung/rollingrung/schema/Field" "required" "Z" (.int (nar .boolean rq)) ∧ Fld Z h_ a "com/example/rolling_rung/rollingrung/schema/Field" "repeated" "Z" (.int (nar .boolean rp)) ∧ Fld Z h_ a "com/example/rolling_rung/rollingrung/schema/Field" "state" "Lcom/example/rolling_rung/rollingrung/schema/ElementState;" (.ref stt) ∧ Exa Z h_ a "com/example/rolling_rung/rollingrung/schema/Field"
set_option maxRecDepth 65536 in
set_option maxHeartbeats 40000000 in
theorem rm_fini (l : Launch) (Z : State) (a0 : Array Value) (hw : ∀ d ∈ tables_1, d.before a0 Z = true) (ws : List Jvm.Cond) (a : Addr) (nm : Addr) (num : Int32) (ty : Addr) (rq : Int32) (rp : Int32) (stt : Addr) (h0 : Heap) (n0 : Nat) (Z0 : n0 ≤ h0.size) (F_name_a : Fld Z h0 a "com/example/rolling_rung/rollingrung/schema/Field" "name" "Ljava/lang/String;" .null) (F_number_a : Fld Z h0 a "com/example/rolling_rung/rollingrung/schema/Field" "number" "I" (.int (0 : Int32))) (F_type_a : Fld Z h0 a "com/example/rolling_rung/rollingrung/schema/Field" "type" "Lcom/example/rolling_rung/rollingrung/schema/FieldType;" .null) (F_required_a : Fld Z h0 a "com/example/rolling_rung/rollingrung/schema/Field" "required" "Z" (.int (0 : Int32))) (F_repeated_a : Fld Z h0 a "com/example/rolling_rung/rollingrung/schema/Field" "repeated" "Z" (.int (0 : Int32))) (F_state_a : Fld Z h0 a "com/example/rolling_rung/rollingrung/schema/Field" "state" "Lcom/example/rolling_rung/rollingrung/schema/ElementState;" .null) (E_a : Exa Z h0 a "com/example/rolling_rung/rollingrung/schema/Field") (g_a : n0 ≤ a) :
    MetFree l (⟨"com/example/rolling_rung/rollingrung/schema/Field", "<init>", "(Ljava/lang/String;ILcom/example/rolling_rung/rollingrung/schema/FieldType;ZZLcom/example/rolling_rung/rollingrung/schema/ElementState;)V"⟩ : MethodName) (head1 (Jvm.Cond.code (⟨"com/example/rolling_rung/rollingrung/schema/Field", "<init>", "(Ljava/lang/String;ILcom/example/rolling_rung/rollingrung/schema/FieldType;ZZLcom/example/rolling_rung/rollingrung/schema/ElementState;)V"⟩ : MethodName) prog_32_method_1_code 7 none :: ws) oR13) (fun aa_ U_ => aa_ = #[(.ref a), (.ref nm), (.int num), (.ref ty), (.int rq), (.int rp), (.ref stt)] ∧ Z.Warmed39 U_.vm ∧ U_.heap = h0 ∧ CHv Z own_EL U_.vm h0) (fun _ _ _ _ _ => True) (fun _ U_ o_ U'_ => ∃ v_ L_, o_ = .returned v_ ∧ Q_fini Z a nm num ty rq rp stt h0 n0 v_ U'_.heap L_ ∧ CHr Z own_EL U_.vm U_.heap U'_.vm U'_.heap ∧ ReturnedEndW U_ o_ U'_ L_ oR13.cells oR13.slots) := by
  refine MetFree.of_bodySF (plainFor_of_name pn_5) hisR ?_
  intro pP eE sS mM argsA below meth cC s₁ Bd hml0 hP hK
  obtain ⟨rfl, hZ, hh, hCH⟩ := hP
  have hx := Bd.exec
  have hby := Bd.bytes
  have hml : cC.maxLocals = 7 := hml0
  have hown : sS.vm.findClass "com/example/rolling_rung/rollingrung/schema/Field" = some mM.cls := findClass_of_methodNamed Bd.named
  have hnm := (name_of_methodNamed Bd.named Bd.method).1
  have X0 : Stand pP l eE oR13 (sS.setVm sS.vm) mM #[(.ref a), (.ref nm), (.int num), (.ref ty), (.int rq), (.int rp), (.ref stt)] below meth cC s₁ [] 0 0 := Stand.of_body Bd
  have e0 : s₁.heap = h0 := by rw [← hh, Bd.state]; rfl
  have N0 := Fr.nil n0
  have pre0 : ∀ t_, Steps pP.tables eE below (s₁.setTop (mkF mM 0 #[.val (.ref a), .val (.ref nm), .val (.int num), .val (.ref ty), .val (.int rq), .val (.int rp), .val (.ref stt)] [])) t_ → Steps pP.tables eE below (s₁.setTop (entryFrame mM #[(.ref a), (.ref nm), (.int num), (.ref ty), (.int rq), (.int rp), (.ref stt)] 7)) t_ := fun t_ k_ => castTop (ef_fini mM a nm num ty rq rp stt) k_
  have hZ : Z.Warmed39 (sS.setVm sS.vm).vm := hZ
  have hown : (sS.setVm sS.vm).vm.findClass "com/example/rolling_rung/rollingrung/schema/Field" = some mM.cls := hown
  have hS0 : sS.Since sS.vm 0 := (State.WarmedH.refl sS).since 0
  have hk0 : 0 ≤ h0.size := Nat.zero_le _
  have CR0 := CHr.refl hCH
  obtain ⟨_, _, ⟨T_1, L_1, k_1, n_1⟩, -, X_1, ⟨Lc_1, hQ_1, l_1, y_1, z_1⟩, st_1⟩ := X0.specialBack hx (y := MN5) rfl hown (mvT hZ (ow hw 47 rfl)) (mvT hZ (ow hw 48 rfl)) (mvT hZ (ow hw 51 rfl)) (by decide) (backOf (W := 0) (rm_rec l Z a0 hw [] a h0 n0 Z0 ) hZ (ow hw 51 rfl) (ow hw 50 rfl) (by decide) (by decide)) (g := (mkF mM 1 (lc35 a nm num ty rq rp stt) [(.ref a)])) rfl (by rw [hml]; rfl) (Steps.refl _) (a := a) (argsL := []) (rest := []) (lenOf pd_5 rfl) rfl (by show 2 * 0 + _ ≤ _; exact Nat.le_of_eq rfl) (hb hby d_prog_32m1_1) (fun _ _ => ⟨rfl, e0, (by decide : 0 + 0 ≤ _), (by decide : 0 + 0 ≤ _)⟩)
  dsimp only [Pt.U, Pt.locs, Pt.cells, Pt.slots] at X_1 l_1 y_1 z_1 st_1 hQ_1
  subst l_1 y_1 z_1
  obtain ⟨rfl, N_1q, eh_1⟩ := hQ_1
  have N_1 := Fr.app N0 N_1q
  obtain ⟨a_2, T_2, h_2, k_2, X_2, e_2, E_2, hS_2, hk_2, hZ_2, hown_2, CH_2, -, st_2⟩ := ldcOH X_1 hx hZ hown (ow hw 53 rfl) (own_wS hw) eh_1 hS0 hk0 (own_EW hw) CR0.1 (g := (mkF mM 5 (lc35 a nm num ty rq rp stt) [(.ref nm)])) rfl (hb hby d_prog_32m1_5) (n := 16) (by decide) (by decide) (by decide) (by decide)
  have Z_2 : n0 ≤ h_2.size := (Nat.le_trans Z0 E_2.1)
  have K_2 : Keep h0 h_2 [a] := (Keep.refl h0 [a]).ext E_2
  have Ca_2 := CH_2
  have CR_2 := CR0.trans Ca_2
  obtain ⟨_, _, ⟨T_3, L_3, k_3, n_3⟩, -, X_3, ⟨Lc_3, hQ_3, l_3, y_3, z_3⟩, st_3⟩ := Jvm.LawKit.callS X_2 hx (y := MN6) hown_2 (mvT hZ_2 (ow hw 54 rfl)) (mvT hZ_2 (ow hw 55 rfl)) (mvT hZ_2 (ow hw 56 rfl)) (mvT hZ_2 (ow hw 57 rfl)) (by decide) (backOf (W := 0) (rm_rnn l Z a0 hw [] nm a_2 h_2 n0 Z_2 ) hZ_2 (ow hw 57 rfl) (ow hw 56 rfl) (by decide) (by decide)) (g := (mkF mM 7 (lc35 a nm num ty rq rp stt) [(.ref a_2), (.ref nm)])) rfl (by rw [hml]; rfl) (argsL := [(.ref nm), (.ref a_2)]) (rest := []) (lenOf pd_6 rfl) rfl (by show 2 * 0 + _ ≤ _; exact Nat.le_of_eq rfl) (hb hby d_prog_32m1_7) (fun _ _ => ⟨rfl, e_2, (by decide : 2 + 0 ≤ _), (by decide : 20 + 0 ≤ _)⟩)
  dsimp only [Pt.U, Pt.locs, Pt.cells, Pt.slots] at X_3 l_3 y_3 z_3 st_3 hQ_3
  subst l_3 y_3 z_3
  obtain ⟨rfl, N_3q, eh_3⟩ := hQ_3
  have N_3 := Fr.app N_1 N_3q
  obtain ⟨a_4, T_4, h_4, k_4, X_4, e_4, E_4, hS_4, hk_4, hZ_4, hown_4, CH_4, -, st_4⟩ := ldcOH X_3 hx hZ_2 hown_2 (ow hw 58 rfl) (own_wS hw) eh_3 hS_2 hk_2 (own_EW hw) CR_2.1 (g := (mkF mM 12 (lc35 a nm num ty rq rp stt) [(.ref ty)])) rfl (hb hby d_prog_32m1_12) (n := 16) (by decide) (by decide) (by decide) (by decide)
  have Z_4 : n0 ≤ h_4.size := (Nat.le_trans Z_2 E_4.1)
  have K_4 : Keep h0 h_4 [a] := K_2.ext E_4
  have Ca_4 := CH_4
  have CR_4 := CR_2.trans Ca_4
  obtain ⟨_, _, ⟨T_5, L_5, k_5, n_5⟩, -, X_5, ⟨Lc_5, hQ_5, l_5, y_5, z_5⟩, st_5⟩ := Jvm.LawKit.callS X_4 hx (y := MN6) hown_4 (mvT hZ_4 (ow hw 54 rfl)) (mvT hZ_4 (ow hw 55 rfl)) (mvT hZ_4 (ow hw 56 rfl)) (mvT hZ_4 (ow hw 57 rfl)) (by decide) (backOf (W := 0) (rm_rnn l Z a0 hw [] ty a_4 h_4 n0 Z_4 ) hZ_4 (ow hw 57 rfl) (ow hw 56 rfl) (by decide) (by decide)) (g := (mkF mM 14 (lc35 a nm num ty rq rp stt) [(.ref a_4), (.ref ty)])) rfl (by rw [hml]; rfl) (argsL := [(.ref ty), (.ref a_4)]) (rest := []) (lenOf pd_6 rfl) rfl (by show 2 * 0 + _ ≤ _; exact Nat.le_of_eq rfl) (hb hby d_prog_32m1_14) (fun _ _ => ⟨rfl, e_4, (by decide : 4 + 0 ≤ _), (by decide : 40 + 0 ≤ _)⟩)
  dsimp only [Pt.U, Pt.locs, Pt.cells, Pt.slots] at X_5 l_5 y_5 z_5 st_5 hQ_5
  subst l_5 y_5 z_5
  obtain ⟨rfl, N_5q, eh_5⟩ := hQ_5
  have N_5 := Fr.app N_3 N_5q
  obtain ⟨a_6, T_6, h_6, k_6, X_6, e_6, E_6, hS_6, hk_6, hZ_6, hown_6, CH_6, -, st_6⟩ := ldcOH X_5 hx hZ_4 hown_4 (ow hw 59 rfl) (own_wS hw) eh_5 hS_4 hk_4 (own_EW hw) CR_4.1 (g := (mkF mM 20 (lc35 a nm num ty rq rp stt) [(.ref stt)])) rfl (hb hby d_prog_32m1_20) (n := 20) (by decide) (by decide) (by decide) (by decide)
  have Z_6 : n0 ≤ h_6.size := (Nat.le_trans Z_4 E_6.1)
  have K_6 : Keep h0 h_6 [a] := K_4.ext E_6
  have Ca_6 := CH_6
  have CR_6 := CR_4.trans Ca_6
  obtain ⟨_, _, ⟨T_7, L_7, k_7, n_7⟩, -, X_7, ⟨Lc_7, hQ_7, l_7, y_7, z_7⟩, st_7⟩ := Jvm.LawKit.callS X_6 hx (y := MN6) hown_6 (mvT hZ_6 (ow hw 54 rfl)) (mvT hZ_6 (ow hw 55 rfl)) (mvT hZ_6 (ow hw 56 rfl)) (mvT hZ_6 (ow hw 57 rfl)) (by decide) (backOf (W := 0) (rm_rnn l Z a0 hw [] stt a_6 h_6 n0 Z_6 ) hZ_6 (ow hw 57 rfl) (ow hw 56 rfl) (by decide) (by decide)) (g := (mkF mM 22 (lc35 a nm num ty rq rp stt) [(.ref a_6), (.ref stt)])) rfl (by rw [hml]; rfl) (argsL := [(.ref stt), (.ref a_6)]) (rest := []) (lenOf pd_6 rfl) rfl (by show 2 * 0 + _ ≤ _; exact Nat.le_of_eq rfl) (hb hby d_prog_32m1_22) (fun _ _ => ⟨rfl, e_6, (by decide : 6 + 0 ≤ _), (by decide : 64 + 0 ≤ _)⟩)
  dsimp only [Pt.U, Pt.locs, Pt.cells, Pt.slots] at X_7 l_7 y_7 z_7 st_7 hQ_7
  subst l_7 y_7 z_7
  obtain ⟨rfl, N_7q, eh_7⟩ := hQ_7
  have N_7 := Fr.app N_5 N_7q
  obtain ⟨T_8, h_8, X_8, e_8, W_8, st_8⟩ := putF X_7 hx hZ_6 hown_6 (host := "") (Or.inl (ow hw 60 rfl)) Via.refl eh_7 (((F_name_a.ext E_2).ext E_4).ext E_6) (((E_a.ext E_2).ext E_4).ext E_6) (Or.inr ⟨(ow hw 61 rfl), rfl, hnm⟩) (ow hw 4 rfl) (ty := (.object "java/lang/String")) (by decide) rfl rfl (g := (mkF mM 28 (lc35 a nm num ty rq rp stt) [(.ref nm), (.ref a)])) rfl rfl (hb hby d_prog_32m1_28)
  have Fw_8 := (((F_name_a.ext E_2).ext E_4).ext E_6).same W_8
  have Z_8 : n0 ≤ h_8.size := (Nat.le_trans Z_6 (Keep.of_wr W_8).1)
  have K_8 : Keep h0 h_8 [a] := K_6.wr W_8 (Or.inl (List.mem_of_getElem? (i := 0) rfl))
  have hk_8 : _ ≤ h_8.size := Nat.le_trans hk_6 (Keep.of_wr W_8).1
  have Ca_8 := CHr.wr W_8 (Safe.exa hZ_6.alike (((E_a.ext E_2).ext E_4).ext E_6) (by decide) (by decide)) CR_6.1
  have CR_8 := CR_6.trans Ca_8
  have N_8 := Fr.snoc X_8 N_7 g_a
  obtain ⟨T_9, h_9, X_9, e_9, W_9, st_9⟩ := putF X_8 hx hZ_6 hown_6 (host := "") (Or.inl (ow hw 62 rfl)) Via.refl e_8 ((((F_number_a.ext E_2).ext E_4).ext E_6).other W_8 (Or.inr (slot_ne (Or.inr (ow hw 63 rfl)) (Or.inr (ow hw 61 rfl)) (by decide) (t := .int) (t' := (.object "java/lang/String")) (by decide) (by decide)))) ((((E_a.ext E_2).ext E_4).ext E_6).wr W_8) (Or.inr ⟨(ow hw 63 rfl), rfl, hnm⟩) (ow hw 4 rfl) (ty := .int) (by decide) rfl rfl (g := (mkF mM 33 (lc35 a nm num ty rq rp stt) [(.int num), (.ref a)])) rfl rfl (hb hby d_prog_32m1_33)
  have Fw_9 := ((((F_number_a.ext E_2).ext E_4).ext E_6).other W_8 (Or.inr (slot_ne (Or.inr (ow hw 63 rfl)) (Or.inr (ow hw 61 rfl)) (by decide) (t := .int) (t' := (.object "java/lang/String")) (by decide) (by decide)))).same W_9
  have Z_9 : n0 ≤ h_9.size := (Nat.le_trans Z_8 (Keep.of_wr W_9).1)
  have K_9 : Keep h0 h_9 [a] := K_8.wr W_9 (Or.inl (List.mem_of_getElem? (i := 0) rfl))
  have hk_9 : _ ≤ h_9.size := Nat.le_trans hk_8 (Keep.of_wr W_9).1
  have Ca_9 := CHr.wr W_9 (Safe.exa hZ_6.alike ((((E_a.ext E_2).ext E_4).ext E_6).wr W_8) (by decide) (by decide)) CR_8.1
  have CR_9 := CR_8.trans Ca_9
  have N_9 := Fr.snoc X_9 N_8 g_a
  obtain ⟨T_10, h_10, X_10, e_10, W_10, st_10⟩ := putF X_9 hx hZ_6 hown_6 (host := "") (Or.inl (ow hw 64 rfl)) Via.refl e_9 (((((F_type_a.ext E_2).ext E_4).ext E_6).other W_8 (Or.inr (slot_ne (Or.inr (ow hw 65 rfl)) (Or.inr (ow hw 61 rfl)) (by decide) (t := (.object "com/example/rolling_rung/rollingrung/schema/FieldType")) (t' := (.object "java/lang/String")) (by decide) (by decide)))).other W_9 (Or.inr (slot_ne (Or.inr (ow hw 65 rfl)) (Or.inr (ow hw 63 rfl)) (by decide) (t := (.object "com/example/rolling_rung/rollingrung/schema/FieldType")) (t' := .int) (by decide) (by decide)))) (((((E_a.ext E_2).ext E_4).ext E_6).wr W_8).wr W_9) (Or.inr ⟨(ow hw 65 rfl), rfl, hnm⟩) (ow hw 4 rfl) (ty := (.object "com/example/rolling_rung/rollingrung/schema/FieldType")) (by decide) rfl rfl (g := (mkF mM 38 (lc35 a nm num ty rq rp stt) [(.ref ty), (.ref a)])) rfl rfl (hb hby d_prog_32m1_38)
  have Fw_10 := (((((F_type_a.ext E_2).ext E_4).ext E_6).other W_8 (Or.inr (slot_ne (Or.inr (ow hw 65 rfl)) (Or.inr (ow hw 61 rfl)) (by decide) (t := (.object "com/example/rolling_rung/rollingrung/schema/FieldType")) (t' := (.object "java/lang/String")) (by decide) (by decide)))).other W_9 (Or.inr (slot_ne (Or.inr (ow hw 65 rfl)) (Or.inr (ow hw 63 rfl)) (by decide) (t := (.object "com/example/rolling_rung/rollingrung/schema/FieldType")) (t' := .int) (by decide) (by decide)))).same W_10
  have Z_10 : n0 ≤ h_10.size := (Nat.le_trans Z_9 (Keep.of_wr W_10).1)
  have K_10 : Keep h0 h_10 [a] := K_9.wr W_10 (Or.inl (List.mem_of_getElem? (i := 0) rfl))
  have hk_10 : _ ≤ h_10.size := Nat.le_trans hk_9 (Keep.of_wr W_10).1
  have Ca_10 := CHr.wr W_10 (Safe.exa hZ_6.alike (((((E_a.ext E_2).ext E_4).ext E_6).wr W_8).wr W_9) (by decide) (by decide)) CR_9.1
  have CR_10 := CR_9.trans Ca_10
  have N_10 := Fr.snoc X_10 N_9 g_a
  obtain ⟨T_11, h_11, X_11, e_11, W_11, st_11⟩ := putFN X_10 hx hZ_6 hown_6 (ow hw 66 rfl) Via.refl e_10 ((((((F_required_a.ext E_2).ext E_4).ext E_6).other W_8 (Or.inr (slot_ne (Or.inr (ow hw 67 rfl)) (Or.inr (ow hw 61 rfl)) (by decide) (t := .boolean) (t' := (.object "java/lang/String")) (by decide) (by decide)))).other W_9 (Or.inr (slot_ne (Or.inr (ow hw 67 rfl)) (Or.inr (ow hw 63 rfl)) (by decide) (t := .boolean) (t' := .int) (by decide) (by decide)))).other W_10 (Or.inr (slot_ne (Or.inr (ow hw 67 rfl)) (Or.inr (ow hw 65 rfl)) (by decide) (t := .boolean) (t' := (.object "com/example/rolling_rung/rollingrung/schema/FieldType")) (by decide) (by decide)))) ((((((E_a.ext E_2).ext E_4).ext E_6).wr W_8).wr W_9).wr W_10) (Or.inr ⟨(ow hw 67 rfl), rfl, hnm⟩) (ow hw 4 rfl) (ty := .boolean) (v' := (.int (nar .boolean rq))) (by decide) rfl (fits_nar_bool _) (g := (mkF mM 44 (lc35 a nm num ty rq rp stt) [(.int rq), (.ref a)])) rfl rfl (hb hby d_prog_32m1_44)
  have Fw_11 := ((((((F_required_a.ext E_2).ext E_4).ext E_6).other W_8 (Or.inr (slot_ne (Or.inr (ow hw 67 rfl)) (Or.inr (ow hw 61 rfl)) (by decide) (t := .boolean) (t' := (.object "java/lang/String")) (by decide) (by decide)))).other W_9 (Or.inr (slot_ne (Or.inr (ow hw 67 rfl)) (Or.inr (ow hw 63 rfl)) (by decide) (t := .boolean) (t' := .int) (by decide) (by decide)))).other W_10 (Or.inr (slot_ne (Or.inr (ow hw 67 rfl)) (Or.inr (ow hw 65 rfl)) (by decide) (t := .boolean) (t' := (.object "com/example/rolling_rung/rollingrung/schema/FieldType")) (by decide) (by decide)))).same W_11
  have Z_11 : n0 ≤ h_11.size := (Nat.le_trans Z_10 (Keep.of_wr W_11).1)
  have K_11 : Keep h0 h_11 [a] := K_10.wr W_11 (Or.inl (List.mem_of_getElem? (i := 0) rfl))
  have hk_11 : _ ≤ h_11.size := Nat.le_trans hk_10 (Keep.of_wr W_11).1
  have Ca_11 := CHr.wr W_11 (Safe.exa hZ_6.alike ((((((E_a.ext E_2).ext E_4).ext E_6).wr W_8).wr W_9).wr W_10) (by decide) (by decide)) CR_10.1
  have CR_11 := CR_10.trans Ca_11
  have N_11 := Fr.snoc X_11 N_10 g_a
  obtain ⟨T_12, h_12, X_12, e_12, W_12, st_12⟩ := putFN X_11 hx hZ_6 hown_6 (ow hw 68 rfl) Via.refl e_11 (((((((F_repeated_a.ext E_2).ext E_4).ext E_6).other W_8 (Or.inr (slot_ne (Or.inr (ow hw 69 rfl)) (Or.inr (ow hw 61 rfl)) (by decide) (t := .boolean) (t' := (.object "java/lang/String")) (by decide) (by decide)))).other W_9 (Or.inr (slot_ne (Or.inr (ow hw 69 rfl)) (Or.inr (ow hw 63 rfl)) (by decide) (t := .boolean) (t' := .int) (by decide) (by decide)))).other W_10 (Or.inr (slot_ne (Or.inr (ow hw 69 rfl)) (Or.inr (ow hw 65 rfl)) (by decide) (t := .boolean) (t' := (.object "com/example/rolling_rung/rollingrung/schema/FieldType")) (by decide) (by decide)))).other W_11 (Or.inr (slot_ne (Or.inr (ow hw 69 rfl)) (Or.inr (ow hw 67 rfl)) (by decide) (t := .boolean) (t' := .boolean) (by decide) (by decide)))) (((((((E_a.ext E_2).ext E_4).ext E_6).wr W_8).wr W_9).wr W_10).wr W_11) (Or.inr ⟨(ow hw 69 rfl), rfl, hnm⟩) (ow hw 4 rfl) (ty := .boolean) (v' := (.int (nar .boolean rp))) (by decide) rfl (fits_nar_bool _) (g := (mkF mM 50 (lc35 a nm num ty rq rp stt) [(.int rp), (.ref a)])) rfl rfl (hb hby d_prog_32m1_50)
  have Fw_12 := (((((((F_repeated_a.ext E_2).ext E_4).ext E_6).other W_8 (Or.inr (slot_ne (Or.inr (ow hw 69 rfl)) (Or.inr (ow hw 61 rfl)) (by decide) (t := .boolean) (t' := (.object "java/lang/String")) (by decide) (by decide)))).other W_9 (Or.inr (slot_ne (Or.inr (ow hw 69 rfl)) (Or.inr (ow hw 63 rfl)) (by decide) (t := .boolean) (t' := .int) (by decide) (by decide)))).other W_10 (Or.inr (slot_ne (Or.inr (ow hw 69 rfl)) (Or.inr (ow hw 65 rfl)) (by decide) (t := .boolean) (t' := (.object "com/example/rolling_rung/rollingrung/schema/FieldType")) (by decide) (by decide)))).other W_11 (Or.inr (slot_ne (Or.inr (ow hw 69 rfl)) (Or.inr (ow hw 67 rfl)) (by decide) (t := .boolean) (t' := .boolean) (by decide) (by decide)))).same W_12
  have Z_12 : n0 ≤ h_12.size := (Nat.le_trans Z_11 (Keep.of_wr W_12).1)
  have K_12 : Keep h0 h_12 [a] := K_11.wr W_12 (Or.inl (List.mem_of_getElem? (i := 0) rfl))
  have hk_12 : _ ≤ h_12.size := Nat.le_trans hk_11 (Keep.of_wr W_12).1
  have Ca_12 := CHr.wr W_12 (Safe.exa hZ_6.alike (((((((E_a.ext E_2).ext E_4).ext E_6).wr W_8).wr W_9).wr W_10).wr W_11) (by decide) (by decide)) CR_11.1
  have CR_12 := CR_11.trans Ca_12
  have N_12 := Fr.snoc X_12 N_11 g_a
  obtain ⟨T_13, h_13, X_13, e_13, W_13, st_13⟩ := putF X_12 hx hZ_6 hown_6 (host := "") (Or.inl (ow hw 70 rfl)) Via.refl e_12 ((((((((F_state_a.ext E_2).ext E_4).ext E_6).other W_8 (Or.inr (slot_ne (Or.inr (ow hw 71 rfl)) (Or.inr (ow hw 61 rfl)) (by decide) (t := (.object "com/example/rolling_rung/rollingrung/schema/ElementState")) (t' := (.object "java/lang/String")) (by decide) (by decide)))).other W_9 (Or.inr (slot_ne (Or.inr (ow hw 71 rfl)) (Or.inr (ow hw 63 rfl)) (by decide) (t := (.object "com/example/rolling_rung/rollingrung/schema/ElementState")) (t' := .int) (by decide) (by decide)))).other W_10 (Or.inr (slot_ne (Or.inr (ow hw 71 rfl)) (Or.inr (ow hw 65 rfl)) (by decide) (t := (.object "com/example/rolling_rung/rollingrung/schema/ElementState")) (t' := (.object "com/example/rolling_rung/rollingrung/schema/FieldType")) (by decide) (by decide)))).other W_11 (Or.inr (slot_ne (Or.inr (ow hw 71 rfl)) (Or.inr (ow hw 67 rfl)) (by decide) (t := (.object "com/example/rolling_rung/rollingrung/schema/ElementState")) (t' := .boolean) (by decide) (by decide)))).other W_12 (Or.inr (slot_ne (Or.inr (ow hw 71 rfl)) (Or.inr (ow hw 69 rfl)) (by decide) (t := (.object "com/example/rolling_rung/rollingrung/schema/ElementState")) (t' := .boolean) (by decide) (by decide)))) ((((((((E_a.ext E_2).ext E_4).ext E_6).wr W_8).wr W_9).wr W_10).wr W_11).wr W_12) (Or.inr ⟨(ow hw 71 rfl), rfl, hnm⟩) (ow hw 4 rfl) (ty := (.object "com/example/rolling_rung/rollingrung/schema/ElementState")) (by decide) rfl rfl (g := (mkF mM 56 (lc35 a nm num ty rq rp stt) [(.ref stt), (.ref a)])) rfl rfl (hb hby d_prog_32m1_56)
  have Fw_13 := ((((((((F_state_a.ext E_2).ext E_4).ext E_6).other W_8 (Or.inr (slot_ne (Or.inr (ow hw 71 rfl)) (Or.inr (ow hw 61 rfl)) (by decide) (t := (.object "com/example/rolling_rung/rollingrung/schema/ElementState")) (t' := (.object "java/lang/String")) (by decide) (by decide)))).other W_9 (Or.inr (slot_ne (Or.inr (ow hw 71 rfl)) (Or.inr (ow hw 63 rfl)) (by decide) (t := (.object "com/example/rolling_rung/rollingrung/schema/ElementState")) (t' := .int) (by decide) (by decide)))).other W_10 (Or.inr (slot_ne (Or.inr (ow hw 71 rfl)) (Or.inr (ow hw 65 rfl)) (by decide) (t := (.object "com/example/rolling_rung/rollingrung/schema/ElementState")) (t' := (.object "com/example/rolling_rung/rollingrung/schema/FieldType")) (by decide) (by decide)))).other W_11 (Or.inr (slot_ne (Or.inr (ow hw 71 rfl)) (Or.inr (ow hw 67 rfl)) (by decide) (t := (.object "com/example/rolling_rung/rollingrung/schema/ElementState")) (t' := .boolean) (by decide) (by decide)))).other W_12 (Or.inr (slot_ne (Or.inr (ow hw 71 rfl)) (Or.inr (ow hw 69 rfl)) (by decide) (t := (.object "com/example/rolling_rung/rollingrung/schema/ElementState")) (t' := .boolean) (by decide) (by decide)))).same W_13
  have Z_13 : n0 ≤ h_13.size := (Nat.le_trans Z_12 (Keep.of_wr W_13).1)
  have K_13 : Keep h0 h_13 [a] := K_12.wr W_13 (Or.inl (List.mem_of_getElem? (i := 0) rfl))
  have hk_13 : _ ≤ h_13.size := Nat.le_trans hk_12 (Keep.of_wr W_13).1
  have Ca_13 := CHr.wr W_13 (Safe.exa hZ_6.alike ((((((((E_a.ext E_2).ext E_4).ext E_6).wr W_8).wr W_9).wr W_10).wr W_11).wr W_12) (by decide) (by decide)) CR_12.1
  have CR_13 := CR_12.trans Ca_13
  have N_13 := Fr.snoc X_13 N_12 g_a
  have hCF : CHr Z own_EL sS.vm sS.heap T_13.vm T_13.heap := by rw [hh, e_13]; exact CR_13.trans (CHv.at X_13 hZ_6 (own_EW hw) CR_13.1)
  obtain ⟨fs, hr, hrun, hended, hRE⟩ := X_13.leaveW hS_6 (show _ ≤ T_13.heap.size by rw [e_13]; exact hk_13) (v := none) (fun _ => rfl)
  refine ⟨_, _, pre0 _ ?_, hrun, hended, _, _, rfl, ?_, hCF, ⟨_, rfl⟩, hRE.2.1, hRE.2.2.1, hRE.2.2.2.mono (by decide) (by decide)⟩
  · show oS pP eE below s₁ (mkF mM 0 (lc35 a nm num ty rq rp stt) []) _
    refine XS.aloadN X0.here hx rfl (hb hby d_prog_32m1_0) rfl rfl ?_
    show oS pP eE below s₁ (mkF mM 1 (lc35 a nm num ty rq rp stt) [(.ref a)]) _
    refine st_1.trans ?_
    show oS pP eE below T_1 (mkF mM 4 (lc35 a nm num ty rq rp stt) []) _
    refine XS.aloadN X_1.here hx rfl (hb hby d_prog_32m1_4) rfl rfl ?_
    show oS pP eE below T_1 (mkF mM 5 (lc35 a nm num ty rq rp stt) [(.ref nm)]) _
    refine st_2 _ ?_
    show oS pP eE below T_2 (mkF mM 7 (lc35 a nm num ty rq rp stt) [(.ref a_2), (.ref nm)]) _
    refine st_3 _ ?_
    show oS pP eE below T_3 (mkF mM 10 (lc35 a nm num ty rq rp stt) [(.ref nm)]) _
    refine XT.pop X_3.here hx rfl (hb hby d_prog_32m1_10) rfl rfl ?_
    refine XS.aloadN X_3.here hx rfl (hb hby d_prog_32m1_11) rfl rfl ?_
    show oS pP eE below T_3 (mkF mM 12 (lc35 a nm num ty rq rp stt) [(.ref ty)]) _
    refine st_4 _ ?_
    show oS pP eE below T_4 (mkF mM 14 (lc35 a nm num ty rq rp stt) [(.ref a_4), (.ref ty)]) _
    refine st_5 _ ?_
    show oS pP eE below T_5 (mkF mM 17 (lc35 a nm num ty rq rp stt) [(.ref ty)]) _
    refine XT.pop X_5.here hx rfl (hb hby d_prog_32m1_17) rfl rfl ?_
    refine XS.aload X_5.here hx rfl (hb hby d_prog_32m1_18) rfl rfl ?_
    show oS pP eE below T_5 (mkF mM 20 (lc35 a nm num ty rq rp stt) [(.ref stt)]) _
    refine st_6 _ ?_
    show oS pP eE below T_6 (mkF mM 22 (lc35 a nm num ty rq rp stt) [(.ref a_6), (.ref stt)]) _
    refine st_7 _ ?_
    show oS pP eE below T_7 (mkF mM 25 (lc35 a nm num ty rq rp stt) [(.ref stt)]) _
    refine XT.pop X_7.here hx rfl (hb hby d_prog_32m1_25) rfl rfl ?_
    refine XS.aloadN X_7.here hx rfl (hb hby d_prog_32m1_26) rfl rfl ?_
    refine XS.aloadN X_7.here hx rfl (hb hby d_prog_32m1_27) rfl rfl ?_
    show oS pP eE below T_7 (mkF mM 28 (lc35 a nm num ty rq rp stt) [(.ref nm), (.ref a)]) _
    refine st_8 _ ?_
    show oS pP eE below T_8 (mkF mM 31 (lc35 a nm num ty rq rp stt) []) _
    refine XS.aloadN X_8.here hx rfl (hb hby d_prog_32m1_31) rfl rfl ?_
    refine XS.iloadN X_8.here hx rfl (hb hby d_prog_32m1_32) rfl ?_
    show oS pP eE below T_8 (mkF mM 33 (lc35 a nm num ty rq rp stt) [(.int num), (.ref a)]) _
    refine st_9 _ ?_
    show oS pP eE below T_9 (mkF mM 36 (lc35 a nm num ty rq rp stt) []) _
    refine XS.aloadN X_9.here hx rfl (hb hby d_prog_32m1_36) rfl rfl ?_
    refine XS.aloadN X_9.here hx rfl (hb hby d_prog_32m1_37) rfl rfl ?_
    show oS pP eE below T_9 (mkF mM 38 (lc35 a nm num ty rq rp stt) [(.ref ty), (.ref a)]) _
    refine st_10 _ ?_
    show oS pP eE below T_10 (mkF mM 41 (lc35 a nm num ty rq rp stt) []) _
    refine XS.aloadN X_10.here hx rfl (hb hby d_prog_32m1_41) rfl rfl ?_
    refine XS.iload X_10.here hx rfl (hb hby d_prog_32m1_42) rfl ?_
    show oS pP eE below T_10 (mkF mM 44 (lc35 a nm num ty rq rp stt) [(.int rq), (.ref a)]) _
    refine st_11 _ ?_
    show oS pP eE below T_11 (mkF mM 47 (lc35 a nm num ty rq rp stt) []) _
    refine XS.aloadN X_11.here hx rfl (hb hby d_prog_32m1_47) rfl rfl ?_
    refine XS.iload X_11.here hx rfl (hb hby d_prog_32m1_48) rfl ?_
    show oS pP eE below T_11 (mkF mM 50 (lc35 a nm num ty rq rp stt) [(.int rp), (.ref a)]) _
    refine st_12 _ ?_
    show oS pP eE below T_12 (mkF mM 53 (lc35 a nm num ty rq rp stt) []) _
    refine XS.aloadN X_12.here hx rfl (hb hby d_prog_32m1_53) rfl rfl ?_
    refine XS.aload X_12.here hx rfl (hb hby d_prog_32m1_54) rfl rfl ?_
    show oS pP eE below T_12 (mkF mM 56 (lc35 a nm num ty rq rp stt) [(.ref stt), (.ref a)]) _
    refine st_13 _ ?_
    show oS pP eE below T_13 (mkF mM 59 (lc35 a nm num ty rq rp stt) []) _
    exact X_13.returnOut hx Bd.returns (hb hby d_prog_32m1_59) hr
  · show Q_fini Z a nm num ty rq rp stt h0 n0 _ T_13.heap _
    rw [e_13]
    exact ⟨rfl, N_13, K_13, (((((Fw_8.other W_9 (Or.inr (slot_ne (Or.inr (ow hw 61 rfl)) (Or.inr (ow hw 63 rfl)) (by decide) (t := (.object "java/lang/String")) (t' := .int) (by decide) (by decide)))).other W_10 (Or.inr (slot_ne (Or.inr (ow hw 61 rfl)) (Or.inr (ow hw 65 rfl)) (by decide) (t := (.object "java/lang/String")) (t' := (.object "com/example/rolling_rung/rollingrung/schema/FieldType")) (by decide) (by decide)))).other W_11 (Or.inr (slot_ne (Or.inr (ow hw 61 rfl)) (Or.inr (ow hw 67 rfl)) (by decide) (t := (.object "java/lang/String")) (t' := .boolean) (by decide) (by decide)))).other W_12 (Or.inr (slot_ne (Or.inr (ow hw 61 rfl)) (Or.inr (ow hw 69 rfl)) (by decide) (t := (.object "java/lang/String")) (t' := .boolean) (by decide) (by decide)))).other W_13 (Or.inr (slot_ne (Or.inr (ow hw 61 rfl)) (Or.inr (ow hw 71 rfl)) (by decide) (t := (.object "java/lang/String")) (t' := (.object "com/example/rolling_rung/rollingrung/schema/ElementState")) (by decide) (by decide)))), ((((Fw_9.other W_10 (Or.inr (slot_ne (Or.inr (ow hw 63 rfl)) (Or.inr (ow hw 65 rfl)) (by decide) (t := .int) (t' := (.object "com/example/rolling_rung/rollingrung/schema/FieldType")) (by decide) (by decide)))).other W_11 (Or.inr (slot_ne (Or.inr (ow hw 63 rfl)) (Or.inr (ow hw 67 rfl)) (by decide) (t := .int) (t' := .boolean) (by decide) (by decide)))).other W_12 (Or.inr (slot_ne (Or.inr (ow hw 63 rfl)) (Or.inr (ow hw 69 rfl)) (by decide) (t := .int) (t' := .boolean) (by decide) (by decide)))).other W_13 (Or.inr (slot_ne (Or.inr (ow hw 63 rfl)) (Or.inr (ow hw 71 rfl)) (by decide) (t := .int) (t' := (.object "com/example/rolling_rung/rollingrung/schema/ElementState")) (by decide) (by decide)))), (((Fw_10.other W_11 (Or.inr (slot_ne (Or.inr (ow hw 65 rfl)) (Or.inr (ow hw 67 rfl)) (by decide) (t := (.object "com/example/rolling_rung/rollingrung/schema/FieldType")) (t' := .boolean) (by decide) (by decide)))).other W_12 (Or.inr (slot_ne (Or.inr (ow hw 65 rfl)) (Or.inr (ow hw 69 rfl)) (by decide) (t := (.object "com/example/rolling_rung/rollingrung/schema/FieldType")) (t' := .boolean) (by decide) (by decide)))).other W_13 (Or.inr (slot_ne (Or.inr (ow hw 65 rfl)) (Or.inr (ow hw 71 rfl)) (by decide) (t := (.object "com/example/rolling_rung/rollingrung/schema/FieldType")) (t' := (.object "com/example/rolling_rung/rollingrung/schema/ElementState")) (by decide) (by decide)))), ((Fw_11.other W_12 (Or.inr (slot_ne (Or.inr (ow hw 67 rfl)) (Or.inr (ow hw 69 rfl)) (by decide) (t := .boolean) (t' := .boolean) (by decide) (by decide)))).other W_13 (Or.inr (slot_ne (Or.inr (ow hw 67 rfl)) (Or.inr (ow hw 71 rfl)) (by decide) (t := .boolean) (t' := (.object "com/example/rolling_rung/rollingrung/schema/ElementState")) (by decide) (by decide)))), (Fw_12.other W_13 (Or.inr (slot_ne (Or.inr (ow hw 69 rfl)) (Or.inr (ow hw 71 rfl)) (by decide) (t := .boolean) (t' := (.object "com/example/rolling_rung/rollingrung/schema/ElementState")) (by decide) (by decide)))), Fw_13, (((((((((E_a.ext E_2).ext E_4).ext E_6).wr W_8).wr W_9).wr W_10).wr W_11).wr W_12).wr W_13)⟩
def Q_leqH (Z : State) (d : Addr) (e2 : Addr) (ev : Int32) (h0 : Heap) (n0 : Nat) (v_ : Option Value) (h_ : Heap) (L_ : List Loc) : Prop := v_ = some (.int ev) ∧ Fr n0 L_ ∧ h_ = h0
def own_HL (l : Launch) (Z : State) (d e2 : Addr) (ev : Int32) (h0 : Heap) (n0 : Nat) : Prop := MetFree l (⟨"java/lang/StringLatin1", "equals", "([B[B)Z"⟩ : MethodName) (head1 [Jvm.Cond.code (⟨"java/lang/StringLatin1", "equals", "([B[B)Z"⟩ : MethodName) jdk_43_method_13_code 3 (some .boolean)] oR3) (fun aa_ U_ => aa_ = #[(.ref d), (.ref e2)] ∧ Z.Warmed39 U_.vm ∧ U_.heap = h0) (fun _ _ _ _ _ => True) (fun _ U_ o_ U'_ => ∃ v_ L_, o_ = .returned v_ ∧ Q_leqH Z d e2 ev h0 n0 v_ U'_.heap L_ ∧ FrameEnd U_ o_ U'_ L_ oR3.cells oR3.slots)
theorem rm_leqH (l : Launch) (Z : State) (a0 : Array Value) (hw : ∀ d ∈ tables_1, d.before a0 Z = true) (ws : List Jvm.Cond) (d : Addr) (e2 : Addr) (ev : Int32) (h0 : Heap) (n0 : Nat) (Z0 : n0 ≤ h0.size) (hL : own_HL l Z d e2 ev h0 n0) : MetFree l (⟨"java/lang/StringLatin1", "equals", "([B[B)Z"⟩ : MethodName) (head1 [Jvm.Cond.code (⟨"java/lang/StringLatin1", "equals", "([B[B)Z"⟩ : MethodName) jdk_43_method_13_code 3 (some .boolean)] oR3) (fun aa_ U_ => aa_ = #[(.ref d), (.ref e2)] ∧ Z.Warmed39 U_.vm ∧ U_.heap = h0) (fun _ _ _ _ _ => True) (fun _ U_ o_ U'_ => ∃ v_ L_, o_ = .returned v_ ∧ Q_leqH Z d e2 ev h0 n0 v_ U'_.heap L_ ∧ FrameEnd U_ o_ U'_ L_ oR3.cells oR3.slots) := hL
theorem d_jdk_43m13_0 : decode jdk_43_method_13_code 0 = .ok (.aload_n 0, 1) := by decide +kernel
theorem d_jdk_43m13_1 : decode jdk_43_method_13_code 1 = .ok (.arraylength, 1) := by decide +kernel
theorem d_jdk_43m13_2 : decode jdk_43_method_13_code 2 = .ok (.aload_n 1, 1) := by decide +kernel
theorem d_jdk_43m13_3 : decode jdk_43_method_13_code 3 = .ok (.arraylength, 1) := by decide +kernel
theorem d_jdk_43m13_4 : decode jdk_43_method_13_code 4 = .ok (.if_icmp .ne 30, 3) := by decide +kernel
theorem d_jdk_43m13_7 : decode jdk_43_method_13_code 7 = .ok (.iconst 0, 1) := by decide +kernel
theorem d_jdk_43m13_8 : decode jdk_43_method_13_code 8 = .ok (.istore_n 2, 1) := by decide +kernel
theorem d_jdk_43m13_9 : decode jdk_43_method_13_code 9 = .ok (.iload_n 2, 1) := by decide +kernel
theorem d_jdk_43m13_10 : decode jdk_43_method_13_code 10 = .ok (.aload_n 0, 1) := by decide +kernel
theorem d_jdk_43m13_11 : decode jdk_43_method_13_code 11 = .ok (.arraylength, 1) := by decide +kernel
theorem d_jdk_43m13_12 : decode jdk_43_method_13_code 12 = .ok (.if_icmp .ge 20, 3) := by decide +kernel
theorem d_jdk_43m13_32 : decode jdk_43_method_13_code 32 = .ok (.iconst 1, 1) := by decide +kernel
theorem d_jdk_43m13_33 : decode jdk_43_method_13_code 33 = .ok (.ireturn, 1) := by decide +kernel
theorem pn_6 : plainName "java/lang/StringLatin1" = true := by first | (simp [plainName, overriddenIn]; done) | decide +kernel
theorem ef_leq00 (mM : MethodId) (x0 : Addr) (x1 : Addr) : entryFrame mM #[(.ref x0), (.ref x1)] 3 = mkF mM 0 #[.val (.ref x0), .val (.ref x1), .unset] [] := by first | (simp [entryFrame, mkF, argsToLocals, Value.category]; done) | rfl
def Q_leq00 (Z : State) (d : Addr) (k : ClassId) (e2 : Addr) (k2 : ClassId) (h0 : Heap) (n0 : Nat) (v_ : Option Value) (h_ : Heap) (L_ : List Loc) : Prop := v_ = some (.int (1 : Int32)) ∧ Fr n0 L_ ∧ h_ = h0
set_option maxRecDepth 65536 in
set_option maxHeartbeats 40000000 in
theorem rm_leq00 (l : Launch) (Z : State) (a0 : Array Value) (hw : ∀ d ∈ tables_1, d.before a0 Z = true) (ws : List Jvm.Cond) (d : Addr) (k : ClassId) (e2 : Addr) (k2 : ClassId) (h0 : Heap) (n0 : Nat) (Z0 : n0 ≤ h0.size) (V_d : Arv Z h0 d k .byte (0 : Int32) [] (.int (0 : Int32))) (V_e2 : Arv Z h0 e2 k2 .byte (0 : Int32) [] (.int (0 : Int32))) :
    MetFree l (⟨"java/lang/StringLatin1", "equals", "([B[B)Z"⟩ : MethodName) (head1 (Jvm.Cond.code (⟨"java/lang/StringLatin1", "equals", "([B[B)Z"⟩ : MethodName) jdk_43_method_13_code 3 (some .boolean) :: ws) oR3) (fun aa_ U_ => aa_ = #[(.ref d), (.ref e2)] ∧ Z.Warmed39 U_.vm ∧ U_.heap = h0) (fun _ _ _ _ _ => True) (fun _ U_ o_ U'_ => ∃ v_ L_, o_ = .returned v_ ∧ Q_leq00 Z d k e2 k2 h0 n0 v_ U'_.heap L_ ∧ FrameEnd U_ o_ U'_ L_ oR3.cells oR3.slots) := by
  refine MetFree.of_bodySF (plainFor_of_name pn_6) hisR ?_
  intro pP eE sS mM argsA below meth cC s₁ Bd hml0 hP hK
  obtain ⟨rfl, hZ, hh⟩ := hP
  have hx := Bd.exec
  have hby := Bd.bytes
  have hml : cC.maxLocals = 3 := hml0
  have hown : sS.vm.findClass "java/lang/StringLatin1" = some mM.cls := findClass_of_methodNamed Bd.named
  have hnm := (name_of_methodNamed Bd.named Bd.method).1
  have X0 : Stand pP l eE oR3 sS mM #[(.ref d), (.ref e2)] below meth cC s₁ [] 0 0 := Stand.of_body Bd
  have e0 : s₁.heap = h0 := by rw [← hh, Bd.state]; rfl
  have N0 := Fr.nil n0
  have pre0 : ∀ t_, Steps pP.tables eE below (s₁.setTop (mkF mM 0 #[.val (.ref d), .val (.ref e2), .unset] [])) t_ → Steps pP.tables eE below (s₁.setTop (entryFrame mM #[(.ref d), (.ref e2)] 3)) t_ := fun t_ k_ => castTop (ef_leq00 mM d e2) k_
  obtain ⟨cl_1, Ar_1, -, Sa_1, Na_1, -, -⟩ := id V_d
  obtain ⟨cl_2, Ar_2, -, Sa_2, Na_2, -, -⟩ := id V_e2
  obtain ⟨cl_3, Ar_3, -, Sa_3, Na_3, -, -⟩ := id V_d
  obtain ⟨fs, hr, hrun, hended, hW, hsame⟩ := X0.leave (v := some (.int (1 : Int32))) (fun h => by rw [Bd.returns] at h; cases h)
  refine ⟨_, _, pre0 _ ?_, hrun, hended, _, _, rfl, ?_, ⟨_, rfl⟩, hW, hsame.mono (by decide) (by decide)⟩
  · show oS pP eE below s₁ (mkF mM 0 #[.val (.ref d), .val (.ref e2), .unset] []) _
    refine XS.aloadN X0.here hx rfl (hb hby d_jdk_43m13_0) rfl rfl ?_
    show oS pP eE below s₁ (mkF mM 1 #[.val (.ref d), .val (.ref e2), .unset] [(.ref d)]) _
    refine X0.arraylength hx (by rw [e0]; exact Ar_1.1) (State.isArrayOf_alike hZ.alike Ar_1.2.1) (g := (mkF mM 1 #[.val (.ref d), .val (.ref e2), .unset] [(.ref d)])) rfl rfl (hb hby d_jdk_43m13_1) _ ?_
    rw [len_of Sa_1 Na_1]
    refine XS.aloadN X0.here hx rfl (hb hby d_jdk_43m13_2) rfl rfl ?_
    show oS pP eE below s₁ (mkF mM 3 #[.val (.ref d), .val (.ref e2), .unset] [(.ref e2), (.int (0 : Int32))]) _
    refine X0.arraylength hx (by rw [e0]; exact Ar_2.1) (State.isArrayOf_alike hZ.alike Ar_2.2.1) (g := (mkF mM 3 #[.val (.ref d), .val (.ref e2), .unset] [(.ref e2), (.int (0 : Int32))])) rfl rfl (hb hby d_jdk_43m13_3) _ ?_
    rw [len_of Sa_2 Na_2]
    refine XS.icmpNo X0.here hx rfl (hb hby d_jdk_43m13_4) rfl (by decide) ?_
    refine XS.iconst X0.here hx rfl (hb hby d_jdk_43m13_7) ?_
    refine XS.istoreN X0.here hx rfl (hb hby d_jdk_43m13_8) rfl (l' := #[.val (.ref d), .val (.ref e2), .val (.int (0 : Int32))]) rfl ?_
    refine XS.iloadN X0.here hx rfl (hb hby d_jdk_43m13_9) rfl ?_
    refine XS.aloadN X0.here hx rfl (hb hby d_jdk_43m13_10) rfl rfl ?_
    show oS pP eE below s₁ (mkF mM 11 #[.val (.ref d), .val (.ref e2), .val (.int (0 : Int32))] [(.ref d), (.int (0 : Int32))]) _
    refine X0.arraylength hx (by rw [e0]; exact Ar_3.1) (State.isArrayOf_alike hZ.alike Ar_3.2.1) (g := (mkF mM 11 #[.val (.ref d), .val (.ref e2), .val (.int (0 : Int32))] [(.ref d), (.int (0 : Int32))])) rfl rfl (hb hby d_jdk_43m13_11) _ ?_
    rw [len_of Sa_3 Na_3]
    refine XS.icmpYes X0.here hx rfl (pc0 := 12) (pc' := 32) rfl (hb hby d_jdk_43m13_12) rfl (by decide) (by decide) (by decide) ?_
    refine XS.iconst X0.here hx rfl (hb hby d_jdk_43m13_32) ?_
    show oS pP eE below s₁ (mkF mM 33 #[.val (.ref d), .val (.ref e2), .val (.int (0 : Int32))] [(.int (1 : Int32))]) _
    exact retN X0 hx (t := .boolean) Bd.returns (by simp) (hb hby d_jdk_43m13_33) hr
  · show Q_leq00 Z d k e2 k2 h0 n0 _ s₁.heap _
    rw [e0]
    exact ⟨rfl, N0, rfl⟩
theorem d_jdk_43m13_34 : decode jdk_43_method_13_code 34 = .ok (.iconst 0, 1) := by decide +kernel
theorem d_jdk_43m13_35 : decode jdk_43_method_13_code 35 = .ok (.ireturn, 1) := by decide +kernel
theorem ef_leq01 (mM : MethodId) (x0 : Addr) (x1 : Addr) : entryFrame mM #[(.ref x0), (.ref x1)] 3 = mkF mM 0 #[.val (.ref x0), .val (.ref x1), .unset] [] := by first | (simp [entryFrame, mkF, argsToLocals, Value.category]; done) | rfl
def Q_leq01 (Z : State) (d : Addr) (k : ClassId) (e2 : Addr) (k2 : ClassId) (y0 : Int32) (h0 : Heap) (n0 : Nat) (v_ : Option Value) (h_ : Heap) (L_ : List Loc) : Prop := v_ = some (.int (0 : Int32)) ∧ Fr n0 L_ ∧ h_ = h0
set_option maxRecDepth 65536 in
set_option maxHeartbeats 40000000 in
theorem rm_leq01 (l : Launch) (Z : State) (a0 : Array Value) (hw : ∀ d ∈ tables_1, d.before a0 Z = true) (ws : List Jvm.Cond) (d : Addr) (k : ClassId) (e2 : Addr) (k2 : ClassId) (y0 : Int32) (h0 : Heap) (n0 : Nat) (Z0 : n0 ≤ h0.size) (V_d : Arv Z h0 d k .byte (0 : Int32) [] (.int (0 : Int32))) (V_e2 : Arv Z h0 e2 k2 .byte (1 : Int32) [(.int y0)] (.int (0 : Int32))) :
    MetFree l (⟨"java/lang/StringLatin1", "equals", "([B[B)Z"⟩ : MethodName) (head1 (Jvm.Cond.code (⟨"java/lang/StringLatin1", "equals", "([B[B)Z"⟩ : MethodName) jdk_43_method_13_code 3 (some .boolean) :: ws) oR3) (fun aa_ U_ => aa_ = #[(.ref d), (.ref e2)] ∧ Z.Warmed39 U_.vm ∧ U_.heap = h0) (fun _ _ _ _ _ => True) (fun _ U_ o_ U'_ => ∃ v_ L_, o_ = .returned v_ ∧ Q_leq01 Z d k e2 k2 y0 h0 n0 v_ U'_.heap L_ ∧ FrameEnd U_ o_ U'_ L_ oR3.cells oR3.slots) := by
  refine MetFree.of_bodySF (plainFor_of_name pn_6) hisR ?_
  intro pP eE sS mM argsA below meth cC s₁ Bd hml0 hP hK
  obtain ⟨rfl, hZ, hh⟩ := hP
  have hx := Bd.exec
  have hby := Bd.bytes
  have hml : cC.maxLocals = 3 := hml0
  have hown : sS.vm.findClass "java/lang/StringLatin1" = some mM.cls := findClass_of_methodNamed Bd.named
  have hnm := (name_of_methodNamed Bd.named Bd.method).1
  have X0 : Stand pP l eE oR3 sS mM #[(.ref d), (.ref e2)] below meth cC s₁ [] 0 0 := Stand.of_body Bd
  have e0 : s₁.heap = h0 := by rw [← hh, Bd.state]; rfl
  have N0 := Fr.nil n0
  have pre0 : ∀ t_, Steps pP.tables eE below (s₁.setTop (mkF mM 0 #[.val (.ref d), .val (.ref e2), .unset] [])) t_ → Steps pP.tables eE below (s₁.setTop (entryFrame mM #[(.ref d), (.ref e2)] 3)) t_ := fun t_ k_ => castTop (ef_leq01 mM d e2) k_
  obtain ⟨cl_1, Ar_1, -, Sa_1, Na_1, -, -⟩ := id V_d
  obtain ⟨cl_2, Ar_2, -, Sa_2, Na_2, -, -⟩ := id V_e2
  obtain ⟨fs, hr, hrun, hended, hW, hsame⟩ := X0.leave (v := some (.int (0 : Int32))) (fun h => by rw [Bd.returns] at h; cases h)
  refine ⟨_, _, pre0 _ ?_, hrun, hended, _, _, rfl, ?_, ⟨_, rfl⟩, hW, hsame.mono (by decide) (by decide)⟩
  · show oS pP eE below s₁ (mkF mM 0 #[.val (.ref d), .val (.ref e2), .unset] []) _
    refine XS.aloadN X0.here hx rfl (hb hby d_jdk_43m13_0) rfl rfl ?_
    show oS pP eE below s₁ (mkF mM 1 #[.val (.ref d), .val (.ref e2), .unset] [(.ref d)]) _
    refine X0.arraylength hx (by rw [e0]; exact Ar_1.1) (State.isArrayOf_alike hZ.alike Ar_1.2.1) (g := (mkF mM 1 #[.val (.ref d), .val (.ref e2), .unset] [(.ref d)])) rfl rfl (hb hby d_jdk_43m13_1) _ ?_
    rw [len_of Sa_1 Na_1]
    refine XS.aloadN X0.here hx rfl (hb hby d_jdk_43m13_2) rfl rfl ?_
    show oS pP eE below s₁ (mkF mM 3 #[.val (.ref d), .val (.ref e2), .unset] [(.ref e2), (.int (0 : Int32))]) _
    refine X0.arraylength hx (by rw [e0]; exact Ar_2.1) (State.isArrayOf_alike hZ.alike Ar_2.2.1) (g := (mkF mM 3 #[.val (.ref d), .val (.ref e2), .unset] [(.ref e2), (.int (0 : Int32))])) rfl rfl (hb hby d_jdk_43m13_3) _ ?_
    rw [len_of Sa_2 Na_2]
    refine XS.icmpYes X0.here hx rfl (pc0 := 4) (pc' := 34) rfl (hb hby d_jdk_43m13_4) rfl (by decide) (by decide) (by decide) ?_
    refine XS.iconst X0.here hx rfl (hb hby d_jdk_43m13_34) ?_
    show oS pP eE below s₁ (mkF mM 35 #[.val (.ref d), .val (.ref e2), .unset] [(.int (0 : Int32))]) _
    exact retN X0 hx (t := .boolean) Bd.returns (by simp) (hb hby d_jdk_43m13_35) hr
  · show Q_leq01 Z d k e2 k2 y0 h0 n0 _ s₁.heap _
    rw [e0]
    exact ⟨rfl, N0, rfl⟩
theorem ef_leq02 (mM : MethodId) (x0 : Addr) (x1 : Addr) : entryFrame mM #[(.ref x0), (.ref x1)] 3 = mkF mM 0 #[.val (.ref x0), .val (.ref x1), .unset] [] := by first | (simp [entryFrame, mkF, argsToLocals, Value.category]; done) | rfl
def Q_leq02 (Z : State) (d : Addr) (k : ClassId) (e2 : Addr) (k2 : ClassId) (y0 : Int32) (y1 : Int32) (h0 : Heap) (n0 : Nat) (v_ : Option Value) (h_ : Heap) (L_ : List Loc) : Prop := v_ = some (.int (0 : Int32)) ∧ Fr n0 L_ ∧ h_ = h0
set_option maxRecDepth 65536 in
set_option maxHeartbeats 40000000 in
theorem rm_leq02 (l : Launch) (Z : State) (a0 : Array Value) (hw : ∀ d ∈ tables_1, d.before a0 Z = true) (ws : List Jvm.Cond) (d : Addr) (k : ClassId) (e2 : Addr) (k2 : ClassId) (y0 : Int32) (y1 : Int32) (h0 : Heap) (n0 : Nat) (Z0 : n0 ≤ h0.size) (V_d : Arv Z h0 d k .byte (0 : Int32) [] (.int (0 : Int32))) (V_e2 : Arv Z h0 e2 k2 .byte (2 : Int32) [(.int y0), (.int y1)] (.int (0 : Int32))) :
    MetFree l (⟨"java/lang/StringLatin1", "equals", "([B[B)Z"⟩ : MethodName) (head1 (Jvm.Cond.code (⟨"java/lang/StringLatin1", "equals", "([B[B)Z"⟩ : MethodName) jdk_43_method_13_code 3 (some .boolean) :: ws) oR3) (fun aa_ U_ => aa_ = #[(.ref d), (.ref e2)] ∧ Z.Warmed39 U_.vm ∧ U_.heap = h0) (fun _ _ _ _ _ => True) (fun _ U_ o_ U'_ => ∃ v_ L_, o_ = .returned v_ ∧ Q_leq02 Z d k e2 k2 y0 y1 h0 n0 v_ U'_.heap L_ ∧ FrameEnd U_ o_ U'_ L_ oR3.cells oR3.slots) := by
  refine MetFree.of_bodySF (plainFor_of_name pn_6) hisR ?_
  intro pP eE sS mM argsA below meth cC s₁ Bd hml0 hP hK
  obtain ⟨rfl, hZ, hh⟩ := hP
  have hx := Bd.exec
  have hby := Bd.bytes
  have hml : cC.maxLocals = 3 := hml0
  have hown : sS.vm.findClass "java/lang/StringLatin1" = some mM.cls := findClass_of_methodNamed Bd.named
  have hnm := (name_of_methodNamed Bd.named Bd.method).1
  have X0 : Stand pP l eE oR3 sS mM #[(.ref d), (.ref e2)] below meth cC s₁ [] 0 0 := Stand.of_body Bd
  have e0 : s₁.heap = h0 := by rw [← hh, Bd.state]; rfl
  have N0 := Fr.nil n0
  have pre0 : ∀ t_, Steps pP.tables eE below (s₁.setTop (mkF mM 0 #[.val (.ref d), .val (.ref e2), .unset] [])) t_ → Steps pP.tables eE below (s₁.setTop (entryFrame mM #[(.ref d), (.ref e2)] 3)) t_ := fun t_ k_ => castTop (ef_leq02 mM d e2) k_
  obtain ⟨cl_1, Ar_1, -, Sa_1, Na_1, -, -⟩ := id V_d
  obtain ⟨cl_2, Ar_2, -, Sa_2, Na_2, -, -⟩ := id V_e2
  obtain ⟨fs, hr, hrun, hended, hW, hsame⟩ := X0.leave (v := some (.int (0 : Int32))) (fun h => by rw [Bd.returns] at h; cases h)
  refine ⟨_, _, pre0 _ ?_, hrun, hended, _, _, rfl, ?_, ⟨_, rfl⟩, hW, hsame.mono (by decide) (by decide)⟩
  · show oS pP eE below s₁ (mkF mM 0 #[.val (.ref d), .val (.ref e2), .unset] []) _
    refine XS.aloadN X0.here hx rfl (hb hby d_jdk_43m13_0) rfl rfl ?_
    show oS pP eE below s₁ (mkF mM 1 #[.val (.ref d), .val (.ref e2), .unset] [(.ref d)]) _
    refine X0.arraylength hx (by rw [e0]; exact Ar_1.1) (State.isArrayOf_alike hZ.alike Ar_1.2.1) (g := (mkF mM 1 #[.val (.ref d), .val (.ref e2), .unset] [(.ref d)])) rfl rfl (hb hby d_jdk_43m13_1) _ ?_
    rw [len_of Sa_1 Na_1]
    refine XS.aloadN X0.here hx rfl (hb hby d_jdk_43m13_2) rfl rfl ?_
    show oS pP eE below s₁ (mkF mM 3 #[.val (.ref d), .val (.ref e2), .unset] [(.ref e2), (.int (0 : Int32))]) _
    refine X0.arraylength hx (by rw [e0]; exact Ar_2.1) (State.isArrayOf_alike hZ.alike Ar_2.2.1) (g := (mkF mM 3 #[.val (.ref d), .val (.ref e2), .unset] [(.ref e2), (.int (0 : Int32))])) rfl rfl (hb hby d_jdk_43m13_3) _ ?_
    rw [len_of Sa_2 Na_2]
    refine XS.icmpYes X0.here hx rfl (pc0 := 4) (pc' := 34) rfl (hb hby d_jdk_43m13_4) rfl (by decide) (by decide) (by decide) ?_
    refine XS.iconst X0.here hx rfl (hb hby d_jdk_43m13_34) ?_
    show oS pP eE below s₁ (mkF mM 35 #[.val (.ref d), .val (.ref e2), .unset] [(.int (0 : Int32))]) _
    exact retN X0 hx (t := .boolean) Bd.returns (by simp) (hb hby d_jdk_43m13_35) hr
  · show Q_leq02 Z d k e2 k2 y0 y1 h0 n0 _ s₁.heap _
    rw [e0]
    exact ⟨rfl, N0, rfl⟩
theorem ef_leq10 (mM : MethodId) (x0 : Addr) (x1 : Addr) : entryFrame mM #[(.ref x0), (.ref x1)] 3 = mkF mM 0 #[.val (.ref x0), .val (.ref x1), .unset] [] := by first | (simp [entryFrame, mkF, argsToLocals, Value.category]; done) | rfl
def Q_leq10 (Z : State) (d : Addr) (k : ClassId) (e2 : Addr) (k2 : ClassId) (x0 : Int32) (h0 : Heap) (n0 : Nat) (v_ : Option Value) (h_ : Heap) (L_ : List Loc) : Prop := v_ = some (.int (0 : Int32)) ∧ Fr n0 L_ ∧ h_ = h0
set_option maxRecDepth 65536 in
set_option maxHeartbeats 40000000 in
theorem rm_leq10 (l : Launch) (Z : State) (a0 : Array Value) (hw : ∀ d ∈ tables_1, d.before a0 Z = true) (ws : List Jvm.Cond) (d : Addr) (k : ClassId) (e2 : Addr) (k2 : ClassId) (x0 : Int32) (h0 : Heap) (n0 : Nat) (Z0 : n0 ≤ h0.size) (V_d : Arv Z h0 d k .byte (1 : Int32) [(.int x0)] (.int (0 : Int32))) (V_e2 : Arv Z h0 e2 k2 .byte (0 : Int32) [] (.int (0 : Int32))) :
    MetFree l (⟨"java/lang/StringLatin1", "equals", "([B[B)Z"⟩ : MethodName) (head1 (Jvm.Cond.code (⟨"java/lang/StringLatin1", "equals", "([B[B)Z"⟩ : MethodName) jdk_43_method_13_code 3 (some .boolean) :: ws) oR3) (fun aa_ U_ => aa_ = #[(.ref d), (.ref e2)] ∧ Z.Warmed39 U_.vm ∧ U_.heap = h0) (fun _ _ _ _ _ => True) (fun _ U_ o_ U'_ => ∃ v_ L_, o_ = .returned v_ ∧ Q_leq10 Z d k e2 k2 x0 h0 n0 v_ U'_.heap L_ ∧ FrameEnd U_ o_ U'_ L_ oR3.cells oR3.slots) := by
  refine MetFree.of_bodySF (plainFor_of_name pn_6) hisR ?_
  intro pP eE sS mM argsA below meth cC s₁ Bd hml0 hP hK
  obtain ⟨rfl, hZ, hh⟩ := hP
  have hx := Bd.exec
  have hby := Bd.bytes
  have hml : cC.maxLocals = 3 := hml0
  have hown : sS.vm.findClass "java/lang/StringLatin1" = some mM.cls := findClass_of_methodNamed Bd.named
  have hnm := (name_of_methodNamed Bd.named Bd.method).1
  have X0 : Stand pP l eE oR3 sS mM #[(.ref d), (.ref e2)] below meth cC s₁ [] 0 0 := Stand.of_body Bd
  have e0 : s₁.heap = h0 := by rw [← hh, Bd.state]; rfl
  have N0 := Fr.nil n0
  have pre0 : ∀ t_, Steps pP.tables eE below (s₁.setTop (mkF mM 0 #[.val (.ref d), .val (.ref e2), .unset] [])) t_ → Steps pP.tables eE below (s₁.setTop (entryFrame mM #[(.ref d), (.ref e2)] 3)) t_ := fun t_ k_ => castTop (ef_leq10 mM d e2) k_
  obtain ⟨cl_1, Ar_1, -, Sa_1, Na_1, -, -⟩ := id V_d
  obtain ⟨cl_2, Ar_2, -, Sa_2, Na_2, -, -⟩ := id V_e2
  obtain ⟨fs, hr, hrun, hended, hW, hsame⟩ := X0.leave (v := some (.int (0 : Int32))) (fun h => by rw [Bd.returns] at h; cases h)
  refine ⟨_, _, pre0 _ ?_, hrun, hended, _, _, rfl, ?_, ⟨_, rfl⟩, hW, hsame.mono (by decide) (by decide)⟩
  · show oS pP eE below s₁ (mkF mM 0 #[.val (.ref d), .val (.ref e2), .unset] []) _
    refine XS.aloadN X0.here hx rfl (hb hby d_jdk_43m13_0) rfl rfl ?_
    show oS pP eE below s₁ (mkF mM 1 #[.val (.ref d), .val (.ref e2), .unset] [(.ref d)]) _
    refine X0.arraylength hx (by rw [e0]; exact Ar_1.1) (State.isArrayOf_alike hZ.alike Ar_1.2.1) (g := (mkF mM 1 #[.val (.ref d), .val (.ref e2), .unset] [(.ref d)])) rfl rfl (hb hby d_jdk_43m13_1) _ ?_
    rw [len_of Sa_1 Na_1]
    refine XS.aloadN X0.here hx rfl (hb hby d_jdk_43m13_2) rfl rfl ?_
    show oS pP eE below s₁ (mkF mM 3 #[.val (.ref d), .val (.ref e2), .unset] [(.ref e2), (.int (1 : Int32))]) _
    refine X0.arraylength hx (by rw [e0]; exact Ar_2.1) (State.isArrayOf_alike hZ.alike Ar_2.2.1) (g := (mkF mM 3 #[.val (.ref d), .val (.ref e2), .unset] [(.ref e2), (.int (1 : Int32))])) rfl rfl (hb hby d_jdk_43m13_3) _ ?_
    rw [len_of Sa_2 Na_2]
    refine XS.icmpYes X0.here hx rfl (pc0 := 4) (pc' := 34) rfl (hb hby d_jdk_43m13_4) rfl (by decide) (by decide) (by decide) ?_
    refine XS.iconst X0.here hx rfl (hb hby d_jdk_43m13_34) ?_
    show oS pP eE below s₁ (mkF mM 35 #[.val (.ref d), .val (.ref e2), .unset] [(.int (0 : Int32))]) _
    exact retN X0 hx (t := .boolean) Bd.returns (by simp) (hb hby d_jdk_43m13_35) hr
  · show Q_leq10 Z d k e2 k2 x0 h0 n0 _ s₁.heap _
    rw [e0]
    exact ⟨rfl, N0, rfl⟩
def Q_leq11 (Z : State) (d : Addr) (k : ClassId) (e2 : Addr) (k2 : ClassId) (x0 : Int32) (y0 : Int32) (h0 : Heap) (n0 : Nat) (v_ : Option Value) (h_ : Heap) (L_ : List Loc) : Prop := v_ = some (.int (own_e1 x0 y0)) ∧ Fr n0 L_ ∧ h_ = h0
theorem d_jdk_43m13_15 : decode jdk_43_method_13_code 15 = .ok (.aload_n 0, 1) := by decide +kernel
theorem d_jdk_43m13_16 : decode jdk_43_method_13_code 16 = .ok (.iload_n 2, 1) := by decide +kernel
theorem d_jdk_43m13_17 : decode jdk_43_method_13_code 17 = .ok (.baload, 1) := by decide +kernel
theorem d_jdk_43m13_18 : decode jdk_43_method_13_code 18 = .ok (.aload_n 1, 1) := by decide +kernel
theorem d_jdk_43m13_19 : decode jdk_43_method_13_code 19 = .ok (.iload_n 2, 1) := by decide +kernel
theorem d_jdk_43m13_20 : decode jdk_43_method_13_code 20 = .ok (.baload, 1) := by decide +kernel
theorem d_jdk_43m13_21 : decode jdk_43_method_13_code 21 = .ok (.if_icmp .eq 5, 3) := by decide +kernel
theorem d_jdk_43m13_24 : decode jdk_43_method_13_code 24 = .ok (.iconst 0, 1) := by decide +kernel
theorem d_jdk_43m13_25 : decode jdk_43_method_13_code 25 = .ok (.ireturn, 1) := by decide +kernel
theorem ef_leq11_0 (mM : MethodId) (x0 : Addr) (x1 : Addr) : entryFrame mM #[(.ref x0), (.ref x1)] 3 = mkF mM 0 #[.val (.ref x0), .val (.ref x1), .unset] [] := by first | (simp [entryFrame, mkF, argsToLocals, Value.category]; done) | rfl
set_option maxRecDepth 65536 in
set_option maxHeartbeats 40000000 in
theorem rm_leq11_0 (l : Launch) (Z : State) (a0 : Array Value) (hw : ∀ d ∈ tables_1, d.before a0 Z = true) (ws : List Jvm.Cond) (d : Addr) (k : ClassId) (e2 : Addr) (k2 : ClassId) (x0 : Int32) (y0 : Int32) (h0 : Heap) (n0 : Nat) (Z0 : n0 ≤ h0.size) (V_d : Arv Z h0 d k .byte (1 : Int32) [(.int x0)] (.int (0 : Int32))) (V_e2 : Arv Z h0 e2 k2 .byte (1 : Int32) [(.int y0)] (.int (0 : Int32))) (hx0 : ¬ x0 = y0) :
    MetFree l (⟨"java/lang/StringLatin1", "equals", "([B[B)Z"⟩ : MethodName) (head1 (Jvm.Cond.code (⟨"java/lang/StringLatin1", "equals", "([B[B)Z"⟩ : MethodName) jdk_43_method_13_code 3 (some .boolean) :: ws) oR3) (fun aa_ U_ => aa_ = #[(.ref d), (.ref e2)] ∧ Z.Warmed39 U_.vm ∧ U_.heap = h0) (fun _ _ _ _ _ => True) (fun _ U_ o_ U'_ => ∃ v_ L_, o_ = .returned v_ ∧ Q_leq11 Z d k e2 k2 x0 y0 h0 n0 v_ U'_.heap L_ ∧ FrameEnd U_ o_ U'_ L_ oR3.cells oR3.slots) := by
  refine MetFree.of_bodySF (plainFor_of_name pn_6) hisR ?_
  intro pP eE sS mM argsA below meth cC s₁ Bd hml0 hP hK
  obtain ⟨rfl, hZ, hh⟩ := hP
  have hx := Bd.exec
  have hby := Bd.bytes
  have hml : cC.maxLocals = 3 := hml0
  have hown : sS.vm.findClass "java/lang/StringLatin1" = some mM.cls := findClass_of_methodNamed Bd.named
  have hnm := (name_of_methodNamed Bd.named Bd.method).1
  have X0 : Stand pP l eE oR3 sS mM #[(.ref d), (.ref e2)] below meth cC s₁ [] 0 0 := Stand.of_body Bd
  have e0 : s₁.heap = h0 := by rw [← hh, Bd.state]; rfl
  have N0 := Fr.nil n0
  have pre0 : ∀ t_, Steps pP.tables eE below (s₁.setTop (mkF mM 0 #[.val (.ref d), .val (.ref e2), .unset] [])) t_ → Steps pP.tables eE below (s₁.setTop (entryFrame mM #[(.ref d), (.ref e2)] 3)) t_ := fun t_ k_ => castTop (ef_leq11_0 mM d e2) k_
  obtain ⟨cl_1, Ar_1, -, Sa_1, Na_1, -, -⟩ := id V_d
  obtain ⟨cl_2, Ar_2, -, Sa_2, Na_2, -, -⟩ := id V_e2
  obtain ⟨cl_3, Ar_3, -, Sa_3, Na_3, -, -⟩ := id V_d
  obtain ⟨cl_4, Ar_4, qa_4, Sa_4, Na_4, Ha_4, Ga_4⟩ := id V_d
  have hin_4 : ¬ ((0 : Int32) < 0 ∨ cl_4.slots.size ≤ ((0 : Int32)).toNatClampNeg) := inb_of Sa_4 ⟨by decide, by decide⟩
  have hat_4 : cl_4.slots[((0 : Int32)).toNatClampNeg]? = some (.int x0) := Has.at Ha_4 hin_4 rfl
  obtain ⟨cl_5, Ar_5, qa_5, Sa_5, Na_5, Ha_5, Ga_5⟩ := id V_e2
  have hin_5 : ¬ ((0 : Int32) < 0 ∨ cl_5.slots.size ≤ ((0 : Int32)).toNatClampNeg) := inb_of Sa_5 ⟨by decide, by decide⟩
  have hat_5 : cl_5.slots[((0 : Int32)).toNatClampNeg]? = some (.int y0) := Has.at Ha_5 hin_5 rfl
  obtain ⟨fs, hr, hrun, hended, hW, hsame⟩ := X0.leave (v := some (.int (0 : Int32))) (fun h => by rw [Bd.returns] at h; cases h)
  refine ⟨_, _, pre0 _ ?_, hrun, hended, _, _, rfl, ?_, ⟨_, rfl⟩, hW, hsame.mono (by decide) (by decide)⟩
  · show oS pP eE below s₁ (mkF mM 0 #[.val (.ref d), .val (.ref e2), .unset] []) _
    refine XS.aloadN X0.here hx rfl (hb hby d_jdk_43m13_0) rfl rfl ?_
    show oS pP eE below s₁ (mkF mM 1 #[.val (.ref d), .val (.ref e2), .unset] [(.ref d)]) _
    refine X0.arraylength hx (by rw [e0]; exact Ar_1.1) (State.isArrayOf_alike hZ.alike Ar_1.2.1) (g := (mkF mM 1 #[.val (.ref d), .val (.ref e2), .unset] [(.ref d)])) rfl rfl (hb hby d_jdk_43m13_1) _ ?_
    rw [len_of Sa_1 Na_1]
    refine XS.aloadN X0.here hx rfl (hb hby d_jdk_43m13_2) rfl rfl ?_
    show oS pP eE below s₁ (mkF mM 3 #[.val (.ref d), .val (.ref e2), .unset] [(.ref e2), (.int (1 : Int32))]) _
    refine X0.arraylength hx (by rw [e0]; exact Ar_2.1) (State.isArrayOf_alike hZ.alike Ar_2.2.1) (g := (mkF mM 3 #[.val (.ref d), .val (.ref e2), .unset] [(.ref e2), (.int (1 : Int32))])) rfl rfl (hb hby d_jdk_43m13_3) _ ?_
    rw [len_of Sa_2 Na_2]
    refine XS.icmpNo X0.here hx rfl (hb hby d_jdk_43m13_4) rfl (by decide) ?_
    refine XS.iconst X0.here hx rfl (hb hby d_jdk_43m13_7) ?_
    refine XS.istoreN X0.here hx rfl (hb hby d_jdk_43m13_8) rfl (l' := #[.val (.ref d), .val (.ref e2), .val (.int (0 : Int32))]) rfl ?_
    refine XS.iloadN X0.here hx rfl (hb hby d_jdk_43m13_9) rfl ?_
    refine XS.aloadN X0.here hx rfl (hb hby d_jdk_43m13_10) rfl rfl ?_
    show oS pP eE below s₁ (mkF mM 11 #[.val (.ref d), .val (.ref e2), .val (.int (0 : Int32))] [(.ref d), (.int (0 : Int32))]) _
    refine X0.arraylength hx (by rw [e0]; exact Ar_3.1) (State.isArrayOf_alike hZ.alike Ar_3.2.1) (g := (mkF mM 11 #[.val (.ref d), .val (.ref e2), .val (.int (0 : Int32))] [(.ref d), (.int (0 : Int32))])) rfl rfl (hb hby d_jdk_43m13_11) _ ?_
    rw [len_of Sa_3 Na_3]
    refine XS.icmpNo X0.here hx rfl (hb hby d_jdk_43m13_12) rfl (by decide) ?_
    refine XS.aloadN X0.here hx rfl (hb hby d_jdk_43m13_15) rfl rfl ?_
    refine XS.iloadN X0.here hx rfl (hb hby d_jdk_43m13_16) rfl ?_
    show oS pP eE below s₁ (mkF mM 17 #[.val (.ref d), .val (.ref e2), .val (.int (0 : Int32))] [(.int (0 : Int32)), (.ref d)]) _
    refine X0.baloadBytes hx (j := (0 : Int32)) (v := (.int x0)) (by rw [e0]; exact Ar_4.1) (State.isArrayOf_alike hZ.alike Ar_4.2.1) Ar_4.2.2 hin_4 hat_4 (g := (mkF mM 17 #[.val (.ref d), .val (.ref e2), .val (.int (0 : Int32))] [(.int (0 : Int32)), (.ref d)])) rfl rfl (hb hby d_jdk_43m13_17) _ ?_
    refine XS.aloadN X0.here hx rfl (hb hby d_jdk_43m13_18) rfl rfl ?_
    refine XS.iloadN X0.here hx rfl (hb hby d_jdk_43m13_19) rfl ?_
    show oS pP eE below s₁ (mkF mM 20 #[.val (.ref d), .val (.ref e2), .val (.int (0 : Int32))] [(.int (0 : Int32)), (.ref e2), (.int x0)]) _
    refine X0.baloadBytes hx (j := (0 : Int32)) (v := (.int y0)) (by rw [e0]; exact Ar_5.1) (State.isArrayOf_alike hZ.alike Ar_5.2.1) Ar_5.2.2 hin_5 hat_5 (g := (mkF mM 20 #[.val (.ref d), .val (.ref e2), .val (.int (0 : Int32))] [(.int (0 : Int32)), (.ref e2), (.int x0)])) rfl rfl (hb hby d_jdk_43m13_20) _ ?_
    refine XS.icmpNo X0.here hx rfl (hb hby d_jdk_43m13_21) rfl (XT.ii_eq_f hx0) ?_
    refine XS.iconst X0.here hx rfl (hb hby d_jdk_43m13_24) ?_
    show oS pP eE below s₁ (mkF mM 25 #[.val (.ref d), .val (.ref e2), .val (.int (0 : Int32))] [(.int (0 : Int32))]) _
    exact retN X0 hx (t := .boolean) Bd.returns (by simp) (hb hby d_jdk_43m13_25) hr
  · show Q_leq11 Z d k e2 k2 x0 y0 h0 n0 _ s₁.heap _
    rw [e0]
    exact ⟨(congrArg (fun z => some (Value.int z)) (if_neg (fun z => hx0 z)).symm), N0, rfl⟩
theorem d_jdk_43m13_26 : decode jdk_43_method_13_code 26 = .ok (.iinc 2 1, 3) := by decide +kernel
theorem d_jdk_43m13_29 : decode jdk_43_method_13_code 29 = .ok (.goto (-20), 3) := by decide +kernel
theorem ef_leq11_1 (mM : MethodId) (x0 : Addr) (x1 : Addr) : entryFrame mM #[(.ref x0), (.ref x1)] 3 = mkF mM 0 #[.val (.ref x0), .val (.ref x1), .unset] [] := by first | (simp [entryFrame, mkF, argsToLocals, Value.category]; done) | rfl
set_option maxRecDepth 65536 in
set_option maxHeartbeats 40000000 in
theorem rm_leq11_1 (l : Launch) (Z : State) (a0 : Array Value) (hw : ∀ d ∈ tables_1, d.before a0 Z = true) (ws : List Jvm.Cond) (d : Addr) (k : ClassId) (e2 : Addr) (k2 : ClassId) (x0 : Int32) (y0 : Int32) (h0 : Heap) (n0 : Nat) (Z0 : n0 ≤ h0.size) (V_d : Arv Z h0 d k .byte (1 : Int32) [(.int x0)] (.int (0 : Int32))) (V_e2 : Arv Z h0 e2 k2 .byte (1 : Int32) [(.int y0)] (.int (0 : Int32))) (hx0 : x0 = y0) :
    MetFree l (⟨"java/lang/StringLatin1", "equals", "([B[B)Z"⟩ : MethodName) (head1 (Jvm.Cond.code (⟨"java/lang/StringLatin1", "equals", "([B[B)Z"⟩ : MethodName) jdk_43_method_13_code 3 (some .boolean) :: ws) oR3) (fun aa_ U_ => aa_ = #[(.ref d), (.ref e2)] ∧ Z.Warmed39 U_.vm ∧ U_.heap = h0) (fun _ _ _ _ _ => True) (fun _ U_ o_ U'_ => ∃ v_ L_, o_ = .returned v_ ∧ Q_leq11 Z d k e2 k2 x0 y0 h0 n0 v_ U'_.heap L_ ∧ FrameEnd U_ o_ U'_ L_ oR3.cells oR3.slots) := by
  refine MetFree.of_bodySF (plainFor_of_name pn_6) hisR ?_
  intro pP eE sS mM argsA below meth cC s₁ Bd hml0 hP hK
  obtain ⟨rfl, hZ, hh⟩ := hP
  have hx := Bd.exec
  have hby := Bd.bytes
  have hml : cC.maxLocals = 3 := hml0
  have hown : sS.vm.findClass "java/lang/StringLatin1" = some mM.cls := findClass_of_methodNamed Bd.named
  have hnm := (name_of_methodNamed Bd.named Bd.method).1
  have X0 : Stand pP l eE oR3 sS mM #[(.ref d), (.ref e2)] below meth cC s₁ [] 0 0 := Stand.of_body Bd
  have e0 : s₁.heap = h0 := by rw [← hh, Bd.state]; rfl
  have N0 := Fr.nil n0
  have pre0 : ∀ t_, Steps pP.tables eE below (s₁.setTop (mkF mM 0 #[.val (.ref d), .val (.ref e2), .unset] [])) t_ → Steps pP.tables eE below (s₁.setTop (entryFrame mM #[(.ref d), (.ref e2)] 3)) t_ := fun t_ k_ => castTop (ef_leq11_1 mM d e2) k_
  obtain ⟨cl_1, Ar_1, -, Sa_1, Na_1, -, -⟩ := id V_d
  obtain ⟨cl_2, Ar_2, -, Sa_2, Na_2, -, -⟩ := id V_e2
  obtain ⟨cl_3, Ar_3, -, Sa_3, Na_3, -, -⟩ := id V_d
  obtain ⟨cl_4, Ar_4, qa_4, Sa_4, Na_4, Ha_4, Ga_4⟩ := id V_d
  have hin_4 : ¬ ((0 : Int32) < 0 ∨ cl_4.slots.size ≤ ((0 : Int32)).toNatClampNeg) := inb_of Sa_4 ⟨by decide, by decide⟩
  have hat_4 : cl_4.slots[((0 : Int32)).toNatClampNeg]? = some (.int x0) := Has.at Ha_4 hin_4 rfl
  obtain ⟨cl_5, Ar_5, qa_5, Sa_5, Na_5, Ha_5, Ga_5⟩ := id V_e2
  have hin_5 : ¬ ((0 : Int32) < 0 ∨ cl_5.slots.size ≤ ((0 : Int32)).toNatClampNeg) := inb_of Sa_5 ⟨by decide, by decide⟩
  have hat_5 : cl_5.slots[((0 : Int32)).toNatClampNeg]? = some (.int y0) := Has.at Ha_5 hin_5 rfl
  obtain ⟨cl_6, Ar_6, -, Sa_6, Na_6, -, -⟩ := id V_d
  obtain ⟨fs, hr, hrun, hended, hW, hsame⟩ := X0.leave (v := some (.int (1 : Int32))) (fun h => by rw [Bd.returns] at h; cases h)
  refine ⟨_, _, pre0 _ ?_, hrun, hended, _, _, rfl, ?_, ⟨_, rfl⟩, hW, hsame.mono (by decide) (by decide)⟩
  · show oS pP eE below s₁ (mkF mM 0 #[.val (.ref d), .val (.ref e2), .unset] []) _
    refine XS.aloadN X0.here hx rfl (hb hby d_jdk_43m13_0) rfl rfl ?_
    show oS pP eE below s₁ (mkF mM 1 #[.val (.ref d), .val (.ref e2), .unset] [(.ref d)]) _
    refine X0.arraylength hx (by rw [e0]; exact Ar_1.1) (State.isArrayOf_alike hZ.alike Ar_1.2.1) (g := (mkF mM 1 #[.val (.ref d), .val (.ref e2), .unset] [(.ref d)])) rfl rfl (hb hby d_jdk_43m13_1) _ ?_
    rw [len_of Sa_1 Na_1]
    refine XS.aloadN X0.here hx rfl (hb hby d_jdk_43m13_2) rfl rfl ?_
    show oS pP eE below s₁ (mkF mM 3 #[.val (.ref d), .val (.ref e2), .unset] [(.ref e2), (.int (1 : Int32))]) _
    refine X0.arraylength hx (by rw [e0]; exact Ar_2.1) (State.isArrayOf_alike hZ.alike Ar_2.2.1) (g := (mkF mM 3 #[.val (.ref d), .val (.ref e2), .unset] [(.ref e2), (.int (1 : Int32))])) rfl rfl (hb hby d_jdk_43m13_3) _ ?_
    rw [len_of Sa_2 Na_2]
    refine XS.icmpNo X0.here hx rfl (hb hby d_jdk_43m13_4) rfl (by decide) ?_
    refine XS.iconst X0.here hx rfl (hb hby d_jdk_43m13_7) ?_
    refine XS.istoreN X0.here hx rfl (hb hby d_jdk_43m13_8) rfl (l' := #[.val (.ref d), .val (.ref e2), .val (.int (0 : Int32))]) rfl ?_
    refine XS.iloadN X0.here hx rfl (hb hby d_jdk_43m13_9) rfl ?_
    refine XS.aloadN X0.here hx rfl (hb hby d_jdk_43m13_10) rfl rfl ?_
    show oS pP eE below s₁ (mkF mM 11 #[.val (.ref d), .val (.ref e2), .val (.int (0 : Int32))] [(.ref d), (.int (0 : Int32))]) _
    refine X0.arraylength hx (by rw [e0]; exact Ar_3.1) (State.isArrayOf_alike hZ.alike Ar_3.2.1) (g := (mkF mM 11 #[.val (.ref d), .val (.ref e2), .val (.int (0 : Int32))] [(.ref d), (.int (0 : Int32))])) rfl rfl (hb hby d_jdk_43m13_11) _ ?_
    rw [len_of Sa_3 Na_3]
    refine XS.icmpNo X0.here hx rfl (hb hby d_jdk_43m13_12) rfl (by decide) ?_
    refine XS.aloadN X0.here hx rfl (hb hby d_jdk_43m13_15) rfl rfl ?_
    refine XS.iloadN X0.here hx rfl (hb hby d_jdk_43m13_16) rfl ?_
    show oS pP eE below s₁ (mkF mM 17 #[.val (.ref d), .val (.ref e2), .val (.int (0 : Int32))] [(.int (0 : Int32)), (.ref d)]) _
    refine X0.baloadBytes hx (j := (0 : Int32)) (v := (.int x0)) (by rw [e0]; exact Ar_4.1) (State.isArrayOf_alike hZ.alike Ar_4.2.1) Ar_4.2.2 hin_4 hat_4 (g := (mkF mM 17 #[.val (.ref d), .val (.ref e2), .val (.int (0 : Int32))] [(.int (0 : Int32)), (.ref d)])) rfl rfl (hb hby d_jdk_43m13_17) _ ?_
    refine XS.aloadN X0.here hx rfl (hb hby d_jdk_43m13_18) rfl rfl ?_
    refine XS.iloadN X0.here hx rfl (hb hby d_jdk_43m13_19) rfl ?_
    show oS pP eE below s₁ (mkF mM 20 #[.val (.ref d), .val (.ref e2), .val (.int (0 : Int32))] [(.int (0 : Int32)), (.ref e2), (.int x0)]) _
    refine X0.baloadBytes hx (j := (0 : Int32)) (v := (.int y0)) (by rw [e0]; exact Ar_5.1) (State.isArrayOf_alike hZ.alike Ar_5.2.1) Ar_5.2.2 hin_5 hat_5 (g := (mkF mM 20 #[.val (.ref d), .val (.ref e2), .val (.int (0 : Int32))] [(.int (0 : Int32)), (.ref e2), (.int x0)])) rfl rfl (hb hby d_jdk_43m13_20) _ ?_
    refine XS.icmpYes X0.here hx rfl (pc0 := 21) (pc' := 26) rfl (hb hby d_jdk_43m13_21) rfl (XT.ii_eq_t hx0) (by decide) (by decide) ?_
    show oS pP eE below s₁ (mkF mM 26 #[.val (.ref d), .val (.ref e2), .val (.int (0 : Int32))] []) _
    refine XS.iinc X0.here hx rfl (hb hby d_jdk_43m13_26) rfl (l' := #[.val (.ref d), .val (.ref e2), .val (.int ((0 : Int32) + (1 : Int32)))]) rfl ?_
    show Steps pP.tables eE below (s₁.setTop (mkF mM 29 #[.val (.ref d), .val (.ref e2), .val (.int ((0 : Int32) + (1 : Int32)))] [])) _
    rw [(by decide : ((0 : Int32) + (1 : Int32)) = (1 : Int32))]
    refine XS.goto X0.here hx rfl (pc0 := 29) (pc' := 9) rfl (hb hby d_jdk_43m13_29) (by decide) (by decide) ?_
    refine XS.iloadN X0.here hx rfl (hb hby d_jdk_43m13_9) rfl ?_
    refine XS.aloadN X0.here hx rfl (hb hby d_jdk_43m13_10) rfl rfl ?_
    show oS pP eE below s₁ (mkF mM 11 #[.val (.ref d), .val (.ref e2), .val (.int (1 : Int32))] [(.ref d), (.int (1 : Int32))]) _
    refine X0.arraylength hx (by rw [e0]; exact Ar_6.1) (State.isArrayOf_alike hZ.alike Ar_6.2.1) (g := (mkF mM 11 #[.val (.ref d), .val (.ref e2), .val (.int (1 : Int32))] [(.ref d), (.int (1 : Int32))])) rfl rfl (hb hby d_jdk_43m13_11) _ ?_
    rw [len_of Sa_6 Na_6]
    refine XS.icmpYes X0.here hx rfl (pc0 := 12) (pc' := 32) rfl (hb hby d_jdk_43m13_12) rfl (by decide) (by decide) (by decide) ?_
    refine XS.iconst X0.here hx rfl (hb hby d_jdk_43m13_32) ?_
    show oS pP eE below s₁ (mkF mM 33 #[.val (.ref d), .val (.ref e2), .val (.int (1 : Int32))] [(.int (1 : Int32))]) _
    exact retN X0 hx (t := .boolean) Bd.returns (by simp) (hb hby d_jdk_43m13_33) hr
  · show Q_leq11 Z d k e2 k2 x0 y0 h0 n0 _ s₁.heap _
    rw [e0]
    exact ⟨(congrArg (fun z => some (Value.int z)) (if_pos hx0).symm), N0, rfl⟩
set_option maxRecDepth 65536 in
set_option maxHeartbeats 40000000 in
theorem rm_leq11 (l : Launch) (Z : State) (a0 : Array Value) (hw : ∀ d ∈ tables_1, d.before a0 Z = true) (ws : List Jvm.Cond) (d : Addr) (k : ClassId) (e2 : Addr) (k2 : ClassId) (x0 : Int32) (y0 : Int32) (h0 : Heap) (n0 : Nat) (Z0 : n0 ≤ h0.size) (V_d : Arv Z h0 d k .byte (1 : Int32) [(.int x0)] (.int (0 : Int32))) (V_e2 : Arv Z h0 e2 k2 .byte (1 : Int32) [(.int y0)] (.int (0 : Int32))) :
    MetFree l (⟨"java/lang/StringLatin1", "equals", "([B[B)Z"⟩ : MethodName) (head1 (Jvm.Cond.code (⟨"java/lang/StringLatin1", "equals", "([B[B)Z"⟩ : MethodName) jdk_43_method_13_code 3 (some .boolean) :: ws) oR3) (fun aa_ U_ => aa_ = #[(.ref d), (.ref e2)] ∧ Z.Warmed39 U_.vm ∧ U_.heap = h0) (fun _ _ _ _ _ => True) (fun _ U_ o_ U'_ => ∃ v_ L_, o_ = .returned v_ ∧ Q_leq11 Z d k e2 k2 x0 y0 h0 n0 v_ U'_.heap L_ ∧ FrameEnd U_ o_ U'_ L_ oR3.cells oR3.slots) := by
  by_cases hx0 : x0 = y0
  · exact rm_leq11_1 l Z a0 hw ws d k e2 k2 x0 y0 h0 n0 Z0 V_d V_e2 hx0
  · exact rm_leq11_0 l Z a0 hw ws d k e2 k2 x0 y0 h0 n0 Z0 V_d V_e2 hx0
theorem ef_leq12 (mM : MethodId) (x0 : Addr) (x1 : Addr) : entryFrame mM #[(.ref x0), (.ref x1)] 3 = mkF mM 0 #[.val (.ref x0), .val (.ref x1), .unset] [] := by first | (simp [entryFrame, mkF, argsToLocals, Value.category]; done) | rfl
def Q_leq12 (Z : State) (d : Addr) (k : ClassId) (e2 : Addr) (k2 : ClassId) (x0 : Int32) (y0 : Int32) (y1 : Int32) (h0 : Heap) (n0 : Nat) (v_ : Option Value) (h_ : Heap) (L_ : List Loc) : Prop := v_ = some (.int (0 : Int32)) ∧ Fr n0 L_ ∧ h_ = h0
set_option maxRecDepth 65536 in
set_option maxHeartbeats 40000000 in
theorem rm_leq12 (l : Launch) (Z : State) (a0 : Array Value) (hw : ∀ d ∈ tables_1, d.before a0 Z = true) (ws : List Jvm.Cond) (d : Addr) (k : ClassId) (e2 : Addr) (k2 : ClassId) (x0 : Int32) (y0 : Int32) (y1 : Int32) (h0 : Heap) (n0 : Nat) (Z0 : n0 ≤ h0.size) (V_d : Arv Z h0 d k .byte (1 : Int32) [(.int x0)] (.int (0 : Int32))) (V_e2 : Arv Z h0 e2 k2 .byte (2 : Int32) [(.int y0), (.int y1)] (.int (0 : Int32))) :
    MetFree l (⟨"java/lang/StringLatin1", "equals", "([B[B)Z"⟩ : MethodName) (head1 (Jvm.Cond.code (⟨"java/lang/StringLatin1", "equals", "([B[B)Z"⟩ : MethodName) jdk_43_method_13_code 3 (some .boolean) :: ws) oR3) (fun aa_ U_ => aa_ = #[(.ref d), (.ref e2)] ∧ Z.Warmed39 U_.vm ∧ U_.heap = h0) (fun _ _ _ _ _ => True) (fun _ U_ o_ U'_ => ∃ v_ L_, o_ = .returned v_ ∧ Q_leq12 Z d k e2 k2 x0 y0 y1 h0 n0 v_ U'_.heap L_ ∧ FrameEnd U_ o_ U'_ L_ oR3.cells oR3.slots) := by
  refine MetFree.of_bodySF (plainFor_of_name pn_6) hisR ?_
  intro pP eE sS mM argsA below meth cC s₁ Bd hml0 hP hK
  obtain ⟨rfl, hZ, hh⟩ := hP
  have hx := Bd.exec
  have hby := Bd.bytes
  have hml : cC.maxLocals = 3 := hml0
  have hown : sS.vm.findClass "java/lang/StringLatin1" = some mM.cls := findClass_of_methodNamed Bd.named
  have hnm := (name_of_methodNamed Bd.named Bd.method).1
  have X0 : Stand pP l eE oR3 sS mM #[(.ref d), (.ref e2)] below meth cC s₁ [] 0 0 := Stand.of_body Bd
  have e0 : s₁.heap = h0 := by rw [← hh, Bd.state]; rfl
  have N0 := Fr.nil n0
  have pre0 : ∀ t_, Steps pP.tables eE below (s₁.setTop (mkF mM 0 #[.val (.ref d), .val (.ref e2), .unset] [])) t_ → Steps pP.tables eE below (s₁.setTop (entryFrame mM #[(.ref d), (.ref e2)] 3)) t_ := fun t_ k_ => castTop (ef_leq12 mM d e2) k_
  obtain ⟨cl_1, Ar_1, -, Sa_1, Na_1, -, -⟩ := id V_d
  obtain ⟨cl_2, Ar_2, -, Sa_2, Na_2, -, -⟩ := id V_e2
  obtain ⟨fs, hr, hrun, hended, hW, hsame⟩ := X0.leave (v := some (.int (0 : Int32))) (fun h => by rw [Bd.returns] at h; cases h)
  refine ⟨_, _, pre0 _ ?_, hrun, hended, _, _, rfl, ?_, ⟨_, rfl⟩, hW, hsame.mono (by decide) (by decide)⟩
  · show oS pP eE below s₁ (mkF mM 0 #[.val (.ref d), .val (.ref e2), .unset] []) _
    refine XS.aloadN X0.here hx rfl (hb hby d_jdk_43m13_0) rfl rfl ?_
    show oS pP eE below s₁ (mkF mM 1 #[.val (.ref d), .val (.ref e2), .unset] [(.ref d)]) _
    refine X0.arraylength hx (by rw [e0]; exact Ar_1.1) (State.isArrayOf_alike hZ.alike Ar_1.2.1) (g := (mkF mM 1 #[.val (.ref d), .val (.ref e2), .unset] [(.ref d)])) rfl rfl (hb hby d_jdk_43m13_1) _ ?_
    rw [len_of Sa_1 Na_1]
    refine XS.aloadN X0.here hx rfl (hb hby d_jdk_43m13_2) rfl rfl ?_
    show oS pP eE below s₁ (mkF mM 3 #[.val (.ref d), .val (.ref e2), .unset] [(.ref e2), (.int (1 : Int32))]) _
    refine X0.arraylength hx (by rw [e0]; exact Ar_2.1) (State.isArrayOf_alike hZ.alike Ar_2.2.1) (g := (mkF mM 3 #[.val (.ref d), .val (.ref e2), .unset] [(.ref e2), (.int (1 : Int32))])) rfl rfl (hb hby d_jdk_43m13_3) _ ?_
    rw [len_of Sa_2 Na_2]
    refine XS.icmpYes X0.here hx rfl (pc0 := 4) (pc' := 34) rfl (hb hby d_jdk_43m13_4) rfl (by decide) (by decide) (by decide) ?_
    refine XS.iconst X0.here hx rfl (hb hby d_jdk_43m13_34) ?_
    show oS pP eE below s₁ (mkF mM 35 #[.val (.ref d), .val (.ref e2), .unset] [(.int (0 : Int32))]) _
    exact retN X0 hx (t := .boolean) Bd.returns (by simp) (hb hby d_jdk_43m13_35) hr
  · show Q_leq12 Z d k e2 k2 x0 y0 y1 h0 n0 _ s₁.heap _
    rw [e0]
    exact ⟨rfl, N0, rfl⟩
theorem ef_leq20 (mM : MethodId) (x0 : Addr) (x1 : Addr) : entryFrame mM #[(.ref x0), (.ref x1)] 3 = mkF mM 0 #[.val (.ref x0), .val (.ref x1), .unset] [] := by first | (simp [entryFrame, mkF, argsToLocals, Value.category]; done) | rfl
def Q_leq20 (Z : State) (d : Addr) (k : ClassId) (e2 : Addr) (k2 : ClassId) (x0 : Int32) (x1 : Int32) (h0 : Heap) (n0 : Nat) (v_ : Option Value) (h_ : Heap) (L_ : List Loc) : Prop := v_ = some (.int (0 : Int32)) ∧ Fr n0 L_ ∧ h_ = h0
set_option maxRecDepth 65536 in
set_option maxHeartbeats 40000000 in
theorem rm_leq20 (l : Launch) (Z : State) (a0 : Array Value) (hw : ∀ d ∈ tables_1, d.before a0 Z = true) (ws : List Jvm.Cond) (d : Addr) (k : ClassId) (e2 : Addr) (k2 : ClassId) (x0 : Int32) (x1 : Int32) (h0 : Heap) (n0 : Nat) (Z0 : n0 ≤ h0.size) (V_d : Arv Z h0 d k .byte (2 : Int32) [(.int x0), (.int x1)] (.int (0 : Int32))) (V_e2 : Arv Z h0 e2 k2 .byte (0 : Int32) [] (.int (0 : Int32))) :
    MetFree l (⟨"java/lang/StringLatin1", "equals", "([B[B)Z"⟩ : MethodName) (head1 (Jvm.Cond.code (⟨"java/lang/StringLatin1", "equals", "([B[B)Z"⟩ : MethodName) jdk_43_method_13_code 3 (some .boolean) :: ws) oR3) (fun aa_ U_ => aa_ = #[(.ref d), (.ref e2)] ∧ Z.Warmed39 U_.vm ∧ U_.heap = h0) (fun _ _ _ _ _ => True) (fun _ U_ o_ U'_ => ∃ v_ L_, o_ = .returned v_ ∧ Q_leq20 Z d k e2 k2 x0 x1 h0 n0 v_ U'_.heap L_ ∧ FrameEnd U_ o_ U'_ L_ oR3.cells oR3.slots) := by
  refine MetFree.of_bodySF (plainFor_of_name pn_6) hisR ?_
  intro pP eE sS mM argsA below meth cC s₁ Bd hml0 hP hK
  obtain ⟨rfl, hZ, hh⟩ := hP
  have hx := Bd.exec
  have hby := Bd.bytes
  have hml : cC.maxLocals = 3 := hml0
  have hown : sS.vm.findClass "java/lang/StringLatin1" = some mM.cls := findClass_of_methodNamed Bd.named
  have hnm := (name_of_methodNamed Bd.named Bd.method).1
  have X0 : Stand pP l eE oR3 sS mM #[(.ref d), (.ref e2)] below meth cC s₁ [] 0 0 := Stand.of_body Bd
  have e0 : s₁.heap = h0 := by rw [← hh, Bd.state]; rfl
  have N0 := Fr.nil n0
  have pre0 : ∀ t_, Steps pP.tables eE below (s₁.setTop (mkF mM 0 #[.val (.ref d), .val (.ref e2), .unset] [])) t_ → Steps pP.tables eE below (s₁.setTop (entryFrame mM #[(.ref d), (.ref e2)] 3)) t_ := fun t_ k_ => castTop (ef_leq20 mM d e2) k_
  obtain ⟨cl_1, Ar_1, -, Sa_1, Na_1, -, -⟩ := id V_d
  obtain ⟨cl_2, Ar_2, -, Sa_2, Na_2, -, -⟩ := id V_e2
  obtain ⟨fs, hr, hrun, hended, hW, hsame⟩ := X0.leave (v := some (.int (0 : Int32))) (fun h => by rw [Bd.returns] at h; cases h)
  refine ⟨_, _, pre0 _ ?_, hrun, hended, _, _, rfl, ?_, ⟨_, rfl⟩, hW, hsame.mono (by decide) (by decide)⟩
  · show oS pP eE below s₁ (mkF mM 0 #[.val (.ref d), .val (.ref e2), .unset] []) _
    refine XS.aloadN X0.here hx rfl (hb hby d_jdk_43m13_0) rfl rfl ?_
    show oS pP eE below s₁ (mkF mM 1 #[.val (.ref d), .val (.ref e2), .unset] [(.ref d)]) _
    refine X0.arraylength hx (by rw [e0]; exact Ar_1.1) (State.isArrayOf_alike hZ.alike Ar_1.2.1) (g := (mkF mM 1 #[.val (.ref d), .val (.ref e2), .unset] [(.ref d)])) rfl rfl (hb hby d_jdk_43m13_1) _ ?_
    rw [len_of Sa_1 Na_1]
    refine XS.aloadN X0.here hx rfl (hb hby d_jdk_43m13_2) rfl rfl ?_
    show oS pP eE below s₁ (mkF mM 3 #[.val (.ref d), .val (.ref e2), .unset] [(.ref e2), (.int (2 : Int32))]) _
    refine X0.arraylength hx (by rw [e0]; exact Ar_2.1) (State.isArrayOf_alike hZ.alike Ar_2.2.1) (g := (mkF mM 3 #[.val (.ref d), .val (.ref e2), .unset] [(.ref e2), (.int (2 : Int32))])) rfl rfl (hb hby d_jdk_43m13_3) _ ?_
    rw [len_of Sa_2 Na_2]
    refine XS.icmpYes X0.here hx rfl (pc0 := 4) (pc' := 34) rfl (hb hby d_jdk_43m13_4) rfl (by decide) (by decide) (by decide) ?_
    refine XS.iconst X0.here hx rfl (hb hby d_jdk_43m13_34) ?_
    show oS pP eE below s₁ (mkF mM 35 #[.val (.ref d), .val (.ref e2), .unset] [(.int (0 : Int32))]) _
    exact retN X0 hx (t := .boolean) Bd.returns (by simp) (hb hby d_jdk_43m13_35) hr
  · show Q_leq20 Z d k e2 k2 x0 x1 h0 n0 _ s₁.heap _
    rw [e0]
    exact ⟨rfl, N0, rfl⟩
theorem ef_leq21 (mM : MethodId) (x0 : Addr) (x1 : Addr) : entryFrame mM #[(.ref x0), (.ref x1)] 3 = mkF mM 0 #[.val (.ref x0), .val (.ref x1), .unset] [] := by first | (simp [entryFrame, mkF, argsToLocals, Value.category]; done) | rfl
def Q_leq21 (Z : State) (d : Addr) (k : ClassId) (e2 : Addr) (k2 : ClassId) (x0 : Int32) (x1 : Int32) (y0 : Int32) (h0 : Heap) (n0 : Nat) (v_ : Option Value) (h_ : Heap) (L_ : List Loc) : Prop := v_ = some (.int (0 : Int32)) ∧ Fr n0 L_ ∧ h_ = h0
set_option maxRecDepth 65536 in
set_option maxHeartbeats 40000000 in
theorem rm_leq21 (l : Launch) (Z : State) (a0 : Array Value) (hw : ∀ d ∈ tables_1, d.before a0 Z = true) (ws : List Jvm.Cond) (d : Addr) (k : ClassId) (e2 : Addr) (k2 : ClassId) (x0 : Int32) (x1 : Int32) (y0 : Int32) (h0 : Heap) (n0 : Nat) (Z0 : n0 ≤ h0.size) (V_d : Arv Z h0 d k .byte (2 : Int32) [(.int x0), (.int x1)] (.int (0 : Int32))) (V_e2 : Arv Z h0 e2 k2 .byte (1 : Int32) [(.int y0)] (.int (0 : Int32))) :
    MetFree l (⟨"java/lang/StringLatin1", "equals", "([B[B)Z"⟩ : MethodName) (head1 (Jvm.Cond.code (⟨"java/lang/StringLatin1", "equals", "([B[B)Z"⟩ : MethodName) jdk_43_method_13_code 3 (some .boolean) :: ws) oR3) (fun aa_ U_ => aa_ = #[(.ref d), (.ref e2)] ∧ Z.Warmed39 U_.vm ∧ U_.heap = h0) (fun _ _ _ _ _ => True) (fun _ U_ o_ U'_ => ∃ v_ L_, o_ = .returned v_ ∧ Q_leq21 Z d k e2 k2 x0 x1 y0 h0 n0 v_ U'_.heap L_ ∧ FrameEnd U_ o_ U'_ L_ oR3.cells oR3.slots) := by
  refine MetFree.of_bodySF (plainFor_of_name pn_6) hisR ?_
  intro pP eE sS mM argsA below meth cC s₁ Bd hml0 hP hK
  obtain ⟨rfl, hZ, hh⟩ := hP
  have hx := Bd.exec
  have hby := Bd.bytes
  have hml : cC.maxLocals = 3 := hml0
  have hown : sS.vm.findClass "java/lang/StringLatin1" = some mM.cls := findClass_of_methodNamed Bd.named
  have hnm := (name_of_methodNamed Bd.named Bd.method).1
  have X0 : Stand pP l eE oR3 sS mM #[(.ref d), (.ref e2)] below meth cC s₁ [] 0 0 := Stand.of_body Bd
  have e0 : s₁.heap = h0 := by rw [← hh, Bd.state]; rfl
  have N0 := Fr.nil n0
  have pre0 : ∀ t_, Steps pP.tables eE below (s₁.setTop (mkF mM 0 #[.val (.ref d), .val (.ref e2), .unset] [])) t_ → Steps pP.tables eE below (s₁.setTop (entryFrame mM #[(.ref d), (.ref e2)] 3)) t_ := fun t_ k_ => castTop (ef_leq21 mM d e2) k_
  obtain ⟨cl_1, Ar_1, -, Sa_1, Na_1, -, -⟩ := id V_d
  obtain ⟨cl_2, Ar_2, -, Sa_2, Na_2, -, -⟩ := id V_e2
  obtain ⟨fs, hr, hrun, hended, hW, hsame⟩ := X0.leave (v := some (.int (0 : Int32))) (fun h => by rw [Bd.returns] at h; cases h)
  refine ⟨_, _, pre0 _ ?_, hrun, hended, _, _, rfl, ?_, ⟨_, rfl⟩, hW, hsame.mono (by decide) (by decide)⟩
  · show oS pP eE below s₁ (mkF mM 0 #[.val (.ref d), .val (.ref e2), .unset] []) _
    refine XS.aloadN X0.here hx rfl (hb hby d_jdk_43m13_0) rfl rfl ?_
    show oS pP eE below s₁ (mkF mM 1 #[.val (.ref d), .val (.ref e2), .unset] [(.ref d)]) _
    refine X0.arraylength hx (by rw [e0]; exact Ar_1.1) (State.isArrayOf_alike hZ.alike Ar_1.2.1) (g := (mkF mM 1 #[.val (.ref d), .val (.ref e2), .unset] [(.ref d)])) rfl rfl (hb hby d_jdk_43m13_1) _ ?_
    rw [len_of Sa_1 Na_1]
    refine XS.aloadN X0.here hx rfl (hb hby d_jdk_43m13_2) rfl rfl ?_
    show oS pP eE below s₁ (mkF mM 3 #[.val (.ref d), .val (.ref e2), .unset] [(.ref e2), (.int (2 : Int32))]) _
    refine X0.arraylength hx (by rw [e0]; exact Ar_2.1) (State.isArrayOf_alike hZ.alike Ar_2.2.1) (g := (mkF mM 3 #[.val (.ref d), .val (.ref e2), .unset] [(.ref e2), (.int (2 : Int32))])) rfl rfl (hb hby d_jdk_43m13_3) _ ?_
    rw [len_of Sa_2 Na_2]
    refine XS.icmpYes X0.here hx rfl (pc0 := 4) (pc' := 34) rfl (hb hby d_jdk_43m13_4) rfl (by decide) (by decide) (by decide) ?_
    refine XS.iconst X0.here hx rfl (hb hby d_jdk_43m13_34) ?_
    show oS pP eE below s₁ (mkF mM 35 #[.val (.ref d), .val (.ref e2), .unset] [(.int (0 : Int32))]) _
    exact retN X0 hx (t := .boolean) Bd.returns (by simp) (hb hby d_jdk_43m13_35) hr
  · show Q_leq21 Z d k e2 k2 x0 x1 y0 h0 n0 _ s₁.heap _
    rw [e0]
    exact ⟨rfl, N0, rfl⟩
def Q_leq22 (Z : State) (d : Addr) (k : ClassId) (e2 : Addr) (k2 : ClassId) (x0 : Int32) (x1 : Int32) (y0 : Int32) (y1 : Int32) (h0 : Heap) (n0 : Nat) (v_ : Option Value) (h_ : Heap) (L_ : List Loc) : Prop := v_ = some (.int (own_e2 x0 y0 x1 y1)) ∧ Fr n0 L_ ∧ h_ = h0
theorem ef_leq22_0 (mM : MethodId) (x0 : Addr) (x1 : Addr) : entryFrame mM #[(.ref x0), (.ref x1)] 3 = mkF mM 0 #[.val (.ref x0), .val (.ref x1), .unset] [] := by first | (simp [entryFrame, mkF, argsToLocals, Value.category]; done) | rfl
set_option maxRecDepth 65536 in
set_option maxHeartbeats 40000000 in
theorem rm_leq22_0 (l : Launch) (Z : State) (a0 : Array Value) (hw : ∀ d ∈ tables_1, d.before a0 Z = true) (ws : List Jvm.Cond) (d : Addr) (k : ClassId) (e2 : Addr) (k2 : ClassId) (x0 : Int32) (x1 : Int32) (y0 : Int32) (y1 : Int32) (h0 : Heap) (n0 : Nat) (Z0 : n0 ≤ h0.size) (V_d : Arv Z h0 d k .byte (2 : Int32) [(.int x0), (.int x1)] (.int (0 : Int32))) (V_e2 : Arv Z h0 e2 k2 .byte (2 : Int32) [(.int y0), (.int y1)] (.int (0 : Int32))) (hx0 : ¬ x0 = y0) :
    MetFree l (⟨"java/lang/StringLatin1", "equals", "([B[B)Z"⟩ : MethodName) (head1 (Jvm.Cond.code (⟨"java/lang/StringLatin1", "equals", "([B[B)Z"⟩ : MethodName) jdk_43_method_13_code 3 (some .boolean) :: ws) oR3) (fun aa_ U_ => aa_ = #[(.ref d), (.ref e2)] ∧ Z.Warmed39 U_.vm ∧ U_.heap = h0) (fun _ _ _ _ _ => True) (fun _ U_ o_ U'_ => ∃ v_ L_, o_ = .returned v_ ∧ Q_leq22 Z d k e2 k2 x0 x1 y0 y1 h0 n0 v_ U'_.heap L_ ∧ FrameEnd U_ o_ U'_ L_ oR3.cells oR3.slots) := by
  refine MetFree.of_bodySF (plainFor_of_name pn_6) hisR ?_
  intro pP eE sS mM argsA below meth cC s₁ Bd hml0 hP hK
  obtain ⟨rfl, hZ, hh⟩ := hP
  have hx := Bd.exec
  have hby := Bd.bytes
  have hml : cC.maxLocals = 3 := hml0
  have hown : sS.vm.findClass "java/lang/StringLatin1" = some mM.cls := findClass_of_methodNamed Bd.named
  have hnm := (name_of_methodNamed Bd.named Bd.method).1
  have X0 : Stand pP l eE oR3 sS mM #[(.ref d), (.ref e2)] below meth cC s₁ [] 0 0 := Stand.of_body Bd
  have e0 : s₁.heap = h0 := by rw [← hh, Bd.state]; rfl
  have N0 := Fr.nil n0
  have pre0 : ∀ t_, Steps pP.tables eE below (s₁.setTop (mkF mM 0 #[.val (.ref d), .val (.ref e2), .unset] [])) t_ → Steps pP.tables eE below (s₁.setTop (entryFrame mM #[(.ref d), (.ref e2)] 3)) t_ := fun t_ k_ => castTop (ef_leq22_0 mM d e2) k_
  obtain ⟨cl_1, Ar_1, -, Sa_1, Na_1, -, -⟩ := id V_d
  obtain ⟨cl_2, Ar_2, -, Sa_2, Na_2, -, -⟩ := id V_e2
  obtain ⟨cl_3, Ar_3, -, Sa_3, Na_3, -, -⟩ := id V_d
  obtain ⟨cl_4, Ar_4, qa_4, Sa_4, Na_4, Ha_4, Ga_4⟩ := id V_d
  have hin_4 : ¬ ((0 : Int32) < 0 ∨ cl_4.slots.size ≤ ((0 : Int32)).toNatClampNeg) := inb_of Sa_4 ⟨by decide, by decide⟩
  have hat_4 : cl_4.slots[((0 : Int32)).toNatClampNeg]? = some (.int x0) := Has.at Ha_4 hin_4 rfl
  obtain ⟨cl_5, Ar_5, qa_5, Sa_5, Na_5, Ha_5, Ga_5⟩ := id V_e2
  have hin_5 : ¬ ((0 : Int32) < 0 ∨ cl_5.slots.size ≤ ((0 : Int32)).toNatClampNeg) := inb_of Sa_5 ⟨by decide, by decide⟩
  have hat_5 : cl_5.slots[((0 : Int32)).toNatClampNeg]? = some (.int y0) := Has.at Ha_5 hin_5 rfl
  obtain ⟨fs, hr, hrun, hended, hW, hsame⟩ := X0.leave (v := some (.int (0 : Int32))) (fun h => by rw [Bd.returns] at h; cases h)
  refine ⟨_, _, pre0 _ ?_, hrun, hended, _, _, rfl, ?_, ⟨_, rfl⟩, hW, hsame.mono (by decide) (by decide)⟩
  · show oS pP eE below s₁ (mkF mM 0 #[.val (.ref d), .val (.ref e2), .unset] []) _
    refine XS.aloadN X0.here hx rfl (hb hby d_jdk_43m13_0) rfl rfl ?_
    show oS pP eE below s₁ (mkF mM 1 #[.val (.ref d), .val (.ref e2), .unset] [(.ref d)]) _
    refine X0.arraylength hx (by rw [e0]; exact Ar_1.1) (State.isArrayOf_alike hZ.alike Ar_1.2.1) (g := (mkF mM 1 #[.val (.ref d), .val (.ref e2), .unset] [(.ref d)])) rfl rfl (hb hby d_jdk_43m13_1) _ ?_
    rw [len_of Sa_1 Na_1]
    refine XS.aloadN X0.here hx rfl (hb hby d_jdk_43m13_2) rfl rfl ?_
    show oS pP eE below s₁ (mkF mM 3 #[.val (.ref d), .val (.ref e2), .unset] [(.ref e2), (.int (2 : Int32))]) _
    refine X0.arraylength hx (by rw [e0]; exact Ar_2.1) (State.isArrayOf_alike hZ.alike Ar_2.2.1) (g := (mkF mM 3 #[.val (.ref d), .val (.ref e2), .unset] [(.ref e2), (.int (2 : Int32))])) rfl rfl (hb hby d_jdk_43m13_3) _ ?_
    rw [len_of Sa_2 Na_2]
    refine XS.icmpNo X0.here hx rfl (hb hby d_jdk_43m13_4) rfl (by decide) ?_
    refine XS.iconst X0.here hx rfl (hb hby d_jdk_43m13_7) ?_
    refine XS.istoreN X0.here hx rfl (hb hby d_jdk_43m13_8) rfl (l' := #[.val (.ref d), .val (.ref e2), .val (.int (0 : Int32))]) rfl ?_
    refine XS.iloadN X0.here hx rfl (hb hby d_jdk_43m13_9) rfl ?_
    refine XS.aloadN X0.here hx rfl (hb hby d_jdk_43m13_10) rfl rfl ?_
    show oS pP eE below s₁ (mkF mM 11 #[.val (.ref d), .val (.ref e2), .val (.int (0 : Int32))] [(.ref d), (.int (0 : Int32))]) _
    refine X0.arraylength hx (by rw [e0]; exact Ar_3.1) (State.isArrayOf_alike hZ.alike Ar_3.2.1) (g := (mkF mM 11 #[.val (.ref d), .val (.ref e2), .val (.int (0 : Int32))] [(.ref d), (.int (0 : Int32))])) rfl rfl (hb hby d_jdk_43m13_11) _ ?_
    rw [len_of Sa_3 Na_3]
    refine XS.icmpNo X0.here hx rfl (hb hby d_jdk_43m13_12) rfl (by decide) ?_
    refine XS.aloadN X0.here hx rfl (hb hby d_jdk_43m13_15) rfl rfl ?_
    refine XS.iloadN X0.here hx rfl (hb hby d_jdk_43m13_16) rfl ?_
    show oS pP eE below s₁ (mkF mM 17 #[.val (.ref d), .val (.ref e2), .val (.int (0 : Int32))] [(.int (0 : Int32)), (.ref d)]) _
    refine X0.baloadBytes hx (j := (0 : Int32)) (v := (.int x0)) (by rw [e0]; exact Ar_4.1) (State.isArrayOf_alike hZ.alike Ar_4.2.1) Ar_4.2.2 hin_4 hat_4 (g := (mkF mM 17 #[.val (.ref d), .val (.ref e2), .val (.int (0 : Int32))] [(.int (0 : Int32)), (.ref d)])) rfl rfl (hb hby d_jdk_43m13_17) _ ?_
    refine XS.aloadN X0.here hx rfl (hb hby d_jdk_43m13_18) rfl rfl ?_
    refine XS.iloadN X0.here hx rfl (hb hby d_jdk_43m13_19) rfl ?_
    show oS pP eE below s₁ (mkF mM 20 #[.val (.ref d), .val (.ref e2), .val (.int (0 : Int32))] [(.int (0 : Int32)), (.ref e2), (.int x0)]) _
    refine X0.baloadBytes hx (j := (0 : Int32)) (v := (.int y0)) (by rw [e0]; exact Ar_5.1) (State.isArrayOf_alike hZ.alike Ar_5.2.1) Ar_5.2.2 hin_5 hat_5 (g := (mkF mM 20 #[.val (.ref d), .val (.ref e2), .val (.int (0 : Int32))] [(.int (0 : Int32)), (.ref e2), (.int x0)])) rfl rfl (hb hby d_jdk_43m13_20) _ ?_
    refine XS.icmpNo X0.here hx rfl (hb hby d_jdk_43m13_21) rfl (XT.ii_eq_f hx0) ?_
    refine XS.iconst X0.here hx rfl (hb hby d_jdk_43m13_24) ?_
    show oS pP eE below s₁ (mkF mM 25 #[.val (.ref d), .val (.ref e2), .val (.int (0 : Int32))] [(.int (0 : Int32))]) _
    exact retN X0 hx (t := .boolean) Bd.returns (by simp) (hb hby d_jdk_43m13_25) hr
  · show Q_leq22 Z d k e2 k2 x0 x1 y0 y1 h0 n0 _ s₁.heap _
    rw [e0]
    exact ⟨(congrArg (fun z => some (Value.int z)) (if_neg (fun z => hx0 z.1)).symm), N0, rfl⟩
theorem ef_leq22_1 (mM : MethodId) (x0 : Addr) (x1 : Addr) : entryFrame mM #[(.ref x0), (.ref x1)] 3 = mkF mM 0 #[.val (.ref x0), .val (.ref x1), .unset] [] := by first | (simp [entryFrame, mkF, argsToLocals, Value.category]; done) | rfl
set_option maxRecDepth 65536 in
set_option maxHeartbeats 40000000 in
theorem rm_leq22_1 (l : Launch) (Z : State) (a0 : Array Value) (hw : ∀ d ∈ tables_1, d.before a0 Z = true) (ws : List Jvm.Cond) (d : Addr) (k : ClassId) (e2 : Addr) (k2 : ClassId) (x0 : Int32) (x1 : Int32) (y0 : Int32) (y1 : Int32) (h0 : Heap) (n0 : Nat) (Z0 : n0 ≤ h0.size) (V_d : Arv Z h0 d k .byte (2 : Int32) [(.int x0), (.int x1)] (.int (0 : Int32))) (V_e2 : Arv Z h0 e2 k2 .byte (2 : Int32) [(.int y0), (.int y1)] (.int (0 : Int32))) (hx0 : x0 = y0) (hx1 : ¬ x1 = y1) :
    MetFree l (⟨"java/lang/StringLatin1", "equals", "([B[B)Z"⟩ : MethodName) (head1 (Jvm.Cond.code (⟨"java/lang/StringLatin1", "equals", "([B[B)Z"⟩ : MethodName) jdk_43_method_13_code 3 (some .boolean) :: ws) oR3) (fun aa_ U_ => aa_ = #[(.ref d), (.ref e2)] ∧ Z.Warmed39 U_.vm ∧ U_.heap = h0) (fun _ _ _ _ _ => True) (fun _ U_ o_ U'_ => ∃ v_ L_, o_ = .returned v_ ∧ Q_leq22 Z d k e2 k2 x0 x1 y0 y1 h0 n0 v_ U'_.heap L_ ∧ FrameEnd U_ o_ U'_ L_ oR3.cells oR3.slots) := by
  refine MetFree.of_bodySF (plainFor_of_name pn_6) hisR ?_
  intro pP eE sS mM argsA below meth cC s₁ Bd hml0 hP hK
  obtain ⟨rfl, hZ, hh⟩ := hP
  have hx := Bd.exec
  have hby := Bd.bytes
  have hml : cC.maxLocals = 3 := hml0
  have hown : sS.vm.findClass "java/lang/StringLatin1" = some mM.cls := findClass_of_methodNamed Bd.named
  have hnm := (name_of_methodNamed Bd.named Bd.method).1
  have X0 : Stand pP l eE oR3 sS mM #[(.ref d), (.ref e2)] below meth cC s₁ [] 0 0 := Stand.of_body Bd
  have e0 : s₁.heap = h0 := by rw [← hh, Bd.state]; rfl
  have N0 := Fr.nil n0
  have pre0 : ∀ t_, Steps pP.tables eE below (s₁.setTop (mkF mM 0 #[.val (.ref d), .val (.ref e2), .unset] [])) t_ → Steps pP.tables eE below (s₁.setTop (entryFrame mM #[(.ref d), (.ref e2)] 3)) t_ := fun t_ k_ => castTop (ef_leq22_1 mM d e2) k_
  obtain ⟨cl_1, Ar_1, -, Sa_1, Na_1, -, -⟩ := id V_d
  obtain ⟨cl_2, Ar_2, -, Sa_2, Na_2, -, -⟩ := id V_e2
  obtain ⟨cl_3, Ar_3, -, Sa_3, Na_3, -, -⟩ := id V_d
  obtain ⟨cl_4, Ar_4, qa_4, Sa_4, Na_4, Ha_4, Ga_4⟩ := id V_d
  have hin_4 : ¬ ((0 : Int32) < 0 ∨ cl_4.slots.size ≤ ((0 : Int32)).toNatClampNeg) := inb_of Sa_4 ⟨by decide, by decide⟩
  have hat_4 : cl_4.slots[((0 : Int32)).toNatClampNeg]? = some (.int x0) := Has.at Ha_4 hin_4 rfl
  obtain ⟨cl_5, Ar_5, qa_5, Sa_5, Na_5, Ha_5, Ga_5⟩ := id V_e2
  have hin_5 : ¬ ((0 : Int32) < 0 ∨ cl_5.slots.size ≤ ((0 : Int32)).toNatClampNeg) := inb_of Sa_5 ⟨by decide, by decide⟩
  have hat_5 : cl_5.slots[((0 : Int32)).toNatClampNeg]? = some (.int y0) := Has.at Ha_5 hin_5 rfl
  obtain ⟨cl_6, Ar_6, -, Sa_6, Na_6, -, -⟩ := id V_d
  obtain ⟨cl_7, Ar_7, qa_7, Sa_7, Na_7, Ha_7, Ga_7⟩ := id V_d
  have hin_7 : ¬ ((1 : Int32) < 0 ∨ cl_7.slots.size ≤ ((1 : Int32)).toNatClampNeg) := inb_of Sa_7 ⟨by decide, by decide⟩
  have hat_7 : cl_7.slots[((1 : Int32)).toNatClampNeg]? = some (.int x1) := Has.at Ha_7 hin_7 rfl
  obtain ⟨cl_8, Ar_8, qa_8, Sa_8, Na_8, Ha_8, Ga_8⟩ := id V_e2
  have hin_8 : ¬ ((1 : Int32) < 0 ∨ cl_8.slots.size ≤ ((1 : Int32)).toNatClampNeg) := inb_of Sa_8 ⟨by decide, by decide⟩
  have hat_8 : cl_8.slots[((1 : Int32)).toNatClampNeg]? = some (.int y1) := Has.at Ha_8 hin_8 rfl
  obtain ⟨fs, hr, hrun, hended, hW, hsame⟩ := X0.leave (v := some (.int (0 : Int32))) (fun h => by rw [Bd.returns] at h; cases h)
  refine ⟨_, _, pre0 _ ?_, hrun, hended, _, _, rfl, ?_, ⟨_, rfl⟩, hW, hsame.mono (by decide) (by decide)⟩
  · show oS pP eE below s₁ (mkF mM 0 #[.val (.ref d), .val (.ref e2), .unset] []) _
    refine XS.aloadN X0.here hx rfl (hb hby d_jdk_43m13_0) rfl rfl ?_
    show oS pP eE below s₁ (mkF mM 1 #[.val (.ref d), .val (.ref e2), .unset] [(.ref d)]) _
    refine X0.arraylength hx (by rw [e0]; exact Ar_1.1) (State.isArrayOf_alike hZ.alike Ar_1.2.1) (g := (mkF mM 1 #[.val (.ref d), .val (.ref e2), .unset] [(.ref d)])) rfl rfl (hb hby d_jdk_43m13_1) _ ?_
    rw [len_of Sa_1 Na_1]
    refine XS.aloadN X0.here hx rfl (hb hby d_jdk_43m13_2) rfl rfl ?_
    show oS pP eE below s₁ (mkF mM 3 #[.val (.ref d), .val (.ref e2), .unset] [(.ref e2), (.int (2 : Int32))]) _
    refine X0.arraylength hx (by rw [e0]; exact Ar_2.1) (State.isArrayOf_alike hZ.alike Ar_2.2.1) (g := (mkF mM 3 #[.val (.ref d), .val (.ref e2), .unset] [(.ref e2), (.int (2 : Int32))])) rfl rfl (hb hby d_jdk_43m13_3) _ ?_
    rw [len_of Sa_2 Na_2]
    refine XS.icmpNo X0.here hx rfl (hb hby d_jdk_43m13_4) rfl (by decide) ?_
    refine XS.iconst X0.here hx rfl (hb hby d_jdk_43m13_7) ?_
    refine XS.istoreN X0.here hx rfl (hb hby d_jdk_43m13_8) rfl (l' := #[.val (.ref d), .val (.ref e2), .val (.int (0 : Int32))]) rfl ?_
    refine XS.iloadN X0.here hx rfl (hb hby d_jdk_43m13_9) rfl ?_
    refine XS.aloadN X0.here hx rfl (hb hby d_jdk_43m13_10) rfl rfl ?_
    show oS pP eE below s₁ (mkF mM 11 #[.val (.ref d), .val (.ref e2), .val (.int (0 : Int32))] [(.ref d), (.int (0 : Int32))]) _
    refine X0.arraylength hx (by rw [e0]; exact Ar_3.1) (State.isArrayOf_alike hZ.alike Ar_3.2.1) (g := (mkF mM 11 #[.val (.ref d), .val (.ref e2), .val (.int (0 : Int32))] [(.ref d), (.int (0 : Int32))])) rfl rfl (hb hby d_jdk_43m13_11) _ ?_
    rw [len_of Sa_3 Na_3]
    refine XS.icmpNo X0.here hx rfl (hb hby d_jdk_43m13_12) rfl (by decide) ?_
    refine XS.aloadN X0.here hx rfl (hb hby d_jdk_43m13_15) rfl rfl ?_
    refine XS.iloadN X0.here hx rfl (hb hby d_jdk_43m13_16) rfl ?_
    show oS pP eE below s₁ (mkF mM 17 #[.val (.ref d), .val (.ref e2), .val (.int (0 : Int32))] [(.int (0 : Int32)), (.ref d)]) _
    refine X0.baloadBytes hx (j := (0 : Int32)) (v := (.int x0)) (by rw [e0]; exact Ar_4.1) (State.isArrayOf_alike hZ.alike Ar_4.2.1) Ar_4.2.2 hin_4 hat_4 (g := (mkF mM 17 #[.val (.ref d), .val (.ref e2), .val (.int (0 : Int32))] [(.int (0 : Int32)), (.ref d)])) rfl rfl (hb hby d_jdk_43m13_17) _ ?_
    refine XS.aloadN X0.here hx rfl (hb hby d_jdk_43m13_18) rfl rfl ?_
    refine XS.iloadN X0.here hx rfl (hb hby d_jdk_43m13_19) rfl ?_
    show oS pP eE below s₁ (mkF mM 20 #[.val (.ref d), .val (.ref e2), .val (.int (0 : Int32))] [(.int (0 : Int32)), (.ref e2), (.int x0)]) _
    refine X0.baloadBytes hx (j := (0 : Int32)) (v := (.int y0)) (by rw [e0]; exact Ar_5.1) (State.isArrayOf_alike hZ.alike Ar_5.2.1) Ar_5.2.2 hin_5 hat_5 (g := (mkF mM 20 #[.val (.ref d), .val (.ref e2), .val (.int (0 : Int32))] [(.int (0 : Int32)), (.ref e2), (.int x0)])) rfl rfl (hb hby d_jdk_43m13_20) _ ?_
    refine XS.icmpYes X0.here hx rfl (pc0 := 21) (pc' := 26) rfl (hb hby d_jdk_43m13_21) rfl (XT.ii_eq_t hx0) (by decide) (by decide) ?_
    show oS pP eE below s₁ (mkF mM 26 #[.val (.ref d), .val (.ref e2), .val (.int (0 : Int32))] []) _
    refine XS.iinc X0.here hx rfl (hb hby d_jdk_43m13_26) rfl (l' := #[.val (.ref d), .val (.ref e2), .val (.int ((0 : Int32) + (1 : Int32)))]) rfl ?_
    show Steps pP.tables eE below (s₁.setTop (mkF mM 29 #[.val (.ref d), .val (.ref e2), .val (.int ((0 : Int32) + (1 : Int32)))] [])) _
    rw [(by decide : ((0 : Int32) + (1 : Int32)) = (1 : Int32))]
    refine XS.goto X0.here hx rfl (pc0 := 29) (pc' := 9) rfl (hb hby d_jdk_43m13_29) (by decide) (by decide) ?_
    refine XS.iloadN X0.here hx rfl (hb hby d_jdk_43m13_9) rfl ?_
    refine XS.aloadN X0.here hx rfl (hb hby d_jdk_43m13_10) rfl rfl ?_
    show oS pP eE below s₁ (mkF mM 11 #[.val (.ref d), .val (.ref e2), .val (.int (1 : Int32))] [(.ref d), (.int (1 : Int32))]) _
    refine X0.arraylength hx (by rw [e0]; exact Ar_6.1) (State.isArrayOf_alike hZ.alike Ar_6.2.1) (g := (mkF mM 11 #[.val (.ref d), .val (.ref e2), .val (.int (1 : Int32))] [(.ref d), (.int (1 : Int32))])) rfl rfl (hb hby d_jdk_43m13_11) _ ?_
    rw [len_of Sa_6 Na_6]
    refine XS.icmpNo X0.here hx rfl (hb hby d_jdk_43m13_12) rfl (by decide) ?_
    refine XS.aloadN X0.here hx rfl (hb hby d_jdk_43m13_15) rfl rfl ?_
    refine XS.iloadN X0.here hx rfl (hb hby d_jdk_43m13_16) rfl ?_
    show oS pP eE below s₁ (mkF mM 17 #[.val (.ref d), .val (.ref e2), .val (.int (1 : Int32))] [(.int (1 : Int32)), (.ref d)]) _
    refine X0.baloadBytes hx (j := (1 : Int32)) (v := (.int x1)) (by rw [e0]; exact Ar_7.1) (State.isArrayOf_alike hZ.alike Ar_7.2.1) Ar_7.2.2 hin_7 hat_7 (g := (mkF mM 17 #[.val (.ref d), .val (.ref e2), .val (.int (1 : Int32))] [(.int (1 : Int32)), (.ref d)])) rfl rfl (hb hby d_jdk_43m13_17) _ ?_
    refine XS.aloadN X0.here hx rfl (hb hby d_jdk_43m13_18) rfl rfl ?_
    refine XS.iloadN X0.here hx rfl (hb hby d_jdk_43m13_19) rfl ?_
    show oS pP eE below s₁ (mkF mM 20 #[.val (.ref d), .val (.ref e2), .val (.int (1 : Int32))] [(.int (1 : Int32)), (.ref e2), (.int x1)]) _
    refine X0.baloadBytes hx (j := (1 : Int32)) (v := (.int y1)) (by rw [e0]; exact Ar_8.1) (State.isArrayOf_alike hZ.alike Ar_8.2.1) Ar_8.2.2 hin_8 hat_8 (g := (mkF mM 20 #[.val (.ref d), .val (.ref e2), .val (.int (1 : Int32))] [(.int (1 : Int32)), (.ref e2), (.int x1)])) rfl rfl (hb hby d_jdk_43m13_20) _ ?_
    refine XS.icmpNo X0.here hx rfl (hb hby d_jdk_43m13_21) rfl (XT.ii_eq_f hx1) ?_
    refine XS.iconst X0.here hx rfl (hb hby d_jdk_43m13_24) ?_
    show oS pP eE below s₁ (mkF mM 25 #[.val (.ref d), .val (.ref e2), .val (.int (1 : Int32))] [(.int (0 : Int32))]) _
    exact retN X0 hx (t := .boolean) Bd.returns (by simp) (hb hby d_jdk_43m13_25) hr
  · show Q_leq22 Z d k e2 k2 x0 x1 y0 y1 h0 n0 _ s₁.heap _
    rw [e0]
    exact ⟨(congrArg (fun z => some (Value.int z)) (if_neg (fun z => hx1 z.2)).symm), N0, rfl⟩
theorem ef_leq22_2 (mM : MethodId) (x0 : Addr) (x1 : Addr) : entryFrame mM #[(.ref x0), (.ref x1)] 3 = mkF mM 0 #[.val (.ref x0), .val (.ref x1), .unset] [] := by first | (simp [entryFrame, mkF, argsToLocals, Value.category]; done) | rfl
set_option maxRecDepth 65536 in
set_option maxHeartbeats 40000000 in
theorem rm_leq22_2 (l : Launch) (Z : State) (a0 : Array Value) (hw : ∀ d ∈ tables_1, d.before a0 Z = true) (ws : List Jvm.Cond) (d : Addr) (k : ClassId) (e2 : Addr) (k2 : ClassId) (x0 : Int32) (x1 : Int32) (y0 : Int32) (y1 : Int32) (h0 : Heap) (n0 : Nat) (Z0 : n0 ≤ h0.size) (V_d : Arv Z h0 d k .byte (2 : Int32) [(.int x0), (.int x1)] (.int (0 : Int32))) (V_e2 : Arv Z h0 e2 k2 .byte (2 : Int32) [(.int y0), (.int y1)] (.int (0 : Int32))) (hx0 : x0 = y0) (hx1 : x1 = y1) :
    MetFree l (⟨"java/lang/StringLatin1", "equals", "([B[B)Z"⟩ : MethodName) (head1 (Jvm.Cond.code (⟨"java/lang/StringLatin1", "equals", "([B[B)Z"⟩ : MethodName) jdk_43_method_13_code 3 (some .boolean) :: ws) oR3) (fun aa_ U_ => aa_ = #[(.ref d), (.ref e2)] ∧ Z.Warmed39 U_.vm ∧ U_.heap = h0) (fun _ _ _ _ _ => True) (fun _ U_ o_ U'_ => ∃ v_ L_, o_ = .returned v_ ∧ Q_leq22 Z d k e2 k2 x0 x1 y0 y1 h0 n0 v_ U'_.heap L_ ∧ FrameEnd U_ o_ U'_ L_ oR3.cells oR3.slots) := by
  refine MetFree.of_bodySF (plainFor_of_name pn_6) hisR ?_
  intro pP eE sS mM argsA below meth cC s₁ Bd hml0 hP hK
  obtain ⟨rfl, hZ, hh⟩ := hP
  have hx := Bd.exec
  have hby := Bd.bytes
  have hml : cC.maxLocals = 3 := hml0
  have hown : sS.vm.findClass "java/lang/StringLatin1" = some mM.cls := findClass_of_methodNamed Bd.named
  have hnm := (name_of_methodNamed Bd.named Bd.method).1
  have X0 : Stand pP l eE oR3 sS mM #[(.ref d), (.ref e2)] below meth cC s₁ [] 0 0 := Stand.of_body Bd
  have e0 : s₁.heap = h0 := by rw [← hh, Bd.state]; rfl
  have N0 := Fr.nil n0
  have pre0 : ∀ t_, Steps pP.tables eE below (s₁.setTop (mkF mM 0 #[.val (.ref d), .val (.ref e2), .unset] [])) t_ → Steps pP.tables eE below (s₁.setTop (entryFrame mM #[(.ref d), (.ref e2)] 3)) t_ := fun t_ k_ => castTop (ef_leq22_2 mM d e2) k_
  obtain ⟨cl_1, Ar_1, -, Sa_1, Na_1, -, -⟩ := id V_d
  obtain ⟨cl_2, Ar_2, -, Sa_2, Na_2, -, -⟩ := id V_e2
  obtain ⟨cl_3, Ar_3, -, Sa_3, Na_3, -, -⟩ := id V_d
  obtain ⟨cl_4, Ar_4, qa_4, Sa_4, Na_4, Ha_4, Ga_4⟩ := id V_d
  have hin_4 : ¬ ((0 : Int32) < 0 ∨ cl_4.slots.size ≤ ((0 : Int32)).toNatClampNeg) := inb_of Sa_4 ⟨by decide, by decide⟩
  have hat_4 : cl_4.slots[((0 : Int32)).toNatClampNeg]? = some (.int x0) := Has.at Ha_4 hin_4 rfl
  obtain ⟨cl_5, Ar_5, qa_5, Sa_5, Na_5, Ha_5, Ga_5⟩ := id V_e2
  have hin_5 : ¬ ((0 : Int32) < 0 ∨ cl_5.slots.size ≤ ((0 : Int32)).toNatClampNeg) := inb_of Sa_5 ⟨by decide, by decide⟩
  have hat_5 : cl_5.slots[((0 : Int32)).toNatClampNeg]? = some (.int y0) := Has.at Ha_5 hin_5 rfl
  obtain ⟨cl_6, Ar_6, -, Sa_6, Na_6, -, -⟩ := id V_d
  obtain ⟨cl_7, Ar_7, qa_7, Sa_7, Na_7, Ha_7, Ga_7⟩ := id V_d
  have hin_7 : ¬ ((1 : Int32) < 0 ∨ cl_7.slots.size ≤ ((1 : Int32)).toNatClampNeg) := inb_of Sa_7 ⟨by decide, by decide⟩
  have hat_7 : cl_7.slots[((1 : Int32)).toNatClampNeg]? = some (.int x1) := Has.at Ha_7 hin_7 rfl
  obtain ⟨cl_8, Ar_8, qa_8, Sa_8, Na_8, Ha_8, Ga_8⟩ := id V_e2
  have hin_8 : ¬ ((1 : Int32) < 0 ∨ cl_8.slots.size ≤ ((1 : Int32)).toNatClampNeg) := inb_of Sa_8 ⟨by decide, by decide⟩
  have hat_8 : cl_8.slots[((1 : Int32)).toNatClampNeg]? = some (.int y1) := Has.at Ha_8 hin_8 rfl
  obtain ⟨cl_9, Ar_9, -, Sa_9, Na_9, -, -⟩ := id V_d
  obtain ⟨fs, hr, hrun, hended, hW, hsame⟩ := X0.leave (v := some (.int (1 : Int32))) (fun h => by rw [Bd.returns] at h; cases h)
  refine ⟨_, _, pre0 _ ?_, hrun, hended, _, _, rfl, ?_, ⟨_, rfl⟩, hW, hsame.mono (by decide) (by decide)⟩
  · show oS pP eE below s₁ (mkF mM 0 #[.val (.ref d), .val (.ref e2), .unset] []) _
    refine XS.aloadN X0.here hx rfl (hb hby d_jdk_43m13_0) rfl rfl ?_
    show oS pP eE below s₁ (mkF mM 1 #[.val (.ref d), .val (.ref e2), .unset] [(.ref d)]) _
    refine X0.arraylength hx (by rw [e0]; exact Ar_1.1) (State.isArrayOf_alike hZ.alike Ar_1.2.1) (g := (mkF mM 1 #[.val (.ref d), .val (.ref e2), .unset] [(.ref d)])) rfl rfl (hb hby d_jdk_43m13_1) _ ?_
    rw [len_of Sa_1 Na_1]
    refine XS.aloadN X0.here hx rfl (hb hby d_jdk_43m13_2) rfl rfl ?_
    show oS pP eE below s₁ (mkF mM 3 #[.val (.ref d), .val (.ref e2), .unset] [(.ref e2), (.int (2 : Int32))]) _
    refine X0.arraylength hx (by rw [e0]; exact Ar_2.1) (State.isArrayOf_alike hZ.alike Ar_2.2.1) (g := (mkF mM 3 #[.val (.ref d), .val (.ref e2), .unset] [(.ref e2), (.int (2 : Int32))])) rfl rfl (hb hby d_jdk_43m13_3) _ ?_
    rw [len_of Sa_2 Na_2]
    refine XS.icmpNo X0.here hx rfl (hb hby d_jdk_43m13_4) rfl (by decide) ?_
    refine XS.iconst X0.here hx rfl (hb hby d_jdk_43m13_7) ?_
    refine XS.istoreN X0.here hx rfl (hb hby d_jdk_43m13_8) rfl (l' := #[.val (.ref d), .val (.ref e2), .val (.int (0 : Int32))]) rfl ?_
    refine XS.iloadN X0.here hx rfl (hb hby d_jdk_43m13_9) rfl ?_
    refine XS.aloadN X0.here hx rfl (hb hby d_jdk_43m13_10) rfl rfl ?_
    show oS pP eE below s₁ (mkF mM 11 #[.val (.ref d), .val (.ref e2), .val (.int (0 : Int32))] [(.ref d), (.int (0 : Int32))]) _
    refine X0.arraylength hx (by rw [e0]; exact Ar_3.1) (State.isArrayOf_alike hZ.alike Ar_3.2.1) (g := (mkF mM 11 #[.val (.ref d), .val (.ref e2), .val (.int (0 : Int32))] [(.ref d), (.int (0 : Int32))])) rfl rfl (hb hby d_jdk_43m13_11) _ ?_
    rw [len_of Sa_3 Na_3]
    refine XS.icmpNo X0.here hx rfl (hb hby d_jdk_43m13_12) rfl (by decide) ?_
    refine XS.aloadN X0.here hx rfl (hb hby d_jdk_43m13_15) rfl rfl ?_
    refine XS.iloadN X0.here hx rfl (hb hby d_jdk_43m13_16) rfl ?_
    show oS pP eE below s₁ (mkF mM 17 #[.val (.ref d), .val (.ref e2), .val (.int (0 : Int32))] [(.int (0 : Int32)), (.ref d)]) _
    refine X0.baloadBytes hx (j := (0 : Int32)) (v := (.int x0)) (by rw [e0]; exact Ar_4.1) (State.isArrayOf_alike hZ.alike Ar_4.2.1) Ar_4.2.2 hin_4 hat_4 (g := (mkF mM 17 #[.val (.ref d), .val (.ref e2), .val (.int (0 : Int32))] [(.int (0 : Int32)), (.ref d)])) rfl rfl (hb hby d_jdk_43m13_17) _ ?_
    refine XS.aloadN X0.here hx rfl (hb hby d_jdk_43m13_18) rfl rfl ?_
    refine XS.iloadN X0.here hx rfl (hb hby d_jdk_43m13_19) rfl ?_
    show oS pP eE below s₁ (mkF mM 20 #[.val (.ref d), .val (.ref e2), .val (.int (0 : Int32))] [(.int (0 : Int32)), (.ref e2), (.int x0)]) _
    refine X0.baloadBytes hx (j := (0 : Int32)) (v := (.int y0)) (by rw [e0]; exact Ar_5.1) (State.isArrayOf_alike hZ.alike Ar_5.2.1) Ar_5.2.2 hin_5 hat_5 (g := (mkF mM 20 #[.val (.ref d), .val (.ref e2), .val (.int (0 : Int32))] [(.int (0 : Int32)), (.ref e2), (.int x0)])) rfl rfl (hb hby d_jdk_43m13_20) _ ?_
    refine XS.icmpYes X0.here hx rfl (pc0 := 21) (pc' := 26) rfl (hb hby d_jdk_43m13_21) rfl (XT.ii_eq_t hx0) (by decide) (by decide) ?_
    show oS pP eE below s₁ (mkF mM 26 #[.val (.ref d), .val (.ref e2), .val (.int (0 : Int32))] []) _
    refine XS.iinc X0.here hx rfl (hb hby d_jdk_43m13_26) rfl (l' := #[.val (.ref d), .val (.ref e2), .val (.int ((0 : Int32) + (1 : Int32)))]) rfl ?_
    show Steps pP.tables eE below (s₁.setTop (mkF mM 29 #[.val (.ref d), .val (.ref e2), .val (.int ((0 : Int32) + (1 : Int32)))] [])) _
    rw [(by decide : ((0 : Int32) + (1 : Int32)) = (1 : Int32))]
    refine XS.goto X0.here hx rfl (pc0 := 29) (pc' := 9) rfl (hb hby d_jdk_43m13_29) (by decide) (by decide) ?_
    refine XS.iloadN X0.here hx rfl (hb hby d_jdk_43m13_9) rfl ?_
    refine XS.aloadN X0.here hx rfl (hb hby d_jdk_43m13_10) rfl rfl ?_
    show oS pP eE below s₁ (mkF mM 11 #[.val (.ref d), .val (.ref e2), .val (.int (1 : Int32))] [(.ref d), (.int (1 : Int32))]) _
    refine X0.arraylength hx (by rw [e0]; exact Ar_6.1) (State.isArrayOf_alike hZ.alike Ar_6.2.1) (g := (mkF mM 11 #[.val (.ref d), .val (.ref e2), .val (.int (1 : Int32))] [(.ref d), (.int (1 : Int32))])) rfl rfl (hb hby d_jdk_43m13_11) _ ?_
    rw [len_of Sa_6 Na_6]
    refine XS.icmpNo X0.here hx rfl (hb hby d_jdk_43m13_12) rfl (by decide) ?_
    refine XS.aloadN X0.here hx rfl (hb hby d_jdk_43m13_15) rfl rfl ?_
    refine XS.iloadN X0.here hx rfl (hb hby d_jdk_43m13_16) rfl ?_
    show oS pP eE below s₁ (mkF mM 17 #[.val (.ref d), .val (.ref e2), .val (.int (1 : Int32))] [(.int (1 : Int32)), (.ref d)]) _
    refine X0.baloadBytes hx (j := (1 : Int32)) (v := (.int x1)) (by rw [e0]; exact Ar_7.1) (State.isArrayOf_alike hZ.alike Ar_7.2.1) Ar_7.2.2 hin_7 hat_7 (g := (mkF mM 17 #[.val (.ref d), .val (.ref e2), .val (.int (1 : Int32))] [(.int (1 : Int32)), (.ref d)])) rfl rfl (hb hby d_jdk_43m13_17) _ ?_
    refine XS.aloadN X0.here hx rfl (hb hby d_jdk_43m13_18) rfl rfl ?_
    refine XS.iloadN X0.here hx rfl (hb hby d_jdk_43m13_19) rfl ?_
    show oS pP eE below s₁ (mkF mM 20 #[.val (.ref d), .val (.ref e2), .val (.int (1 : Int32))] [(.int (1 : Int32)), (.ref e2), (.int x1)]) _
    refine X0.baloadBytes hx (j := (1 : Int32)) (v := (.int y1)) (by rw [e0]; exact Ar_8.1) (State.isArrayOf_alike hZ.alike Ar_8.2.1) Ar_8.2.2 hin_8 hat_8 (g := (mkF mM 20 #[.val (.ref d), .val (.ref e2), .val (.int (1 : Int32))] [(.int (1 : Int32)), (.ref e2), (.int x1)])) rfl rfl (hb hby d_jdk_43m13_20) _ ?_
    refine XS.icmpYes X0.here hx rfl (pc0 := 21) (pc' := 26) rfl (hb hby d_jdk_43m13_21) rfl (XT.ii_eq_t hx1) (by decide) (by decide) ?_
    show oS pP eE below s₁ (mkF mM 26 #[.val (.ref d), .val (.ref e2), .val (.int (1 : Int32))] []) _
    refine XS.iinc X0.here hx rfl (hb hby d_jdk_43m13_26) rfl (l' := #[.val (.ref d), .val (.ref e2), .val (.int ((1 : Int32) + (1 : Int32)))]) rfl ?_
    show Steps pP.tables eE below (s₁.setTop (mkF mM 29 #[.val (.ref d), .val (.ref e2), .val (.int ((1 : Int32) + (1 : Int32)))] [])) _
    rw [(by decide : ((1 : Int32) + (1 : Int32)) = (2 : Int32))]
    refine XS.goto X0.here hx rfl (pc0 := 29) (pc' := 9) rfl (hb hby d_jdk_43m13_29) (by decide) (by decide) ?_
    refine XS.iloadN X0.here hx rfl (hb hby d_jdk_43m13_9) rfl ?_
    refine XS.aloadN X0.here hx rfl (hb hby d_jdk_43m13_10) rfl rfl ?_
    show oS pP eE below s₁ (mkF mM 11 #[.val (.ref d), .val (.ref e2), .val (.int (2 : Int32))] [(.ref d), (.int (2 : Int32))]) _
    refine X0.arraylength hx (by rw [e0]; exact Ar_9.1) (State.isArrayOf_alike hZ.alike Ar_9.2.1) (g := (mkF mM 11 #[.val (.ref d), .val (.ref e2), .val (.int (2 : Int32))] [(.ref d), (.int (2 : Int32))])) rfl rfl (hb hby d_jdk_43m13_11) _ ?_
    rw [len_of Sa_9 Na_9]
    refine XS.icmpYes X0.here hx rfl (pc0 := 12) (pc' := 32) rfl (hb hby d_jdk_43m13_12) rfl (by decide) (by decide) (by decide) ?_
    refine XS.iconst X0.here hx rfl (hb hby d_jdk_43m13_32) ?_
    show oS pP eE below s₁ (mkF mM 33 #[.val (.ref d), .val (.ref e2), .val (.int (2 : Int32))] [(.int (1 : Int32))]) _
    exact retN X0 hx (t := .boolean) Bd.returns (by simp) (hb hby d_jdk_43m13_33) hr
  · show Q_leq22 Z d k e2 k2 x0 x1 y0 y1 h0 n0 _ s₁.heap _
    rw [e0]
    exact ⟨(congrArg (fun z => some (Value.int z)) (if_pos ⟨hx0, hx1⟩).symm), N0, rfl⟩
set_option maxRecDepth 65536 in
set_option maxHeartbeats 40000000 in
theorem rm_leq22 (l : Launch) (Z : State) (a0 : Array Value) (hw : ∀ d ∈ tables_1, d.before a0 Z = true) (ws : List Jvm.Cond) (d : Addr) (k : ClassId) (e2 : Addr) (k2 : ClassId) (x0 : Int32) (x1 : Int32) (y0 : Int32) (y1 : Int32) (h0 : Heap) (n0 : Nat) (Z0 : n0 ≤ h0.size) (V_d : Arv Z h0 d k .byte (2 : Int32) [(.int x0), (.int x1)] (.int (0 : Int32))) (V_e2 : Arv Z h0 e2 k2 .byte (2 : Int32) [(.int y0), (.int y1)] (.int (0 : Int32))) :
    MetFree l (⟨"java/lang/StringLatin1", "equals", "([B[B)Z"⟩ : MethodName) (head1 (Jvm.Cond.code (⟨"java/lang/StringLatin1", "equals", "([B[B)Z"⟩ : MethodName) jdk_43_method_13_code 3 (some .boolean) :: ws) oR3) (fun aa_ U_ => aa_ = #[(.ref d), (.ref e2)] ∧ Z.Warmed39 U_.vm ∧ U_.heap = h0) (fun _ _ _ _ _ => True) (fun _ U_ o_ U'_ => ∃ v_ L_, o_ = .returned v_ ∧ Q_leq22 Z d k e2 k2 x0 x1 y0 y1 h0 n0 v_ U'_.heap L_ ∧ FrameEnd U_ o_ U'_ L_ oR3.cells oR3.slots) := by
  by_cases hx0 : x0 = y0
  · by_cases hx1 : x1 = y1
    · exact rm_leq22_2 l Z a0 hw ws d k e2 k2 x0 x1 y0 y1 h0 n0 Z0 V_d V_e2 hx0 hx1
    · exact rm_leq22_1 l Z a0 hw ws d k e2 k2 x0 x1 y0 y1 h0 n0 Z0 V_d V_e2 hx0 hx1
  · exact rm_leq22_0 l Z a0 hw ws d k e2 k2 x0 x1 y0 y1 h0 n0 Z0 V_d V_e2 hx0
def Q_eq (Z : State) (s1 : Addr) (s2 : Addr) (d : Addr) (e2 : Addr) (ev : Int32) (cs : Int32) (h0 : Heap) (n0 : Nat) (v_ : Option Value) (h_ : Heap) (L_ : List Loc) : Prop := v_ = some (.int (own_nz ev)) ∧ Fr n0 L_ ∧ h_ = h0
theorem d_jdk_42m66_0 : decode jdk_42_method_66_code 0 = .ok (.aload_n 0, 1) := by decide +kernel
theorem d_jdk_42m66_1 : decode jdk_42_method_66_code 1 = .ok (.aload_n 1, 1) := by decide +kernel
theorem d_jdk_42m66_2 : decode jdk_42_method_66_code 2 = .ok (.if_acmp .ne 5, 3) := by decide +kernel
theorem d_jdk_42m66_7 : decode jdk_42_method_66_code 7 = .ok (.aload_n 1, 1) := by decide +kernel
theorem d_jdk_42m66_8 : decode jdk_42_method_66_code 8 = .ok (.instanceof 10, 3) := by decide +kernel
theorem d_jdk_42m66_11 : decode jdk_42_method_66_code 11 = .ok (.ifCond .eq 43, 3) := by decide +kernel
theorem d_jdk_42m66_14 : decode jdk_42_method_66_code 14 = .ok (.aload_n 1, 1) := by decide +kernel
theorem d_jdk_42m66_15 : decode jdk_42_method_66_code 15 = .ok (.checkcast 10, 3) := by decide +kernel
theorem d_jdk_42m66_18 : decode jdk_42_method_66_code 18 = .ok (.astore_n 2, 1) := by decide +kernel
theorem d_jdk_42m66_19 : decode jdk_42_method_66_code 19 = .ok (.getstatic 38, 3) := by decide +kernel
theorem d_jdk_42m66_22 : decode jdk_42_method_66_code 22 = .ok (.ifCond .eq 14, 3) := by decide +kernel
theorem d_jdk_42m66_25 : decode jdk_42_method_66_code 25 = .ok (.aload_n 0, 1) := by decide +kernel
theorem d_jdk_42m66_26 : decode jdk_42_method_66_code 26 = .ok (.getfield 15, 3) := by decide +kernel
theorem d_jdk_42m66_29 : decode jdk_42_method_66_code 29 = .ok (.aload_n 2, 1) := by decide +kernel
theorem d_jdk_42m66_30 : decode jdk_42_method_66_code 30 = .ok (.getfield 15, 3) := by decide +kernel
theorem d_jdk_42m66_33 : decode jdk_42_method_66_code 33 = .ok (.if_icmp .ne 21, 3) := by decide +kernel
theorem d_jdk_42m66_36 : decode jdk_42_method_66_code 36 = .ok (.aload_n 0, 1) := by decide +kernel
theorem d_jdk_42m66_37 : decode jdk_42_method_66_code 37 = .ok (.getfield 9, 3) := by decide +kernel
theorem d_jdk_42m66_40 : decode jdk_42_method_66_code 40 = .ok (.aload_n 2, 1) := by decide +kernel
theorem d_jdk_42m66_41 : decode jdk_42_method_66_code 41 = .ok (.getfield 9, 3) := by decide +kernel
theorem d_jdk_42m66_44 : decode jdk_42_method_66_code 44 = .ok (.invokestatic 541, 3) := by decide +kernel
theorem pd_7 : parseMethodDescriptor "([B[B)Z" = some ⟨[(.array .byte), (.array .byte)], some .boolean⟩ := by decide +kernel
abbrev MN7 : MethodName := ⟨"java/lang/StringLatin1", "equals", "([B[B)Z"⟩
theorem d_jdk_42m66_47 : decode jdk_42_method_66_code 47 = .ok (.ifCond .eq 7, 3) := by decide +kernel
theorem d_jdk_42m66_54 : decode jdk_42_method_66_code 54 = .ok (.iconst 0, 1) := by decide +kernel
theorem d_jdk_42m66_55 : decode jdk_42_method_66_code 55 = .ok (.ireturn, 1) := by decide +kernel
theorem ef_eq_0 (mM : MethodId) (x0 : Addr) (x1 : Addr) : entryFrame mM #[(.ref x0), (.ref x1)] 3 = mkF mM 0 #[.val (.ref x0), .val (.ref x1), .unset] [] := by first | (simp [entryFrame, mkF, argsToLocals, Value.category]; done) | rfl
set_option maxRecDepth 65536 in
set_option maxHeartbeats 40000000 in
theorem rm_eq_0 (l : Launch) (Z : State) (a0 : Array Value) (hw : ∀ d ∈ tables_1, d.before a0 Z = true) (ws : List Jvm.Cond) (s1 : Addr) (s2 : Addr) (d : Addr) (e2 : Addr) (ev : Int32) (cs : Int32) (h0 : Heap) (n0 : Nat) (Z0 : n0 ≤ h0.size) (F_value_s1 : Fld Z h0 s1 "java/lang/String" "value" "[B" (.ref d)) (F_coder_s1 : Fld Z h0 s1 "java/lang/String" "coder" "B" (.int (0 : Int32))) (E_s1 : Exa Z h0 s1 "java/lang/String") (F_value_s2 : Fld Z h0 s2 "java/lang/String" "value" "[B" (.ref e2)) (F_coder_s2 : Fld Z h0 s2 "java/lang/String" "coder" "B" (.int (0 : Int32))) (E_s2 : Exa Z h0 s2 "java/lang/String") (S_String_COMPACT_STRINGS : Sta Z h0 "java/lang/String" "COMPACT_STRINGS" "Z" (.int cs)) (hcs : ¬ cs = 0) (hL : own_HL l Z d e2 ev h0 n0) (nss : s1 ≠ s2) (hE : ev = 0) :
    MetFree l (⟨"java/lang/String", "equals", "(Ljava/lang/Object;)Z"⟩ : MethodName) (head1 (Jvm.Cond.code (⟨"java/lang/String", "equals", "(Ljava/lang/Object;)Z"⟩ : MethodName) jdk_42_method_66_code 3 (some .boolean) :: ws) oR14) (fun aa_ U_ => aa_ = #[(.ref s1), (.ref s2)] ∧ Z.Warmed39 U_.vm ∧ U_.heap = h0) (fun _ _ _ _ _ => True) (fun _ U_ o_ U'_ => ∃ v_ L_, o_ = .returned v_ ∧ Q_eq Z s1 s2 d e2 ev cs h0 n0 v_ U'_.heap L_ ∧ FrameEnd U_ o_ U'_ L_ oR14.cells oR14.slots) := by
  refine MetFree.of_bodySF (plainFor_of_name pn_0) hisR ?_
  intro pP eE sS mM argsA below meth cC s₁ Bd hml0 hP hK
  obtain ⟨rfl, hZ, hh⟩ := hP
  have hx := Bd.exec
  have hby := Bd.bytes
  have hml : cC.maxLocals = 3 := hml0
  have hown : sS.vm.findClass "java/lang/String" = some mM.cls := findClass_of_methodNamed Bd.named
  have hnm := (name_of_methodNamed Bd.named Bd.method).1
  have X0 : Stand pP l eE oR14 sS mM #[(.ref s1), (.ref s2)] below meth cC s₁ [] 0 0 := Stand.of_body Bd
  have e0 : s₁.heap = h0 := by rw [← hh, Bd.state]; rfl
  have N0 := Fr.nil n0
  have pre0 : ∀ t_, Steps pP.tables eE below (s₁.setTop (mkF mM 0 #[.val (.ref s1), .val (.ref s2), .unset] [])) t_ → Steps pP.tables eE below (s₁.setTop (entryFrame mM #[(.ref s1), (.ref s2)] 3)) t_ := fun t_ k_ => castTop (ef_eq_0 mM s1 s2) k_
  obtain ⟨T_1, X_1, e_1, st_1⟩ := instY X0 hx hZ hown (ow hw 86 rfl) e0 (Ins.self E_s2) (g := (mkF mM 8 #[.val (.ref s1), .val (.ref s2), .unset] [(.ref s2)])) rfl rfl (hb hby d_jdk_42m66_8)
  obtain ⟨T_2, X_2, e_2, st_2⟩ := castY X_1 hx hZ hown (ow hw 86 rfl) e_1 (Ins.self E_s2) (g := (mkF mM 15 #[.val (.ref s1), .val (.ref s2), .unset] [(.ref s2)])) rfl rfl (hb hby d_jdk_42m66_15)
  obtain ⟨T_3, X_3, e_3, st_3⟩ := getS2 X_2 hx hZ hown (host := "") (Or.inl (ow hw 87 rfl)) Via.refl e_2 S_String_COMPACT_STRINGS (g := (mkF mM 19 #[.val (.ref s1), .val (.ref s2), .val (.ref s2)] [])) rfl (hb hby d_jdk_42m66_19)
  obtain ⟨T_4, X_4, e_4, st_4⟩ := getF X_3 hx hZ hown (host := "") (Or.inl (ow hw 31 rfl)) Via.refl e_3 F_coder_s1 (g := (mkF mM 26 #[.val (.ref s1), .val (.ref s2), .val (.ref s2)] [(.ref s1)])) rfl rfl (hb hby d_jdk_42m66_26)
  obtain ⟨T_5, X_5, e_5, st_5⟩ := getF X_4 hx hZ hown (host := "") (Or.inl (ow hw 31 rfl)) Via.refl e_4 F_coder_s2 (g := (mkF mM 30 #[.val (.ref s1), .val (.ref s2), .val (.ref s2)] [(.ref s2), (.int (0 : Int32))])) rfl rfl (hb hby d_jdk_42m66_30)
  obtain ⟨T_6, X_6, e_6, st_6⟩ := getF X_5 hx hZ hown (host := "") (Or.inl (ow hw 30 rfl)) Via.refl e_5 F_value_s1 (g := (mkF mM 37 #[.val (.ref s1), .val (.ref s2), .val (.ref s2)] [(.ref s1)])) rfl rfl (hb hby d_jdk_42m66_37)
  obtain ⟨T_7, X_7, e_7, st_7⟩ := getF X_6 hx hZ hown (host := "") (Or.inl (ow hw 30 rfl)) Via.refl e_6 F_value_s2 (g := (mkF mM 41 #[.val (.ref s1), .val (.ref s2), .val (.ref s2)] [(.ref s2), (.ref d)])) rfl rfl (hb hby d_jdk_42m66_41)
  obtain ⟨_, _, ⟨T_8, L_8, k_8, n_8⟩, -, X_8, ⟨Lc_8, hQ_8, l_8, y_8, z_8⟩, st_8⟩ := Jvm.LawKit.callS X_7 hx (y := MN7) hown (mvT hZ (ow hw 88 rfl)) (mvT hZ (ow hw 89 rfl)) (mvT hZ (ow hw 90 rfl)) (mvT hZ (ow hw 91 rfl)) (by decide) (backOf (W := 0) (rm_leqH l Z a0 hw [] d e2 ev h0 n0 Z0 hL) hZ (ow hw 91 rfl) (ow hw 90 rfl) (by decide) (by decide)) (g := (mkF mM 44 #[.val (.ref s1), .val (.ref s2), .val (.ref s2)] [(.ref e2), (.ref d)])) rfl (by rw [hml]; rfl) (argsL := [(.ref d), (.ref e2)]) (rest := []) (lenOf pd_7 rfl) rfl (by show 2 * 0 + _ ≤ _; exact Nat.le_of_eq rfl) (hb hby d_jdk_42m66_44) (fun _ _ => ⟨rfl, e_7, (by decide : 0 + 0 ≤ _), (by decide : 0 + 0 ≤ _)⟩)
  dsimp only [Pt.U, Pt.locs, Pt.cells, Pt.slots] at X_8 l_8 y_8 z_8 st_8 hQ_8
  subst l_8 y_8 z_8
  obtain ⟨rfl, N_8q, eh_8⟩ := hQ_8
  have N_8 := Fr.app N0 N_8q
  obtain ⟨fs, hr, hrun, hended, hW, hsame⟩ := X_8.leave (v := some (.int (0 : Int32))) (fun h => by rw [Bd.returns] at h; cases h)
  refine ⟨_, _, pre0 _ ?_, hrun, hended, _, _, rfl, ?_, ⟨_, rfl⟩, hW, hsame.mono (by decide) (by decide)⟩
  · show oS pP eE below s₁ (mkF mM 0 #[.val (.ref s1), .val (.ref s2), .unset] []) _
    refine XS.aloadN X0.here hx rfl (hb hby d_jdk_42m66_0) rfl rfl ?_
    refine XS.aloadN X0.here hx rfl (hb hby d_jdk_42m66_1) rfl rfl ?_
    show oS pP eE below s₁ (mkF mM 2 #[.val (.ref s1), .val (.ref s2), .unset] [(.ref s2), (.ref s1)]) _
    refine Jvm.RoadKit.acmp (g := (mkF mM 2 #[.val (.ref s1), .val (.ref s2), .unset] [(.ref s2), (.ref s1)])) X0 hx rfl rfl rfl (pc0 := 2) (pc' := 7) (same := false) rfl (hb hby d_jdk_42m66_2) rfl (decide_eq_false fun q => nss (Value.ref.inj q)) (by decide) (by decide) ?_
    refine XS.aloadN X0.here hx rfl (hb hby d_jdk_42m66_7) rfl rfl ?_
    show oS pP eE below s₁ (mkF mM 8 #[.val (.ref s1), .val (.ref s2), .unset] [(.ref s2)]) _
    refine st_1 _ ?_
    show oS pP eE below T_1 (mkF mM 11 #[.val (.ref s1), .val (.ref s2), .unset] [(.int (1 : Int32))]) _
    refine XS.ifNo X_1.here hx rfl (hb hby d_jdk_42m66_11) rfl (by decide) ?_
    refine XS.aloadN X_1.here hx rfl (hb hby d_jdk_42m66_14) rfl rfl ?_
    show oS pP eE below T_1 (mkF mM 15 #[.val (.ref s1), .val (.ref s2), .unset] [(.ref s2)]) _
    refine st_2 _ ?_
    show oS pP eE below T_2 (mkF mM 18 #[.val (.ref s1), .val (.ref s2), .unset] [(.ref s2)]) _
    refine XS.astoreN X_2.here hx rfl (hb hby d_jdk_42m66_18) rfl rfl (l' := #[.val (.ref s1), .val (.ref s2), .val (.ref s2)]) rfl ?_
    show oS pP eE below T_2 (mkF mM 19 #[.val (.ref s1), .val (.ref s2), .val (.ref s2)] []) _
    refine st_3 _ ?_
    show oS pP eE below T_3 (mkF mM 22 #[.val (.ref s1), .val (.ref s2), .val (.ref s2)] [(.int cs)]) _
    refine XS.ifNo X_3.here hx rfl (hb hby d_jdk_42m66_22) rfl (XT.i0_eq_f hcs) ?_
    refine XS.aloadN X_3.here hx rfl (hb hby d_jdk_42m66_25) rfl rfl ?_
    show oS pP eE below T_3 (mkF mM 26 #[.val (.ref s1), .val (.ref s2), .val (.ref s2)] [(.ref s1)]) _
    refine st_4 _ ?_
    show oS pP eE below T_4 (mkF mM 29 #[.val (.ref s1), .val (.ref s2), .val (.ref s2)] [(.int (0 : Int32))]) _
    refine XS.aloadN X_4.here hx rfl (hb hby d_jdk_42m66_29) rfl rfl ?_
    show oS pP eE below T_4 (mkF mM 30 #[.val (.ref s1), .val (.ref s2), .val (.ref s2)] [(.ref s2), (.int (0 : Int32))]) _
    refine st_5 _ ?_
    show oS pP eE below T_5 (mkF mM 33 #[.val (.ref s1), .val (.ref s2), .val (.ref s2)] [(.int (0 : Int32)), (.int (0 : Int32))]) _
    refine XS.icmpNo X_5.here hx rfl (hb hby d_jdk_42m66_33) rfl (by decide) ?_
    refine XS.aloadN X_5.here hx rfl (hb hby d_jdk_42m66_36) rfl rfl ?_
    show oS pP eE below T_5 (mkF mM 37 #[.val (.ref s1), .val (.ref s2), .val (.ref s2)] [(.ref s1)]) _
    refine st_6 _ ?_
    show oS pP eE below T_6 (mkF mM 40 #[.val (.ref s1), .val (.ref s2), .val (.ref s2)] [(.ref d)]) _
    refine XS.aloadN X_6.here hx rfl (hb hby d_jdk_42m66_40) rfl rfl ?_
    show oS pP eE below T_6 (mkF mM 41 #[.val (.ref s1), .val (.ref s2), .val (.ref s2)] [(.ref s2), (.ref d)]) _
    refine st_7 _ ?_
    show oS pP eE below T_7 (mkF mM 44 #[.val (.ref s1), .val (.ref s2), .val (.ref s2)] [(.ref e2), (.ref d)]) _
    refine st_8 _ ?_
    show oS pP eE below T_8 (mkF mM 47 #[.val (.ref s1), .val (.ref s2), .val (.ref s2)] [(.int ev)]) _
    refine XS.ifYes X_8.here hx rfl (pc0 := 47) (pc' := 54) rfl (hb hby d_jdk_42m66_47) rfl (XT.i0_eq_t hE) (by decide) (by decide) ?_
    refine XS.iconst X_8.here hx rfl (hb hby d_jdk_42m66_54) ?_
    show oS pP eE below T_8 (mkF mM 55 #[.val (.ref s1), .val (.ref s2), .val (.ref s2)] [(.int (0 : Int32))]) _
    exact retN X_8 hx (t := .boolean) Bd.returns (by simp) (hb hby d_jdk_42m66_55) hr
  · show Q_eq Z s1 s2 d e2 ev cs h0 n0 _ T_8.heap _
    rw [eh_8]
    exact ⟨(congrArg (fun z => some (Value.int z)) (if_pos hE).symm), N_8, rfl⟩
theorem d_jdk_42m66_50 : decode jdk_42_method_66_code 50 = .ok (.iconst 1, 1) := by decide +kernel
theorem d_jdk_42m66_51 : decode jdk_42_method_66_code 51 = .ok (.goto 4, 3) := by decide +kernel
theorem ef_eq_1 (mM : MethodId) (x0 : Addr) (x1 : Addr) : entryFrame mM #[(.ref x0), (.ref x1)] 3 = mkF mM 0 #[.val (.ref x0), .val (.ref x1), .unset] [] := by first | (simp [entryFrame, mkF, argsToLocals, Value.category]; done) | rfl
set_option maxRecDepth 65536 in
set_option maxHeartbeats 40000000 in
theorem rm_eq_1 (l : Launch) (Z : State) (a0 : Array Value) (hw : ∀ d ∈ tables_1, d.before a0 Z = true) (ws : List Jvm.Cond) (s1 : Addr) (s2 : Addr) (d : Addr) (e2 : Addr) (ev : Int32) (cs : Int32) (h0 : Heap) (n0 : Nat) (Z0 : n0 ≤ h0.size) (F_value_s1 : Fld Z h0 s1 "java/lang/String" "value" "[B" (.ref d)) (F_coder_s1 : Fld Z h0 s1 "java/lang/String" "coder" "B" (.int (0 : Int32))) (E_s1 : Exa Z h0 s1 "java/lang/String") (F_value_s2 : Fld Z h0 s2 "java/lang/String" "value" "[B" (.ref e2)) (F_coder_s2 : Fld Z h0 s2 "java/lang/String" "coder" "B" (.int (0 : Int32))) (E_s2 : Exa Z h0 s2 "java/lang/String") (S_String_COMPACT_STRINGS : Sta Z h0 "java/lang/String" "COMPACT_STRINGS" "Z" (.int cs)) (hcs : ¬ cs = 0) (hL : own_HL l Z d e2 ev h0 n0) (nss : s1 ≠ s2) (hE : ¬ ev = 0) :
    MetFree l (⟨"java/lang/String", "equals", "(Ljava/lang/Object;)Z"⟩ : MethodName) (head1 (Jvm.Cond.code (⟨"java/lang/String", "equals", "(Ljava/lang/Object;)Z"⟩ : MethodName) jdk_42_method_66_code 3 (some .boolean) :: ws) oR14) (fun aa_ U_ => aa_ = #[(.ref s1), (.ref s2)] ∧ Z.Warmed39 U_.vm ∧ U_.heap = h0) (fun _ _ _ _ _ => True) (fun _ U_ o_ U'_ => ∃ v_ L_, o_ = .returned v_ ∧ Q_eq Z s1 s2 d e2 ev cs h0 n0 v_ U'_.heap L_ ∧ FrameEnd U_ o_ U'_ L_ oR14.cells oR14.slots) := by
  refine MetFree.of_bodySF (plainFor_of_name pn_0) hisR ?_
  intro pP eE sS mM argsA below meth cC s₁ Bd hml0 hP hK
  obtain ⟨rfl, hZ, hh⟩ := hP
  have hx := Bd.exec
  have hby := Bd.bytes
  have hml : cC.maxLocals = 3 := hml0
  have hown : sS.vm.findClass "java/lang/String" = some mM.cls := findClass_of_methodNamed Bd.named
  have hnm := (name_of_methodNamed Bd.named Bd.method).1
  have X0 : Stand pP l eE oR14 sS mM #[(.ref s1), (.ref s2)] below meth cC s₁ [] 0 0 := Stand.of_body Bd
  have e0 : s₁.heap = h0 := by rw [← hh, Bd.state]; rfl
  have N0 := Fr.nil n0
  have pre0 : ∀ t_, Steps pP.tables eE below (s₁.setTop (mkF mM 0 #[.val (.ref s1), .val (.ref s2), .unset] [])) t_ → Steps pP.tables eE below (s₁.setTop (entryFrame mM #[(.ref s1), (.ref s2)] 3)) t_ := fun t_ k_ => castTop (ef_eq_1 mM s1 s2) k_
  obtain ⟨T_1, X_1, e_1, st_1⟩ := instY X0 hx hZ hown (ow hw 86 rfl) e0 (Ins.self E_s2) (g := (mkF mM 8 #[.val (.ref s1), .val (.ref s2), .unset] [(.ref s2)])) rfl rfl (hb hby d_jdk_42m66_8)
  obtain ⟨T_2, X_2, e_2, st_2⟩ := castY X_1 hx hZ hown (ow hw 86 rfl) e_1 (Ins.self E_s2) (g := (mkF mM 15 #[.val (.ref s1), .val (.ref s2), .unset] [(.ref s2)])) rfl rfl (hb hby d_jdk_42m66_15)
  obtain ⟨T_3, X_3, e_3, st_3⟩ := getS2 X_2 hx hZ hown (host := "") (Or.inl (ow hw 87 rfl)) Via.refl e_2 S_String_COMPACT_STRINGS (g := (mkF mM 19 #[.val (.ref s1), .val (.ref s2), .val (.ref s2)] [])) rfl (hb hby d_jdk_42m66_19)
  obtain ⟨T_4, X_4, e_4, st_4⟩ := getF X_3 hx hZ hown (host := "") (Or.inl (ow hw 31 rfl)) Via.refl e_3 F_coder_s1 (g := (mkF mM 26 #[.val (.ref s1), .val (.ref s2), .val (.ref s2)] [(.ref s1)])) rfl rfl (hb hby d_jdk_42m66_26)
  obtain ⟨T_5, X_5, e_5, st_5⟩ := getF X_4 hx hZ hown (host := "") (Or.inl (ow hw 31 rfl)) Via.refl e_4 F_coder_s2 (g := (mkF mM 30 #[.val (.ref s1), .val (.ref s2), .val (.ref s2)] [(.ref s2), (.int (0 : Int32))])) rfl rfl (hb hby d_jdk_42m66_30)
  obtain ⟨T_6, X_6, e_6, st_6⟩ := getF X_5 hx hZ hown (host := "") (Or.inl (ow hw 30 rfl)) Via.refl e_5 F_value_s1 (g := (mkF mM 37 #[.val (.ref s1), .val (.ref s2), .val (.ref s2)] [(.ref s1)])) rfl rfl (hb hby d_jdk_42m66_37)
  obtain ⟨T_7, X_7, e_7, st_7⟩ := getF X_6 hx hZ hown (host := "") (Or.inl (ow hw 30 rfl)) Via.refl e_6 F_value_s2 (g := (mkF mM 41 #[.val (.ref s1), .val (.ref s2), .val (.ref s2)] [(.ref s2), (.ref d)])) rfl rfl (hb hby d_jdk_42m66_41)
  obtain ⟨_, _, ⟨T_8, L_8, k_8, n_8⟩, -, X_8, ⟨Lc_8, hQ_8, l_8, y_8, z_8⟩, st_8⟩ := Jvm.LawKit.callS X_7 hx (y := MN7) hown (mvT hZ (ow hw 88 rfl)) (mvT hZ (ow hw 89 rfl)) (mvT hZ (ow hw 90 rfl)) (mvT hZ (ow hw 91 rfl)) (by decide) (backOf (W := 0) (rm_leqH l Z a0 hw [] d e2 ev h0 n0 Z0 hL) hZ (ow hw 91 rfl) (ow hw 90 rfl) (by decide) (by decide)) (g := (mkF mM 44 #[.val (.ref s1), .val (.ref s2), .val (.ref s2)] [(.ref e2), (.ref d)])) rfl (by rw [hml]; rfl) (argsL := [(.ref d), (.ref e2)]) (rest := []) (lenOf pd_7 rfl) rfl (by show 2 * 0 + _ ≤ _; exact Nat.le_of_eq rfl) (hb hby d_jdk_42m66_44) (fun _ _ => ⟨rfl, e_7, (by decide : 0 + 0 ≤ _), (by decide : 0 + 0 ≤ _)⟩)
  dsimp only [Pt.U, Pt.locs, Pt.cells, Pt.slots] at X_8 l_8 y_8 z_8 st_8 hQ_8
  subst l_8 y_8 z_8
  obtain ⟨rfl, N_8q, eh_8⟩ := hQ_8
  have N_8 := Fr.app N0 N_8q
  obtain ⟨fs, hr, hrun, hended, hW, hsame⟩ := X_8.leave (v := some (.int (1 : Int32))) (fun h => by rw [Bd.returns] at h; cases h)
  refine ⟨_, _, pre0 _ ?_, hrun, hended, _, _, rfl, ?_, ⟨_, rfl⟩, hW, hsame.mono (by decide) (by decide)⟩
  · show oS pP eE below s₁ (mkF mM 0 #[.val (.ref s1), .val (.ref s2), .unset] []) _
    refine XS.aloadN X0.here hx rfl (hb hby d_jdk_42m66_0) rfl rfl ?_
    refine XS.aloadN X0.here hx rfl (hb hby d_jdk_42m66_1) rfl rfl ?_
    show oS pP eE below s₁ (mkF mM 2 #[.val (.ref s1), .val (.ref s2), .unset] [(.ref s2), (.ref s1)]) _
    refine Jvm.RoadKit.acmp (g := (mkF mM 2 #[.val (.ref s1), .val (.ref s2), .unset] [(.ref s2), (.ref s1)])) X0 hx rfl rfl rfl (pc0 := 2) (pc' := 7) (same := false) rfl (hb hby d_jdk_42m66_2) rfl (decide_eq_false fun q => nss (Value.ref.inj q)) (by decide) (by decide) ?_
    refine XS.aloadN X0.here hx rfl (hb hby d_jdk_42m66_7) rfl rfl ?_
    show oS pP eE below s₁ (mkF mM 8 #[.val (.ref s1), .val (.ref s2), .unset] [(.ref s2)]) _
    refine st_1 _ ?_
    show oS pP eE below T_1 (mkF mM 11 #[.val (.ref s1), .val (.ref s2), .unset] [(.int (1 : Int32))]) _
    refine XS.ifNo X_1.here hx rfl (hb hby d_jdk_42m66_11) rfl (by decide) ?_
    refine XS.aloadN X_1.here hx rfl (hb hby d_jdk_42m66_14) rfl rfl ?_
    show oS pP eE below T_1 (mkF mM 15 #[.val (.ref s1), .val (.ref s2), .unset] [(.ref s2)]) _
    refine st_2 _ ?_
    show oS pP eE below T_2 (mkF mM 18 #[.val (.ref s1), .val (.ref s2), .unset] [(.ref s2)]) _
    refine XS.astoreN X_2.here hx rfl (hb hby d_jdk_42m66_18) rfl rfl (l' := #[.val (.ref s1), .val (.ref s2), .val (.ref s2)]) rfl ?_
    show oS pP eE below T_2 (mkF mM 19 #[.val (.ref s1), .val (.ref s2), .val (.ref s2)] []) _
    refine st_3 _ ?_
    show oS pP eE below T_3 (mkF mM 22 #[.val (.ref s1), .val (.ref s2), .val (.ref s2)] [(.int cs)]) _
    refine XS.ifNo X_3.here hx rfl (hb hby d_jdk_42m66_22) rfl (XT.i0_eq_f hcs) ?_
    refine XS.aloadN X_3.here hx rfl (hb hby d_jdk_42m66_25) rfl rfl ?_
    show oS pP eE below T_3 (mkF mM 26 #[.val (.ref s1), .val (.ref s2), .val (.ref s2)] [(.ref s1)]) _
    refine st_4 _ ?_
    show oS pP eE below T_4 (mkF mM 29 #[.val (.ref s1), .val (.ref s2), .val (.ref s2)] [(.int (0 : Int32))]) _
    refine XS.aloadN X_4.here hx rfl (hb hby d_jdk_42m66_29) rfl rfl ?_
    show oS pP eE below T_4 (mkF mM 30 #[.val (.ref s1), .val (.ref s2), .val (.ref s2)] [(.ref s2), (.int (0 : Int32))]) _
    refine st_5 _ ?_
    show oS pP eE below T_5 (mkF mM 33 #[.val (.ref s1), .val (.ref s2), .val (.ref s2)] [(.int (0 : Int32)), (.int (0 : Int32))]) _
    refine XS.icmpNo X_5.here hx rfl (hb hby d_jdk_42m66_33) rfl (by decide) ?_
    refine XS.aloadN X_5.here hx rfl (hb hby d_jdk_42m66_36) rfl rfl ?_
    show oS pP eE below T_5 (mkF mM 37 #[.val (.ref s1), .val (.ref s2), .val (.ref s2)] [(.ref s1)]) _
    refine st_6 _ ?_
    show oS pP eE below T_6 (mkF mM 40 #[.val (.ref s1), .val (.ref s2), .val (.ref s2)] [(.ref d)]) _
    refine XS.aloadN X_6.here hx rfl (hb hby d_jdk_42m66_40) rfl rfl ?_
    show oS pP eE below T_6 (mkF mM 41 #[.val (.ref s1), .val (.ref s2), .val (.ref s2)] [(.ref s2), (.ref d)]) _
    refine st_7 _ ?_
    show oS pP eE below T_7 (mkF mM 44 #[.val (.ref s1), .val (.ref s2), .val (.ref s2)] [(.ref e2), (.ref d)]) _
    refine st_8 _ ?_
    show oS pP eE below T_8 (mkF mM 47 #[.val (.ref s1), .val (.ref s2), .val (.ref s2)] [(.int ev)]) _
    refine XS.ifNo X_8.here hx rfl (hb hby d_jdk_42m66_47) rfl (XT.i0_eq_f hE) ?_
    refine XS.iconst X_8.here hx rfl (hb hby d_jdk_42m66_50) ?_
    refine XS.goto X_8.here hx rfl (pc0 := 51) (pc' := 55) rfl (hb hby d_jdk_42m66_51) (by decide) (by decide) ?_
    show oS pP eE below T_8 (mkF mM 55 #[.val (.ref s1), .val (.ref s2), .val (.ref s2)] [(.int (1 : Int32))]) _
    exact retN X_8 hx (t := .boolean) Bd.returns (by simp) (hb hby d_jdk_42m66_55) hr
  · show Q_eq Z s1 s2 d e2 ev cs h0 n0 _ T_8.heap _
    rw [eh_8]
    exact ⟨(congrArg (fun z => some (Value.int z)) (if_neg hE).symm), N_8, rfl⟩
set_option maxRecDepth 65536 in
set_option maxHeartbeats 40000000 in
theorem rm_eq (l : Launch) (Z : State) (a0 : Array Value) (hw : ∀ d ∈ tables_1, d.before a0 Z = true) (ws : List Jvm.Cond) (s1 : Addr) (s2 : Addr) (d : Addr) (e2 : Addr) (ev : Int32) (cs : Int32) (h0 : Heap) (n0 : Nat) (Z0 : n0 ≤ h0.size) (F_value_s1 : Fld Z h0 s1 "java/lang/String" "value" "[B" (.ref d)) (F_coder_s1 : Fld Z h0 s1 "java/lang/String" "coder" "B" (.int (0 : Int32))) (E_s1 : Exa Z h0 s1 "java/lang/String") (F_value_s2 : Fld Z h0 s2 "java/lang/String" "value" "[B" (.ref e2)) (F_coder_s2 : Fld Z h0 s2 "java/lang/String" "coder" "B" (.int (0 : Int32))) (E_s2 : Exa Z h0 s2 "java/lang/String") (S_String_COMPACT_STRINGS : Sta Z h0 "java/lang/String" "COMPACT_STRINGS" "Z" (.int cs)) (hcs : ¬ cs = 0) (hL : own_HL l Z d e2 ev h0 n0) (nss : s1 ≠ s2) :
    MetFree l (⟨"java/lang/String", "equals", "(Ljava/lang/Object;)Z"⟩ : MethodName) (head1 (Jvm.Cond.code (⟨"java/lang/String", "equals", "(Ljava/lang/Object;)Z"⟩ : MethodName) jdk_42_method_66_code 3 (some .boolean) :: ws) oR14) (fun aa_ U_ => aa_ = #[(.ref s1), (.ref s2)] ∧ Z.Warmed39 U_.vm ∧ U_.heap = h0) (fun _ _ _ _ _ => True) (fun _ U_ o_ U'_ => ∃ v_ L_, o_ = .returned v_ ∧ Q_eq Z s1 s2 d e2 ev cs h0 n0 v_ U'_.heap L_ ∧ FrameEnd U_ o_ U'_ L_ oR14.cells oR14.slots) := by
  by_cases hE : ev = 0
  · exact rm_eq_0 l Z a0 hw ws s1 s2 d e2 ev cs h0 n0 Z0 F_value_s1 F_coder_s1 E_s1 F_value_s2 F_coder_s2 E_s2 S_String_COMPACT_STRINGS hcs hL nss hE
  · exact rm_eq_1 l Z a0 hw ws s1 s2 d e2 ev cs h0 n0 Z0 F_value_s1 F_coder_s1 E_s1 F_value_s2 F_coder_s2 E_s2 S_String_COMPACT_STRINGS hcs hL nss hE
def Q_sd (Z : State) (a : Addr) (b : Addr) (s1 : Addr) (s2 : Addr) (n1 : Int32) (ty1 : Addr) (q1 : Int32) (r1 : Int32) (n2 : Int32) (ty2 : Addr) (q2 : Int32) (r2 : Int32) (d : Addr) (e2 : Addr) (ev : Int32) (cs : Int32) (h0 : Heap) (n0 : Nat) (v_ : Option Value) (h_ : Heap) (L_ : List Loc) : Prop := v_ = some (.int (own_sd (own_nz ev) n1 n2 ty1 ty2 q1 q2 r1 r2)) ∧ Fr n0 L_ ∧ h_ = h0
theorem d_prog_32m3_0 : decode prog_32_method_3_code 0 = .ok (.aload_n 0, 1) := by decide +kernel
theorem d_prog_32m3_1 : decode prog_32_method_3_code 1 = .ok (.getfield 19, 3) := by decide +kernel
theorem d_prog_32m3_4 : decode prog_32_method_3_code 4 = .ok (.aload_n 1, 1) := by decide +kernel
theorem d_prog_32m3_5 : decode prog_32_method_3_code 5 = .ok (.getfield 19, 3) := by decide +kernel
theorem d_prog_32m3_8 : decode prog_32_method_3_code 8 = .ok (.invokevirtual 44, 3) := by decide +kernel
theorem pd_8 : parseMethodDescriptor "(Ljava/lang/Object;)Z" = some ⟨[(.object "java/lang/Object")], some .boolean⟩ := by decide +kernel
abbrev MN8 : MethodName := ⟨"java/lang/String", "equals", "(Ljava/lang/Object;)Z"⟩
theorem d_prog_32m3_11 : decode prog_32_method_3_code 11 = .ok (.ifCond .eq 51, 3) := by decide +kernel
theorem d_prog_32m3_62 : decode prog_32_method_3_code 62 = .ok (.iconst 0, 1) := by decide +kernel
theorem d_prog_32m3_63 : decode prog_32_method_3_code 63 = .ok (.ireturn, 1) := by decide +kernel
theorem ef_sd_0 (mM : MethodId) (x0 : Addr) (x1 : Addr) : entryFrame mM #[(.ref x0), (.ref x1)] 2 = mkF mM 0 #[.val (.ref x0), .val (.ref x1)] [] := by first | (simp [entryFrame, mkF, argsToLocals, Value.category]; done) | rfl
set_option maxRecDepth 65536 in
set_option maxHeartbeats 40000000 in
theorem rm_sd_0 (l : Launch) (Z : State) (a0 : Array Value) (hw : ∀ d ∈ tables_1, d.before a0 Z = true) (ws : List Jvm.Cond) (a : Addr) (b : Addr) (s1 : Addr) (s2 : Addr) (n1 : Int32) (ty1 : Addr) (q1 : Int32) (r1 : Int32) (n2 : Int32) (ty2 : Addr) (q2 : Int32) (r2 : Int32) (d : Addr) (e2 : Addr) (ev : Int32) (cs : Int32) (h0 : Heap) (n0 : Nat) (Z0 : n0 ≤ h0.size) (F_name_a : Fld Z h0 a "com/example/rolling_rung/rollingrung/schema/Field" "name" "Ljava/lang/String;" (.ref s1)) (F_number_a : Fld Z h0 a "com/example/rolling_rung/rollingrung/schema/Field" "number" "I" (.int n1)) (F_type_a : Fld Z h0 a "com/example/rolling_rung/rollingrung/schema/Field" "type" "Lcom/example/rolling_rung/rollingrung/schema/FieldType;" (.ref ty1)) (F_required_a : Fld Z h0 a "com/example/rolling_rung/rollingrung/schema/Field" "required" "Z" (.int q1)) (F_repeated_a : Fld Z h0 a "com/example/rolling_rung/rollingrung/schema/Field" "repeated" "Z" (.int r1)) (F_name_b : Fld Z h0 b "com/example/rolling_rung/rollingrung/schema/Field" "name" "Ljava/lang/String;" (.ref s2)) (F_number_b : Fld Z h0 b "com/example/rolling_rung/rollingrung/schema/Field" "number" "I" (.int n2)) (F_type_b : Fld Z h0 b "com/example/rolling_rung/rollingrung/schema/Field" "type" "Lcom/example/rolling_rung/rollingrung/schema/FieldType;" (.ref ty2)) (F_required_b : Fld Z h0 b "com/example/rolling_rung/rollingrung/schema/Field" "required" "Z" (.int q2)) (F_repeated_b : Fld Z h0 b "com/example/rolling_rung/rollingrung/schema/Field" "repeated" "Z" (.int r2)) (F_value_s1 : Fld Z h0 s1 "java/lang/String" "value" "[B" (.ref d)) (F_coder_s1 : Fld Z h0 s1 "java/lang/String" "coder" "B" (.int (0 : Int32))) (E_s1 : Exa Z h0 s1 "java/lang/String") (F_value_s2 : Fld Z h0 s2 "java/lang/String" "value" "[B" (.ref e2)) (F_coder_s2 : Fld Z h0 s2 "java/lang/String" "coder" "B" (.int (0 : Int32))) (E_s2 : Exa Z h0 s2 "java/lang/String") (S_String_COMPACT_STRINGS : Sta Z h0 "java/lang/String" "COMPACT_STRINGS" "Z" (.int cs)) (hcs : ¬ cs = 0) (hL : own_HL l Z d e2 ev h0 n0) (nss : s1 ≠ s2) (hd0 : (own_nz ev) = 0) :
    MetFree l (⟨"com/example/rolling_rung/rollingrung/schema/Field", "sameDefinition", "(Lcom/example/rolling_rung/rollingrung/schema/Field;)Z"⟩ : MethodName) (head1 (Jvm.Cond.code (⟨"com/example/rolling_rung/rollingrung/schema/Field", "sameDefinition", "(Lcom/example/rolling_rung/rollingrung/schema/Field;)Z"⟩ : MethodName) prog_32_method_3_code 2 (some .boolean) :: ws) oR15) (fun aa_ U_ => aa_ = #[(.ref a), (.ref b)] ∧ Z.Warmed39 U_.vm ∧ U_.heap = h0) (fun _ _ _ _ _ => True) (fun _ U_ o_ U'_ => ∃ v_ L_, o_ = .returned v_ ∧ Q_sd Z a b s1 s2 n1 ty1 q1 r1 n2 ty2 q2 r2 d e2 ev cs h0 n0 v_ U'_.heap L_ ∧ FrameEnd U_ o_ U'_ L_ oR15.cells oR15.slots) := by
  refine MetFree.of_bodySF (plainFor_of_name pn_5) hisR ?_
  intro pP eE sS mM argsA below meth cC s₁ Bd hml0 hP hK
  obtain ⟨rfl, hZ, hh⟩ := hP
  have hx := Bd.exec
  have hby := Bd.bytes
  have hml : cC.maxLocals = 2 := hml0
  have hown : sS.vm.findClass "com/example/rolling_rung/rollingrung/schema/Field" = some mM.cls := findClass_of_methodNamed Bd.named
  have hnm := (name_of_methodNamed Bd.named Bd.method).1
  have X0 : Stand pP l eE oR15 sS mM #[(.ref a), (.ref b)] below meth cC s₁ [] 0 0 := Stand.of_body Bd
  have e0 : s₁.heap = h0 := by rw [← hh, Bd.state]; rfl
  have N0 := Fr.nil n0
  have pre0 : ∀ t_, Steps pP.tables eE below (s₁.setTop (mkF mM 0 #[.val (.ref a), .val (.ref b)] [])) t_ → Steps pP.tables eE below (s₁.setTop (entryFrame mM #[(.ref a), (.ref b)] 2)) t_ := fun t_ k_ => castTop (ef_sd_0 mM a b) k_
  obtain ⟨T_1, X_1, e_1, st_1⟩ := getF X0 hx hZ hown (host := "") (Or.inl (ow hw 60 rfl)) Via.refl e0 F_name_a (g := (mkF mM 1 #[.val (.ref a), .val (.ref b)] [(.ref a)])) rfl rfl (hb hby d_prog_32m3_1)
  obtain ⟨T_2, X_2, e_2, st_2⟩ := getF X_1 hx hZ hown (host := "") (Or.inl (ow hw 60 rfl)) Via.refl e_1 F_name_b (g := (mkF mM 5 #[.val (.ref a), .val (.ref b)] [(.ref b), (.ref s1)])) rfl rfl (hb hby d_prog_32m3_5)
  obtain ⟨cq_3, kq_3, q_3a, q_3b, q_3c⟩ := isOf hZ e_2 E_s1
  obtain ⟨_, _, ⟨T_3, L_3, k_3, n_3⟩, -, X_3, ⟨Lc_3, hQ_3, l_3, y_3, z_3⟩, st_3⟩ := X_2.virtualBack hx (y := MN8) (z := MN8) hown (mvT hZ (ow hw 81 rfl)) (mvT hZ (ow hw 82 rfl)) (notFace_of_selects (args := #[]) (mvT hZ (ow hw 84 rfl))) (mvT hZ (ow hw 84 rfl)) (mvT hZ (ow hw 83 rfl)) (by decide) (backOf (W := 0) (rm_eq l Z a0 hw [] s1 s2 d e2 ev cs h0 n0 Z0 F_value_s1 F_coder_s1 E_s1 F_value_s2 F_coder_s2 E_s2 S_String_COMPACT_STRINGS hcs hL nss) hZ (ow hw 85 rfl) (ow hw 12 rfl) (by decide) (by decide)) q_3a q_3c (g := (mkF mM 8 #[.val (.ref a), .val (.ref b)] [(.ref s2), (.ref s1)])) rfl (by rw [hml]; rfl) (Steps.refl _) (argsL := [(.ref s2)]) (rest := []) (lenOf pd_8 rfl) rfl (by show 2 * 0 + _ ≤ _; exact Nat.le_of_eq rfl) (hb hby d_prog_32m3_8) (fun _ _ => ⟨rfl, e_2, (by decide : 0 + 0 ≤ _), (by decide : 0 + 0 ≤ _)⟩)
  dsimp only [Pt.U, Pt.locs, Pt.cells, Pt.slots] at X_3 l_3 y_3 z_3 st_3 hQ_3
  subst l_3 y_3 z_3
  obtain ⟨rfl, N_3q, eh_3⟩ := hQ_3
  have N_3 := Fr.app N0 N_3q
  obtain ⟨fs, hr, hrun, hended, hW, hsame⟩ := X_3.leave (v := some (.int (0 : Int32))) (fun h => by rw [Bd.returns] at h; cases h)
  refine ⟨_, _, pre0 _ ?_, hrun, hended, _, _, rfl, ?_, ⟨_, rfl⟩, hW, hsame.mono (by decide) (by decide)⟩
  · show oS pP eE below s₁ (mkF mM 0 #[.val (.ref a), .val (.ref b)] []) _
    refine XS.aloadN X0.here hx rfl (hb hby d_prog_32m3_0) rfl rfl ?_
    show oS pP eE below s₁ (mkF mM 1 #[.val (.ref a), .val (.ref b)] [(.ref a)]) _
    refine st_1 _ ?_
    show oS pP eE below T_1 (mkF mM 4 #[.val (.ref a), .val (.ref b)] [(.ref s1)]) _
    refine XS.aloadN X_1.here hx rfl (hb hby d_prog_32m3_4) rfl rfl ?_
    show oS pP eE below T_1 (mkF mM 5 #[.val (.ref a), .val (.ref b)] [(.ref b), (.ref s1)]) _
    refine st_2 _ ?_
    show oS pP eE below T_2 (mkF mM 8 #[.val (.ref a), .val (.ref b)] [(.ref s2), (.ref s1)]) _
    refine st_3.trans ?_
    show oS pP eE below T_3 (mkF mM 11 #[.val (.ref a), .val (.ref b)] [(.int (own_nz ev))]) _
    refine XS.ifYes X_3.here hx rfl (pc0 := 11) (pc' := 62) rfl (hb hby d_prog_32m3_11) rfl (XT.i0_eq_t hd0) (by decide) (by decide) ?_
    refine XS.iconst X_3.here hx rfl (hb hby d_prog_32m3_62) ?_
    show oS pP eE below T_3 (mkF mM 63 #[.val (.ref a), .val (.ref b)] [(.int (0 : Int32))]) _
    exact retN X_3 hx (t := .boolean) Bd.returns (by simp) (hb hby d_prog_32m3_63) hr
  · show Q_sd Z a b s1 s2 n1 ty1 q1 r1 n2 ty2 q2 r2 d e2 ev cs h0 n0 _ T_3.heap _
    rw [eh_3]
    exact ⟨(congrArg (fun z => some (Value.int z)) (if_neg (fun z => z.1 hd0)).symm), N_3, rfl⟩
theorem d_prog_32m3_14 : decode prog_32_method_3_code 14 = .ok (.aload_n 0, 1) := by decide +kernel
theorem d_prog_32m3_15 : decode prog_32_method_3_code 15 = .ok (.getfield 24, 3) := by decide +kernel
theorem d_prog_32m3_18 : decode prog_32_method_3_code 18 = .ok (.aload_n 1, 1) := by decide +kernel
theorem d_prog_32m3_19 : decode prog_32_method_3_code 19 = .ok (.getfield 24, 3) := by decide +kernel
theorem d_prog_32m3_22 : decode prog_32_method_3_code 22 = .ok (.if_icmp .ne 40, 3) := by decide +kernel
theorem ef_sd_1 (mM : MethodId) (x0 : Addr) (x1 : Addr) : entryFrame mM #[(.ref x0), (.ref x1)] 2 = mkF mM 0 #[.val (.ref x0), .val (.ref x1)] [] := by first | (simp [entryFrame, mkF, argsToLocals, Value.category]; done) | rfl
set_option maxRecDepth 65536 in
set_option maxHeartbeats 40000000 in
theorem rm_sd_1 (l : Launch) (Z : State) (a0 : Array Value) (hw : ∀ d ∈ tables_1, d.before a0 Z = true) (ws : List Jvm.Cond) (a : Addr) (b : Addr) (s1 : Addr) (s2 : Addr) (n1 : Int32) (ty1 : Addr) (q1 : Int32) (r1 : Int32) (n2 : Int32) (ty2 : Addr) (q2 : Int32) (r2 : Int32) (d : Addr) (e2 : Addr) (ev : Int32) (cs : Int32) (h0 : Heap) (n0 : Nat) (Z0 : n0 ≤ h0.size) (F_name_a : Fld Z h0 a "com/example/rolling_rung/rollingrung/schema/Field" "name" "Ljava/lang/String;" (.ref s1)) (F_number_a : Fld Z h0 a "com/example/rolling_rung/rollingrung/schema/Field" "number" "I" (.int n1)) (F_type_a : Fld Z h0 a "com/example/rolling_rung/rollingrung/schema/Field" "type" "Lcom/example/rolling_rung/rollingrung/schema/FieldType;" (.ref ty1)) (F_required_a : Fld Z h0 a "com/example/rolling_rung/rollingrung/schema/Field" "required" "Z" (.int q1)) (F_repeated_a : Fld Z h0 a "com/example/rolling_rung/rollingrung/schema/Field" "repeated" "Z" (.int r1)) (F_name_b : Fld Z h0 b "com/example/rolling_rung/rollingrung/schema/Field" "name" "Ljava/lang/String;" (.ref s2)) (F_number_b : Fld Z h0 b "com/example/rolling_rung/rollingrung/schema/Field" "number" "I" (.int n2)) (F_type_b : Fld Z h0 b "com/example/rolling_rung/rollingrung/schema/Field" "type" "Lcom/example/rolling_rung/rollingrung/schema/FieldType;" (.ref ty2)) (F_required_b : Fld Z h0 b "com/example/rolling_rung/rollingrung/schema/Field" "required" "Z" (.int q2)) (F_repeated_b : Fld Z h0 b "com/example/rolling_rung/rollingrung/schema/Field" "repeated" "Z" (.int r2)) (F_value_s1 : Fld Z h0 s1 "java/lang/String" "value" "[B" (.ref d)) (F_coder_s1 : Fld Z h0 s1 "java/lang/String" "coder" "B" (.int (0 : Int32))) (E_s1 : Exa Z h0 s1 "java/lang/String") (F_value_s2 : Fld Z h0 s2 "java/lang/String" "value" "[B" (.ref e2)) (F_coder_s2 : Fld Z h0 s2 "java/lang/String" "coder" "B" (.int (0 : Int32))) (E_s2 : Exa Z h0 s2 "java/lang/String") (S_String_COMPACT_STRINGS : Sta Z h0 "java/lang/String" "COMPACT_STRINGS" "Z" (.int cs)) (hcs : ¬ cs = 0) (hL : own_HL l Z d e2 ev h0 n0) (nss : s1 ≠ s2) (hd0 : ¬ (own_nz ev) = 0) (hd1 : ¬ n1 = n2) :
    MetFree l (⟨"com/example/rolling_rung/rollingrung/schema/Field", "sameDefinition", "(Lcom/example/rolling_rung/rollingrung/schema/Field;)Z"⟩ : MethodName) (head1 (Jvm.Cond.code (⟨"com/example/rolling_rung/rollingrung/schema/Field", "sameDefinition", "(Lcom/example/rolling_rung/rollingrung/schema/Field;)Z"⟩ : MethodName) prog_32_method_3_code 2 (some .boolean) :: ws) oR15) (fun aa_ U_ => aa_ = #[(.ref a), (.ref b)] ∧ Z.Warmed39 U_.vm ∧ U_.heap = h0) (fun _ _ _ _ _ => True) (fun _ U_ o_ U'_ => ∃ v_ L_, o_ = .returned v_ ∧ Q_sd Z a b s1 s2 n1 ty1 q1 r1 n2 ty2 q2 r2 d e2 ev cs h0 n0 v_ U'_.heap L_ ∧ FrameEnd U_ o_ U'_ L_ oR15.cells oR15.slots) := by
  refine MetFree.of_bodySF (plainFor_of_name pn_5) hisR ?_
  intro pP eE sS mM argsA below meth cC s₁ Bd hml0 hP hK
  obtain ⟨rfl, hZ, hh⟩ := hP
  have hx := Bd.exec
  have hby := Bd.bytes
  have hml : cC.maxLocals = 2 := hml0
  have hown : sS.vm.findClass "com/example/rolling_rung/rollingrung/schema/Field" = some mM.cls := findClass_of_methodNamed Bd.named
  have hnm := (name_of_methodNamed Bd.named Bd.method).1
  have X0 : Stand pP l eE oR15 sS mM #[(.ref a), (.ref b)] below meth cC s₁ [] 0 0 := Stand.of_body Bd
  have e0 : s₁.heap = h0 := by rw [← hh, Bd.state]; rfl
  have N0 := Fr.nil n0
  have pre0 : ∀ t_, Steps pP.tables eE below (s₁.setTop (mkF mM 0 #[.val (.ref a), .val (.ref b)] [])) t_ → Steps pP.tables eE below (s₁.setTop (entryFrame mM #[(.ref a), (.ref b)] 2)) t_ := fun t_ k_ => castTop (ef_sd_1 mM a b) k_
  obtain ⟨T_1, X_1, e_1, st_1⟩ := getF X0 hx hZ hown (host := "") (Or.inl (ow hw 60 rfl)) Via.refl e0 F_name_a (g := (mkF mM 1 #[.val (.ref a), .val (.ref b)] [(.ref a)])) rfl rfl (hb hby d_prog_32m3_1)
  obtain ⟨T_2, X_2, e_2, st_2⟩ := getF X_1 hx hZ hown (host := "") (Or.inl (ow hw 60 rfl)) Via.refl e_1 F_name_b (g := (mkF mM 5 #[.val (.ref a), .val (.ref b)] [(.ref b), (.ref s1)])) rfl rfl (hb hby d_prog_32m3_5)
  obtain ⟨cq_3, kq_3, q_3a, q_3b, q_3c⟩ := isOf hZ e_2 E_s1
  obtain ⟨_, _, ⟨T_3, L_3, k_3, n_3⟩, -, X_3, ⟨Lc_3, hQ_3, l_3, y_3, z_3⟩, st_3⟩ := X_2.virtualBack hx (y := MN8) (z := MN8) hown (mvT hZ (ow hw 81 rfl)) (mvT hZ (ow hw 82 rfl)) (notFace_of_selects (args := #[]) (mvT hZ (ow hw 84 rfl))) (mvT hZ (ow hw 84 rfl)) (mvT hZ (ow hw 83 rfl)) (by decide) (backOf (W := 0) (rm_eq l Z a0 hw [] s1 s2 d e2 ev cs h0 n0 Z0 F_value_s1 F_coder_s1 E_s1 F_value_s2 F_coder_s2 E_s2 S_String_COMPACT_STRINGS hcs hL nss) hZ (ow hw 85 rfl) (ow hw 12 rfl) (by decide) (by decide)) q_3a q_3c (g := (mkF mM 8 #[.val (.ref a), .val (.ref b)] [(.ref s2), (.ref s1)])) rfl (by rw [hml]; rfl) (Steps.refl _) (argsL := [(.ref s2)]) (rest := []) (lenOf pd_8 rfl) rfl (by show 2 * 0 + _ ≤ _; exact Nat.le_of_eq rfl) (hb hby d_prog_32m3_8) (fun _ _ => ⟨rfl, e_2, (by decide : 0 + 0 ≤ _), (by decide : 0 + 0 ≤ _)⟩)
  dsimp only [Pt.U, Pt.locs, Pt.cells, Pt.slots] at X_3 l_3 y_3 z_3 st_3 hQ_3
  subst l_3 y_3 z_3
  obtain ⟨rfl, N_3q, eh_3⟩ := hQ_3
  have N_3 := Fr.app N0 N_3q
  obtain ⟨T_4, X_4, e_4, st_4⟩ := getF X_3 hx hZ hown (host := "") (Or.inl (ow hw 62 rfl)) Via.refl eh_3 F_number_a (g := (mkF mM 15 #[.val (.ref a), .val (.ref b)] [(.ref a)])) rfl rfl (hb hby d_prog_32m3_15)
  obtain ⟨T_5, X_5, e_5, st_5⟩ := getF X_4 hx hZ hown (host := "") (Or.inl (ow hw 62 rfl)) Via.refl e_4 F_number_b (g := (mkF mM 19 #[.val (.ref a), .val (.ref b)] [(.ref b), (.int n1)])) rfl rfl (hb hby d_prog_32m3_19)
  obtain ⟨fs, hr, hrun, hended, hW, hsame⟩ := X_5.leave (v := some (.int (0 : Int32))) (fun h => by rw [Bd.returns] at h; cases h)
  refine ⟨_, _, pre0 _ ?_, hrun, hended, _, _, rfl, ?_, ⟨_, rfl⟩, hW, hsame.mono (by decide) (by decide)⟩
  · show oS pP eE below s₁ (mkF mM 0 #[.val (.ref a), .val (.ref b)] []) _
    refine XS.aloadN X0.here hx rfl (hb hby d_prog_32m3_0) rfl rfl ?_
    show oS pP eE below s₁ (mkF mM 1 #[.val (.ref a), .val (.ref b)] [(.ref a)]) _
    refine st_1 _ ?_
    show oS pP eE below T_1 (mkF mM 4 #[.val (.ref a), .val (.ref b)] [(.ref s1)]) _
    refine XS.aloadN X_1.here hx rfl (hb hby d_prog_32m3_4) rfl rfl ?_
    show oS pP eE below T_1 (mkF mM 5 #[.val (.ref a), .val (.ref b)] [(.ref b), (.ref s1)]) _
    refine st_2 _ ?_
    show oS pP eE below T_2 (mkF mM 8 #[.val (.ref a), .val (.ref b)] [(.ref s2), (.ref s1)]) _
    refine st_3.trans ?_
    show oS pP eE below T_3 (mkF mM 11 #[.val (.ref a), .val (.ref b)] [(.int (own_nz ev))]) _
    refine XS.ifNo X_3.here hx rfl (hb hby d_prog_32m3_11) rfl (XT.i0_eq_f hd0) ?_
    refine XS.aloadN X_3.here hx rfl (hb hby d_prog_32m3_14) rfl rfl ?_
    show oS pP eE below T_3 (mkF mM 15 #[.val (.ref a), .val (.ref b)] [(.ref a)]) _
    refine st_4 _ ?_
    show oS pP eE below T_4 (mkF mM 18 #[.val (.ref a), .val (.ref b)] [(.int n1)]) _
    refine XS.aloadN X_4.here hx rfl (hb hby d_prog_32m3_18) rfl rfl ?_
    show oS pP eE below T_4 (mkF mM 19 #[.val (.ref a), .val (.ref b)] [(.ref b), (.int n1)]) _
    refine st_5 _ ?_
    show oS pP eE below T_5 (mkF mM 22 #[.val (.ref a), .val (.ref b)] [(.int n2), (.int n1)]) _
    refine XS.icmpYes X_5.here hx rfl (pc0 := 22) (pc' := 62) rfl (hb hby d_prog_32m3_22) rfl (XT.ii_ne_t hd1) (by decide) (by decide) ?_
    refine XS.iconst X_5.here hx rfl (hb hby d_prog_32m3_62) ?_
    show oS pP eE below T_5 (mkF mM 63 #[.val (.ref a), .val (.ref b)] [(.int (0 : Int32))]) _
    exact retN X_5 hx (t := .boolean) Bd.returns (by simp) (hb hby d_prog_32m3_63) hr
  · show Q_sd Z a b s1 s2 n1 ty1 q1 r1 n2 ty2 q2 r2 d e2 ev cs h0 n0 _ T_5.heap _
    rw [e_5]
    exact ⟨(congrArg (fun z => some (Value.int z)) (if_neg (fun z => hd1 z.2.1)).symm), N_3, rfl⟩
theorem d_prog_32m3_25 : decode prog_32_method_3_code 25 = .ok (.aload_n 0, 1) := by decide +kernel
theorem d_prog_32m3_26 : decode prog_32_method_3_code 26 = .ok (.getfield 28, 3) := by decide +kernel
theorem d_prog_32m3_29 : decode prog_32_method_3_code 29 = .ok (.aload_n 1, 1) := by decide +kernel
theorem d_prog_32m3_30 : decode prog_32_method_3_code 30 = .ok (.getfield 28, 3) := by decide +kernel
theorem d_prog_32m3_33 : decode prog_32_method_3_code 33 = .ok (.if_acmp .ne 29, 3) := by decide +kernel
theorem ef_sd_2 (mM : MethodId) (x0 : Addr) (x1 : Addr) : entryFrame mM #[(.ref x0), (.ref x1)] 2 = mkF mM 0 #[.val (.ref x0), .val (.ref x1)] [] := by first | (simp [entryFrame, mkF, argsToLocals, Value.category]; done) | rfl
set_option maxRecDepth 65536 in
set_option maxHeartbeats 40000000 in
theorem rm_sd_2 (l : Launch) (Z : State) (a0 : Array Value) (hw : ∀ d ∈ tables_1, d.before a0 Z = true) (ws : List Jvm.Cond) (a : Addr) (b : Addr) (s1 : Addr) (s2 : Addr) (n1 : Int32) (ty1 : Addr) (q1 : Int32) (r1 : Int32) (n2 : Int32) (ty2 : Addr) (q2 : Int32) (r2 : Int32) (d : Addr) (e2 : Addr) (ev : Int32) (cs : Int32) (h0 : Heap) (n0 : Nat) (Z0 : n0 ≤ h0.size) (F_name_a : Fld Z h0 a "com/example/rolling_rung/rollingrung/schema/Field" "name" "Ljava/lang/String;" (.ref s1)) (F_number_a : Fld Z h0 a "com/example/rolling_rung/rollingrung/schema/Field" "number" "I" (.int n1)) (F_type_a : Fld Z h0 a "com/example/rolling_rung/rollingrung/schema/Field" "type" "Lcom/example/rolling_rung/rollingrung/schema/FieldType;" (.ref ty1)) (F_required_a : Fld Z h0 a "com/example/rolling_rung/rollingrung/schema/Field" "required" "Z" (.int q1)) (F_repeated_a : Fld Z h0 a "com/example/rolling_rung/rollingrung/schema/Field" "repeated" "Z" (.int r1)) (F_name_b : Fld Z h0 b "com/example/rolling_rung/rollingrung/schema/Field" "name" "Ljava/lang/String;" (.ref s2)) (F_number_b : Fld Z h0 b "com/example/rolling_rung/rollingrung/schema/Field" "number" "I" (.int n2)) (F_type_b : Fld Z h0 b "com/example/rolling_rung/rollingrung/schema/Field" "type" "Lcom/example/rolling_rung/rollingrung/schema/FieldType;" (.ref ty2)) (F_required_b : Fld Z h0 b "com/example/rolling_rung/rollingrung/schema/Field" "required" "Z" (.int q2)) (F_repeated_b : Fld Z h0 b "com/example/rolling_rung/rollingrung/schema/Field" "repeated" "Z" (.int r2)) (F_value_s1 : Fld Z h0 s1 "java/lang/String" "value" "[B" (.ref d)) (F_coder_s1 : Fld Z h0 s1 "java/lang/String" "coder" "B" (.int (0 : Int32))) (E_s1 : Exa Z h0 s1 "java/lang/String") (F_value_s2 : Fld Z h0 s2 "java/lang/String" "value" "[B" (.ref e2)) (F_coder_s2 : Fld Z h0 s2 "java/lang/String" "coder" "B" (.int (0 : Int32))) (E_s2 : Exa Z h0 s2 "java/lang/String") (S_String_COMPACT_STRINGS : Sta Z h0 "java/lang/String" "COMPACT_STRINGS" "Z" (.int cs)) (hcs : ¬ cs = 0) (hL : own_HL l Z d e2 ev h0 n0) (nss : s1 ≠ s2) (hd0 : ¬ (own_nz ev) = 0) (hd1 : n1 = n2) (hd2 : ¬ ty1 = ty2) :
    MetFree l (⟨"com/example/rolling_rung/rollingrung/schema/Field", "sameDefinition", "(Lcom/example/rolling_rung/rollingrung/schema/Field;)Z"⟩ : MethodName) (head1 (Jvm.Cond.code (⟨"com/example/rolling_rung/rollingrung/schema/Field", "sameDefinition", "(Lcom/example/rolling_rung/rollingrung/schema/Field;)Z"⟩ : MethodName) prog_32_method_3_code 2 (some .boolean) :: ws) oR15) (fun aa_ U_ => aa_ = #[(.ref a), (.ref b)] ∧ Z.Warmed39 U_.vm ∧ U_.heap = h0) (fun _ _ _ _ _ => True) (fun _ U_ o_ U'_ => ∃ v_ L_, o_ = .returned v_ ∧ Q_sd Z a b s1 s2 n1 ty1 q1 r1 n2 ty2 q2 r2 d e2 ev cs h0 n0 v_ U'_.heap L_ ∧ FrameEnd U_ o_ U'_ L_ oR15.cells oR15.slots) := by
  refine MetFree.of_bodySF (plainFor_of_name pn_5) hisR ?_
  intro pP eE sS mM argsA below meth cC s₁ Bd hml0 hP hK
  obtain ⟨rfl, hZ, hh⟩ := hP
  have hx := Bd.exec
  have hby := Bd.bytes
  have hml : cC.maxLocals = 2 := hml0
  have hown : sS.vm.findClass "com/example/rolling_rung/rollingrung/schema/Field" = some mM.cls := findClass_of_methodNamed Bd.named
  have hnm := (name_of_methodNamed Bd.named Bd.method).1
  have X0 : Stand pP l eE oR15 sS mM #[(.ref a), (.ref b)] below meth cC s₁ [] 0 0 := Stand.of_body Bd
  have e0 : s₁.heap = h0 := by rw [← hh, Bd.state]; rfl
  have N0 := Fr.nil n0
  have pre0 : ∀ t_, Steps pP.tables eE below (s₁.setTop (mkF mM 0 #[.val (.ref a), .val (.ref b)] [])) t_ → Steps pP.tables eE below (s₁.setTop (entryFrame mM #[(.ref a), (.ref b)] 2)) t_ := fun t_ k_ => castTop (ef_sd_2 mM a b) k_
  obtain ⟨T_1, X_1, e_1, st_1⟩ := getF X0 hx hZ hown (host := "") (Or.inl (ow hw 60 rfl)) Via.refl e0 F_name_a (g := (mkF mM 1 #[.val (.ref a), .val (.ref b)] [(.ref a)])) rfl rfl (hb hby d_prog_32m3_1)
  obtain ⟨T_2, X_2, e_2, st_2⟩ := getF X_1 hx hZ hown (host := "") (Or.inl (ow hw 60 rfl)) Via.refl e_1 F_name_b (g := (mkF mM 5 #[.val (.ref a), .val (.ref b)] [(.ref b), (.ref s1)])) rfl rfl (hb hby d_prog_32m3_5)
  obtain ⟨cq_3, kq_3, q_3a, q_3b, q_3c⟩ := isOf hZ e_2 E_s1
  obtain ⟨_, _, ⟨T_3, L_3, k_3, n_3⟩, -, X_3, ⟨Lc_3, hQ_3, l_3, y_3, z_3⟩, st_3⟩ := X_2.virtualBack hx (y := MN8) (z := MN8) hown (mvT hZ (ow hw 81 rfl)) (mvT hZ (ow hw 82 rfl)) (notFace_of_selects (args := #[]) (mvT hZ (ow hw 84 rfl))) (mvT hZ (ow hw 84 rfl)) (mvT hZ (ow hw 83 rfl)) (by decide) (backOf (W := 0) (rm_eq l Z a0 hw [] s1 s2 d e2 ev cs h0 n0 Z0 F_value_s1 F_coder_s1 E_s1 F_value_s2 F_coder_s2 E_s2 S_String_COMPACT_STRINGS hcs hL nss) hZ (ow hw 85 rfl) (ow hw 12 rfl) (by decide) (by decide)) q_3a q_3c (g := (mkF mM 8 #[.val (.ref a), .val (.ref b)] [(.ref s2), (.ref s1)])) rfl (by rw [hml]; rfl) (Steps.refl _) (argsL := [(.ref s2)]) (rest := []) (lenOf pd_8 rfl) rfl (by show 2 * 0 + _ ≤ _; exact Nat.le_of_eq rfl) (hb hby d_prog_32m3_8) (fun _ _ => ⟨rfl, e_2, (by decide : 0 + 0 ≤ _), (by decide : 0 + 0 ≤ _)⟩)
  dsimp only [Pt.U, Pt.locs, Pt.cells, Pt.slots] at X_3 l_3 y_3 z_3 st_3 hQ_3
  subst l_3 y_3 z_3
  obtain ⟨rfl, N_3q, eh_3⟩ := hQ_3
  have N_3 := Fr.app N0 N_3q
  obtain ⟨T_4, X_4, e_4, st_4⟩ := getF X_3 hx hZ hown (host := "") (Or.inl (ow hw 62 rfl)) Via.refl eh_3 F_number_a (g := (mkF mM 15 #[.val (.ref a), .val (.ref b)] [(.ref a)])) rfl rfl (hb hby d_prog_32m3_15)
  obtain ⟨T_5, X_5, e_5, st_5⟩ := getF X_4 hx hZ hown (host := "") (Or.inl (ow hw 62 rfl)) Via.refl e_4 F_number_b (g := (mkF mM 19 #[.val (.ref a), .val (.ref b)] [(.ref b), (.int n1)])) rfl rfl (hb hby d_prog_32m3_19)
  obtain ⟨T_6, X_6, e_6, st_6⟩ := getF X_5 hx hZ hown (host := "") (Or.inl (ow hw 64 rfl)) Via.refl e_5 F_type_a (g := (mkF mM 26 #[.val (.ref a), .val (.ref b)] [(.ref a)])) rfl rfl (hb hby d_prog_32m3_26)
  obtain ⟨T_7, X_7, e_7, st_7⟩ := getF X_6 hx hZ hown (host := "") (Or.inl (ow hw 64 rfl)) Via.refl e_6 F_type_b (g := (mkF mM 30 #[.val (.ref a), .val (.ref b)] [(.ref b), (.ref ty1)])) rfl rfl (hb hby d_prog_32m3_30)
  obtain ⟨fs, hr, hrun, hended, hW, hsame⟩ := X_7.leave (v := some (.int (0 : Int32))) (fun h => by rw [Bd.returns] at h; cases h)
  refine ⟨_, _, pre0 _ ?_, hrun, hended, _, _, rfl, ?_, ⟨_, rfl⟩, hW, hsame.mono (by decide) (by decide)⟩
  · show oS pP eE below s₁ (mkF mM 0 #[.val (.ref a), .val (.ref b)] []) _
    refine XS.aloadN X0.here hx rfl (hb hby d_prog_32m3_0) rfl rfl ?_
    show oS pP eE below s₁ (mkF mM 1 #[.val (.ref a), .val (.ref b)] [(.ref a)]) _
    refine st_1 _ ?_
    show oS pP eE below T_1 (mkF mM 4 #[.val (.ref a), .val (.ref b)] [(.ref s1)]) _
    refine XS.aloadN X_1.here hx rfl (hb hby d_prog_32m3_4) rfl rfl ?_
    show oS pP eE below T_1 (mkF mM 5 #[.val (.ref a), .val (.ref b)] [(.ref b), (.ref s1)]) _
    refine st_2 _ ?_
    show oS pP eE below T_2 (mkF mM 8 #[.val (.ref a), .val (.ref b)] [(.ref s2), (.ref s1)]) _
    refine st_3.trans ?_
    show oS pP eE below T_3 (mkF mM 11 #[.val (.ref a), .val (.ref b)] [(.int (own_nz ev))]) _
    refine XS.ifNo X_3.here hx rfl (hb hby d_prog_32m3_11) rfl (XT.i0_eq_f hd0) ?_
    refine XS.aloadN X_3.here hx rfl (hb hby d_prog_32m3_14) rfl rfl ?_
    show oS pP eE below T_3 (mkF mM 15 #[.val (.ref a), .val (.ref b)] [(.ref a)]) _
    refine st_4 _ ?_
    show oS pP eE below T_4 (mkF mM 18 #[.val (.ref a), .val (.ref b)] [(.int n1)]) _
    refine XS.aloadN X_4.here hx rfl (hb hby d_prog_32m3_18) rfl rfl ?_
    show oS pP eE below T_4 (mkF mM 19 #[.val (.ref a), .val (.ref b)] [(.ref b), (.int n1)]) _
    refine st_5 _ ?_
    show oS pP eE below T_5 (mkF mM 22 #[.val (.ref a), .val (.ref b)] [(.int n2), (.int n1)]) _
    refine XS.icmpNo X_5.here hx rfl (hb hby d_prog_32m3_22) rfl (XT.ii_ne_f hd1) ?_
    refine XS.aloadN X_5.here hx rfl (hb hby d_prog_32m3_25) rfl rfl ?_
    show oS pP eE below T_5 (mkF mM 26 #[.val (.ref a), .val (.ref b)] [(.ref a)]) _
    refine st_6 _ ?_
    show oS pP eE below T_6 (mkF mM 29 #[.val (.ref a), .val (.ref b)] [(.ref ty1)]) _
    refine XS.aloadN X_6.here hx rfl (hb hby d_prog_32m3_29) rfl rfl ?_
    show oS pP eE below T_6 (mkF mM 30 #[.val (.ref a), .val (.ref b)] [(.ref b), (.ref ty1)]) _
    refine st_7 _ ?_
    show oS pP eE below T_7 (mkF mM 33 #[.val (.ref a), .val (.ref b)] [(.ref ty2), (.ref ty1)]) _
    refine Jvm.RoadKit.acmp (g := (mkF mM 33 #[.val (.ref a), .val (.ref b)] [(.ref ty2), (.ref ty1)])) X_7 hx rfl rfl rfl (pc0 := 33) (pc' := 62) (same := false) rfl (hb hby d_prog_32m3_33) rfl (decide_eq_false fun q => hd2 (Value.ref.inj q)) (by decide) (by decide) ?_
    refine XS.iconst X_7.here hx rfl (hb hby d_prog_32m3_62) ?_
    show oS pP eE below T_7 (mkF mM 63 #[.val (.ref a), .val (.ref b)] [(.int (0 : Int32))]) _
    exact retN X_7 hx (t := .boolean) Bd.returns (by simp) (hb hby d_prog_32m3_63) hr
  · show Q_sd Z a b s1 s2 n1 ty1 q1 r1 n2 ty2 q2 r2 d e2 ev cs h0 n0 _ T_7.heap _
    rw [e_7]
    exact ⟨(congrArg (fun z => some (Value.int z)) (if_neg (fun z => hd2 z.2.2.1)).symm), N_3, rfl⟩
theorem d_prog_32m3_36 : decode prog_32_method_3_code 36 = .ok (.aload_n 0, 1) := by decide +kernel
theorem d_prog_32m3_37 : decode prog_32_method_3_code 37 = .ok (.getfield 31, 3) := by decide +kernel
theorem d_prog_32m3_40 : decode prog_32_method_3_code 40 = .ok (.aload_n 1, 1) := by decide +kernel
theorem d_prog_32m3_41 : decode prog_32_method_3_code 41 = .ok (.getfield 31, 3) := by decide +kernel
theorem d_prog_32m3_44 : decode prog_32_method_3_code 44 = .ok (.if_icmp .ne 18, 3) := by decide +kernel
theorem ef_sd_3 (mM : MethodId) (x0 : Addr) (x1 : Addr) : entryFrame mM #[(.ref x0), (.ref x1)] 2 = mkF mM 0 #[.val (.ref x0), .val (.ref x1)] [] := by first | (simp [entryFrame, mkF, argsToLocals, Value.category]; done) | rfl
set_option maxRecDepth 65536 in
set_option maxHeartbeats 40000000 in
theorem rm_sd_3 (l : Launch) (Z : State) (a0 : Array Value) (hw : ∀ d ∈ tables_1, d.before a0 Z = true) (ws : List Jvm.Cond) (a : Addr) (b : Addr) (s1 : Addr) (s2 : Addr) (n1 : Int32) (ty1 : Addr) (q1 : Int32) (r1 : Int32) (n2 : Int32) (ty2 : Addr) (q2 : Int32) (r2 : Int32) (d : Addr) (e2 : Addr) (ev : Int32) (cs : Int32) (h0 : Heap) (n0 : Nat) (Z0 : n0 ≤ h0.size) (F_name_a : Fld Z h0 a "com/example/rolling_rung/rollingrung/schema/Field" "name" "Ljava/lang/String;" (.ref s1)) (F_number_a : Fld Z h0 a "com/example/rolling_rung/rollingrung/schema/Field" "number" "I" (.int n1)) (F_type_a : Fld Z h0 a "com/example/rolling_rung/rollingrung/schema/Field" "type" "Lcom/example/rolling_rung/rollingrung/schema/FieldType;" (.ref ty1)) (F_required_a : Fld Z h0 a "com/example/rolling_rung/rollingrung/schema/Field" "required" "Z" (.int q1)) (F_repeated_a : Fld Z h0 a "com/example/rolling_rung/rollingrung/schema/Field" "repeated" "Z" (.int r1)) (F_name_b : Fld Z h0 b "com/example/rolling_rung/rollingrung/schema/Field" "name" "Ljava/lang/String;" (.ref s2)) (F_number_b : Fld Z h0 b "com/example/rolling_rung/rollingrung/schema/Field" "number" "I" (.int n2)) (F_type_b : Fld Z h0 b "com/example/rolling_rung/rollingrung/schema/Field" "type" "Lcom/example/rolling_rung/rollingrung/schema/FieldType;" (.ref ty2)) (F_required_b : Fld Z h0 b "com/example/rolling_rung/rollingrung/schema/Field" "required" "Z" (.int q2)) (F_repeated_b : Fld Z h0 b "com/example/rolling_rung/rollingrung/schema/Field" "repeated" "Z" (.int r2)) (F_value_s1 : Fld Z h0 s1 "java/lang/String" "value" "[B" (.ref d)) (F_coder_s1 : Fld Z h0 s1 "java/lang/String" "coder" "B" (.int (0 : Int32))) (E_s1 : Exa Z h0 s1 "java/lang/String") (F_value_s2 : Fld Z h0 s2 "java/lang/String" "value" "[B" (.ref e2)) (F_coder_s2 : Fld Z h0 s2 "java/lang/String" "coder" "B" (.int (0 : Int32))) (E_s2 : Exa Z h0 s2 "java/lang/String") (S_String_COMPACT_STRINGS : Sta Z h0 "java/lang/String" "COMPACT_STRINGS" "Z" (.int cs)) (hcs : ¬ cs = 0) (hL : own_HL l Z d e2 ev h0 n0) (nss : s1 ≠ s2) (hd0 : ¬ (own_nz ev) = 0) (hd1 : n1 = n2) (hd2 : ty1 = ty2) (hd3 : ¬ q1 = q2) :
    MetFree l (⟨"com/example/rolling_rung/rollingrung/schema/Field", "sameDefinition", "(Lcom/example/rolling_rung/rollingrung/schema/Field;)Z"⟩ : MethodName) (head1 (Jvm.Cond.code (⟨"com/example/rolling_rung/rollingrung/schema/Field", "sameDefinition", "(Lcom/example/rolling_rung/rollingrung/schema/Field;)Z"⟩ : MethodName) prog_32_method_3_code 2 (some .boolean) :: ws) oR15) (fun aa_ U_ => aa_ = #[(.ref a), (.ref b)] ∧ Z.Warmed39 U_.vm ∧ U_.heap = h0) (fun _ _ _ _ _ => True) (fun _ U_ o_ U'_ => ∃ v_ L_, o_ = .returned v_ ∧ Q_sd Z a b s1 s2 n1 ty1 q1 r1 n2 ty2 q2 r2 d e2 ev cs h0 n0 v_ U'_.heap L_ ∧ FrameEnd U_ o_ U'_ L_ oR15.cells oR15.slots) := by
  refine MetFree.of_bodySF (plainFor_of_name pn_5) hisR ?_
  intro pP eE sS mM argsA below meth cC s₁ Bd hml0 hP hK
  obtain ⟨rfl, hZ, hh⟩ := hP
  have hx := Bd.exec
  have hby := Bd.bytes
  have hml : cC.maxLocals = 2 := hml0
  have hown : sS.vm.findClass "com/example/rolling_rung/rollingrung/schema/Field" = some mM.cls := findClass_of_methodNamed Bd.named
  have hnm := (name_of_methodNamed Bd.named Bd.method).1
  have X0 : Stand pP l eE oR15 sS mM #[(.ref a), (.ref b)] below meth cC s₁ [] 0 0 := Stand.of_body Bd
  have e0 : s₁.heap = h0 := by rw [← hh, Bd.state]; rfl
  have N0 := Fr.nil n0
  have pre0 : ∀ t_, Steps pP.tables eE below (s₁.setTop (mkF mM 0 #[.val (.ref a), .val (.ref b)] [])) t_ → Steps pP.tables eE below (s₁.setTop (entryFrame mM #[(.ref a), (.ref b)] 2)) t_ := fun t_ k_ => castTop (ef_sd_3 mM a b) k_
  obtain ⟨T_1, X_1, e_1, st_1⟩ := getF X0 hx hZ hown (host := "") (Or.inl (ow hw 60 rfl)) Via.refl e0 F_name_a (g := (mkF mM 1 #[.val (.ref a), .val (.ref b)] [(.ref a)])) rfl rfl (hb hby d_prog_32m3_1)
  obtain ⟨T_2, X_2, e_2, st_2⟩ := getF X_1 hx hZ hown (host := "") (Or.inl (ow hw 60 rfl)) Via.refl e_1 F_name_b (g := (mkF mM 5 #[.val (.ref a), .val (.ref b)] [(.ref b), (.ref s1)])) rfl rfl (hb hby d_prog_32m3_5)
  obtain ⟨cq_3, kq_3, q_3a, q_3b, q_3c⟩ := isOf hZ e_2 E_s1
  obtain ⟨_, _, ⟨T_3, L_3, k_3, n_3⟩, -, X_3, ⟨Lc_3, hQ_3, l_3, y_3, z_3⟩, st_3⟩ := X_2.virtualBack hx (y := MN8) (z := MN8) hown (mvT hZ (ow hw 81 rfl)) (mvT hZ (ow hw 82 rfl)) (notFace_of_selects (args := #[]) (mvT hZ (ow hw 84 rfl))) (mvT hZ (ow hw 84 rfl)) (mvT hZ (ow hw 83 rfl)) (by decide) (backOf (W := 0) (rm_eq l Z a0 hw [] s1 s2 d e2 ev cs h0 n0 Z0 F_value_s1 F_coder_s1 E_s1 F_value_s2 F_coder_s2 E_s2 S_String_COMPACT_STRINGS hcs hL nss) hZ (ow hw 85 rfl) (ow hw 12 rfl) (by decide) (by decide)) q_3a q_3c (g := (mkF mM 8 #[.val (.ref a), .val (.ref b)] [(.ref s2), (.ref s1)])) rfl (by rw [hml]; rfl) (Steps.refl _) (argsL := [(.ref s2)]) (rest := []) (lenOf pd_8 rfl) rfl (by show 2 * 0 + _ ≤ _; exact Nat.le_of_eq rfl) (hb hby d_prog_32m3_8) (fun _ _ => ⟨rfl, e_2, (by decide : 0 + 0 ≤ _), (by decide : 0 + 0 ≤ _)⟩)
  dsimp only [Pt.U, Pt.locs, Pt.cells, Pt.slots] at X_3 l_3 y_3 z_3 st_3 hQ_3
  subst l_3 y_3 z_3
  obtain ⟨rfl, N_3q, eh_3⟩ := hQ_3
  have N_3 := Fr.app N0 N_3q
  obtain ⟨T_4, X_4, e_4, st_4⟩ := getF X_3 hx hZ hown (host := "") (Or.inl (ow hw 62 rfl)) Via.refl eh_3 F_number_a (g := (mkF mM 15 #[.val (.ref a), .val (.ref b)] [(.ref a)])) rfl rfl (hb hby d_prog_32m3_15)
  obtain ⟨T_5, X_5, e_5, st_5⟩ := getF X_4 hx hZ hown (host := "") (Or.inl (ow hw 62 rfl)) Via.refl e_4 F_number_b (g := (mkF mM 19 #[.val (.ref a), .val (.ref b)] [(.ref b), (.int n1)])) rfl rfl (hb hby d_prog_32m3_19)
  obtain ⟨T_6, X_6, e_6, st_6⟩ := getF X_5 hx hZ hown (host := "") (Or.inl (ow hw 64 rfl)) Via.refl e_5 F_type_a (g := (mkF mM 26 #[.val (.ref a), .val (.ref b)] [(.ref a)])) rfl rfl (hb hby d_prog_32m3_26)
  obtain ⟨T_7, X_7, e_7, st_7⟩ := getF X_6 hx hZ hown (host := "") (Or.inl (ow hw 64 rfl)) Via.refl e_6 F_type_b (g := (mkF mM 30 #[.val (.ref a), .val (.ref b)] [(.ref b), (.ref ty1)])) rfl rfl (hb hby d_prog_32m3_30)
  obtain ⟨T_8, X_8, e_8, st_8⟩ := getF X_7 hx hZ hown (host := "") (Or.inl (ow hw 66 rfl)) Via.refl e_7 F_required_a (g := (mkF mM 37 #[.val (.ref a), .val (.ref b)] [(.ref a)])) rfl rfl (hb hby d_prog_32m3_37)
  obtain ⟨T_9, X_9, e_9, st_9⟩ := getF X_8 hx hZ hown (host := "") (Or.inl (ow hw 66 rfl)) Via.refl e_8 F_required_b (g := (mkF mM 41 #[.val (.ref a), .val (.ref b)] [(.ref b), (.int q1)])) rfl rfl (hb hby d_prog_32m3_41)
  obtain ⟨fs, hr, hrun, hended, hW, hsame⟩ := X_9.leave (v := some (.int (0 : Int32))) (fun h => by rw [Bd.returns] at h; cases h)
  refine ⟨_, _, pre0 _ ?_, hrun, hended, _, _, rfl, ?_, ⟨_, rfl⟩, hW, hsame.mono (by decide) (by decide)⟩
  · show oS pP eE below s₁ (mkF mM 0 #[.val (.ref a), .val (.ref b)] []) _
    refine XS.aloadN X0.here hx rfl (hb hby d_prog_32m3_0) rfl rfl ?_
    show oS pP eE below s₁ (mkF mM 1 #[.val (.ref a), .val (.ref b)] [(.ref a)]) _
    refine st_1 _ ?_
    show oS pP eE below T_1 (mkF mM 4 #[.val (.ref a), .val (.ref b)] [(.ref s1)]) _
    refine XS.aloadN X_1.here hx rfl (hb hby d_prog_32m3_4) rfl rfl ?_
    show oS pP eE below T_1 (mkF mM 5 #[.val (.ref a), .val (.ref b)] [(.ref b), (.ref s1)]) _
    refine st_2 _ ?_
    show oS pP eE below T_2 (mkF mM 8 #[.val (.ref a), .val (.ref b)] [(.ref s2), (.ref s1)]) _
    refine st_3.trans ?_
    show oS pP eE below T_3 (mkF mM 11 #[.val (.ref a), .val (.ref b)] [(.int (own_nz ev))]) _
    refine XS.ifNo X_3.here hx rfl (hb hby d_prog_32m3_11) rfl (XT.i0_eq_f hd0) ?_
    refine XS.aloadN X_3.here hx rfl (hb hby d_prog_32m3_14) rfl rfl ?_
    show oS pP eE below T_3 (mkF mM 15 #[.val (.ref a), .val (.ref b)] [(.ref a)]) _
    refine st_4 _ ?_
    show oS pP eE below T_4 (mkF mM 18 #[.val (.ref a), .val (.ref b)] [(.int n1)]) _
    refine XS.aloadN X_4.here hx rfl (hb hby d_prog_32m3_18) rfl rfl ?_
    show oS pP eE below T_4 (mkF mM 19 #[.val (.ref a), .val (.ref b)] [(.ref b), (.int n1)]) _
    refine st_5 _ ?_
    show oS pP eE below T_5 (mkF mM 22 #[.val (.ref a), .val (.ref b)] [(.int n2), (.int n1)]) _
    refine XS.icmpNo X_5.here hx rfl (hb hby d_prog_32m3_22) rfl (XT.ii_ne_f hd1) ?_
    refine XS.aloadN X_5.here hx rfl (hb hby d_prog_32m3_25) rfl rfl ?_
    show oS pP eE below T_5 (mkF mM 26 #[.val (.ref a), .val (.ref b)] [(.ref a)]) _
    refine st_6 _ ?_
    show oS pP eE below T_6 (mkF mM 29 #[.val (.ref a), .val (.ref b)] [(.ref ty1)]) _
    refine XS.aloadN X_6.here hx rfl (hb hby d_prog_32m3_29) rfl rfl ?_
    show oS pP eE below T_6 (mkF mM 30 #[.val (.ref a), .val (.ref b)] [(.ref b), (.ref ty1)]) _
    refine st_7 _ ?_
    show oS pP eE below T_7 (mkF mM 33 #[.val (.ref a), .val (.ref b)] [(.ref ty2), (.ref ty1)]) _
    refine Jvm.RoadKit.acmp (g := (mkF mM 33 #[.val (.ref a), .val (.ref b)] [(.ref ty2), (.ref ty1)])) X_7 hx rfl rfl rfl (pc0 := 33) (pc' := 36) (same := true) rfl (hb hby d_prog_32m3_33) rfl (decide_eq_true (congrArg Value.ref hd2)) (by decide) (by decide) ?_
    refine XS.aloadN X_7.here hx rfl (hb hby d_prog_32m3_36) rfl rfl ?_
    show oS pP eE below T_7 (mkF mM 37 #[.val (.ref a), .val (.ref b)] [(.ref a)]) _
    refine st_8 _ ?_
    show oS pP eE below T_8 (mkF mM 40 #[.val (.ref a), .val (.ref b)] [(.int q1)]) _
    refine XS.aloadN X_8.here hx rfl (hb hby d_prog_32m3_40) rfl rfl ?_
    show oS pP eE below T_8 (mkF mM 41 #[.val (.ref a), .val (.ref b)] [(.ref b), (.int q1)]) _
    refine st_9 _ ?_
    show oS pP eE below T_9 (mkF mM 44 #[.val (.ref a), .val (.ref b)] [(.int q2), (.int q1)]) _
    refine XS.icmpYes X_9.here hx rfl (pc0 := 44) (pc' := 62) rfl (hb hby d_prog_32m3_44) rfl (XT.ii_ne_t hd3) (by decide) (by decide) ?_
    refine XS.iconst X_9.here hx rfl (hb hby d_prog_32m3_62) ?_
    show oS pP eE below T_9 (mkF mM 63 #[.val (.ref a), .val (.ref b)] [(.int (0 : Int32))]) _
    exact retN X_9 hx (t := .boolean) Bd.returns (by simp) (hb hby d_prog_32m3_63) hr
  · show Q_sd Z a b s1 s2 n1 ty1 q1 r1 n2 ty2 q2 r2 d e2 ev cs h0 n0 _ T_9.heap _
    rw [e_9]
    exact ⟨(congrArg (fun z => some (Value.int z)) (if_neg (fun z => hd3 z.2.2.2.1)).symm), N_3, rfl⟩
theorem d_prog_32m3_47 : decode prog_32_method_3_code 47 = .ok (.aload_n 0, 1) := by decide +kernel
theorem d_prog_32m3_48 : decode prog_32_method_3_code 48 = .ok (.getfield 35, 3) := by decide +kernel
theorem d_prog_32m3_51 : decode prog_32_method_3_code 51 = .ok (.aload_n 1, 1) := by decide +kernel
theorem d_prog_32m3_52 : decode prog_32_method_3_code 52 = .ok (.getfield 35, 3) := by decide +kernel
theorem d_prog_32m3_55 : decode prog_32_method_3_code 55 = .ok (.if_icmp .ne 7, 3) := by decide +kernel
theorem ef_sd_4 (mM : MethodId) (x0 : Addr) (x1 : Addr) : entryFrame mM #[(.ref x0), (.ref x1)] 2 = mkF mM 0 #[.val (.ref x0), .val (.ref x1)] [] := by first | (simp [entryFrame, mkF, argsToLocals, Value.category]; done) | rfl
set_option maxRecDepth 65536 in
set_option maxHeartbeats 40000000 in
theorem rm_sd_4 (l : Launch) (Z : State) (a0 : Array Value) (hw : ∀ d ∈ tables_1, d.before a0 Z = true) (ws : List Jvm.Cond) (a : Addr) (b : Addr) (s1 : Addr) (s2 : Addr) (n1 : Int32) (ty1 : Addr) (q1 : Int32) (r1 : Int32) (n2 : Int32) (ty2 : Addr) (q2 : Int32) (r2 : Int32) (d : Addr) (e2 : Addr) (ev : Int32) (cs : Int32) (h0 : Heap) (n0 : Nat) (Z0 : n0 ≤ h0.size) (F_name_a : Fld Z h0 a "com/example/rolling_rung/rollingrung/schema/Field" "name" "Ljava/lang/String;" (.ref s1)) (F_number_a : Fld Z h0 a "com/example/rolling_rung/rollingrung/schema/Field" "number" "I" (.int n1)) (F_type_a : Fld Z h0 a "com/example/rolling_rung/rollingrung/schema/Field" "type" "Lcom/example/rolling_rung/rollingrung/schema/FieldType;" (.ref ty1)) (F_required_a : Fld Z h0 a "com/example/rolling_rung/rollingrung/schema/Field" "required" "Z" (.int q1)) (F_repeated_a : Fld Z h0 a "com/example/rolling_rung/rollingrung/schema/Field" "repeated" "Z" (.int r1)) (F_name_b : Fld Z h0 b "com/example/rolling_rung/rollingrung/schema/Field" "name" "Ljava/lang/String;" (.ref s2)) (F_number_b : Fld Z h0 b "com/example/rolling_rung/rollingrung/schema/Field" "number" "I" (.int n2)) (F_type_b : Fld Z h0 b "com/example/rolling_rung/rollingrung/schema/Field" "type" "Lcom/example/rolling_rung/rollingrung/schema/FieldType;" (.ref ty2)) (F_required_b : Fld Z h0 b "com/example/rolling_rung/rollingrung/schema/Field" "required" "Z" (.int q2)) (F_repeated_b : Fld Z h0 b "com/example/rolling_rung/rollingrung/schema/Field" "repeated" "Z" (.int r2)) (F_value_s1 : Fld Z h0 s1 "java/lang/String" "value" "[B" (.ref d)) (F_coder_s1 : Fld Z h0 s1 "java/lang/String" "coder" "B" (.int (0 : Int32))) (E_s1 : Exa Z h0 s1 "java/lang/String") (F_value_s2 : Fld Z h0 s2 "java/lang/String" "value" "[B" (.ref e2)) (F_coder_s2 : Fld Z h0 s2 "java/lang/String" "coder" "B" (.int (0 : Int32))) (E_s2 : Exa Z h0 s2 "java/lang/String") (S_String_COMPACT_STRINGS : Sta Z h0 "java/lang/String" "COMPACT_STRINGS" "Z" (.int cs)) (hcs : ¬ cs = 0) (hL : own_HL l Z d e2 ev h0 n0) (nss : s1 ≠ s2) (hd0 : ¬ (own_nz ev) = 0) (hd1 : n1 = n2) (hd2 : ty1 = ty2) (hd3 : q1 = q2) (hd4 : ¬ r1 = r2) :
    MetFree l (⟨"com/example/rolling_rung/rollingrung/schema/Field", "sameDefinition", "(Lcom/example/rolling_rung/rollingrung/schema/Field;)Z"⟩ : MethodName) (head1 (Jvm.Cond.code (⟨"com/example/rolling_rung/rollingrung/schema/Field", "sameDefinition", "(Lcom/example/rolling_rung/rollingrung/schema/Field;)Z"⟩ : MethodName) prog_32_method_3_code 2 (some .boolean) :: ws) oR15) (fun aa_ U_ => aa_ = #[(.ref a), (.ref b)] ∧ Z.Warmed39 U_.vm ∧ U_.heap = h0) (fun _ _ _ _ _ => True) (fun _ U_ o_ U'_ => ∃ v_ L_, o_ = .returned v_ ∧ Q_sd Z a b s1 s2 n1 ty1 q1 r1 n2 ty2 q2 r2 d e2 ev cs h0 n0 v_ U'_.heap L_ ∧ FrameEnd U_ o_ U'_ L_ oR15.cells oR15.slots) := by
  refine MetFree.of_bodySF (plainFor_of_name pn_5) hisR ?_
  intro pP eE sS mM argsA below meth cC s₁ Bd hml0 hP hK
  obtain ⟨rfl, hZ, hh⟩ := hP
  have hx := Bd.exec
  have hby := Bd.bytes
  have hml : cC.maxLocals = 2 := hml0
  have hown : sS.vm.findClass "com/example/rolling_rung/rollingrung/schema/Field" = some mM.cls := findClass_of_methodNamed Bd.named
  have hnm := (name_of_methodNamed Bd.named Bd.method).1
  have X0 : Stand pP l eE oR15 sS mM #[(.ref a), (.ref b)] below meth cC s₁ [] 0 0 := Stand.of_body Bd
  have e0 : s₁.heap = h0 := by rw [← hh, Bd.state]; rfl
  have N0 := Fr.nil n0
  have pre0 : ∀ t_, Steps pP.tables eE below (s₁.setTop (mkF mM 0 #[.val (.ref a), .val (.ref b)] [])) t_ → Steps pP.tables eE below (s₁.setTop (entryFrame mM #[(.ref a), (.ref b)] 2)) t_ := fun t_ k_ => castTop (ef_sd_4 mM a b) k_
  obtain ⟨T_1, X_1, e_1, st_1⟩ := getF X0 hx hZ hown (host := "") (Or.inl (ow hw 60 rfl)) Via.refl e0 F_name_a (g := (mkF mM 1 #[.val (.ref a), .val (.ref b)] [(.ref a)])) rfl rfl (hb hby d_prog_32m3_1)
  obtain ⟨T_2, X_2, e_2, st_2⟩ := getF X_1 hx hZ hown (host := "") (Or.inl (ow hw 60 rfl)) Via.refl e_1 F_name_b (g := (mkF mM 5 #[.val (.ref a), .val (.ref b)] [(.ref b), (.ref s1)])) rfl rfl (hb hby d_prog_32m3_5)
  obtain ⟨cq_3, kq_3, q_3a, q_3b, q_3c⟩ := isOf hZ e_2 E_s1
  obtain ⟨_, _, ⟨T_3, L_3, k_3, n_3⟩, -, X_3, ⟨Lc_3, hQ_3, l_3, y_3, z_3⟩, st_3⟩ := X_2.virtualBack hx (y := MN8) (z := MN8) hown (mvT hZ (ow hw 81 rfl)) (mvT hZ (ow hw 82 rfl)) (notFace_of_selects (args := #[]) (mvT hZ (ow hw 84 rfl))) (mvT hZ (ow hw 84 rfl)) (mvT hZ (ow hw 83 rfl)) (by decide) (backOf (W := 0) (rm_eq l Z a0 hw [] s1 s2 d e2 ev cs h0 n0 Z0 F_value_s1 F_coder_s1 E_s1 F_value_s2 F_coder_s2 E_s2 S_String_COMPACT_STRINGS hcs hL nss) hZ (ow hw 85 rfl) (ow hw 12 rfl) (by decide) (by decide)) q_3a q_3c (g := (mkF mM 8 #[.val (.ref a), .val (.ref b)] [(.ref s2), (.ref s1)])) rfl (by rw [hml]; rfl) (Steps.refl _) (argsL := [(.ref s2)]) (rest := []) (lenOf pd_8 rfl) rfl (by show 2 * 0 + _ ≤ _; exact Nat.le_of_eq rfl) (hb hby d_prog_32m3_8) (fun _ _ => ⟨rfl, e_2, (by decide : 0 + 0 ≤ _), (by decide : 0 + 0 ≤ _)⟩)
  dsimp only [Pt.U, Pt.locs, Pt.cells, Pt.slots] at X_3 l_3 y_3 z_3 st_3 hQ_3
  subst l_3 y_3 z_3
  obtain ⟨rfl, N_3q, eh_3⟩ := hQ_3
  have N_3 := Fr.app N0 N_3q
  obtain ⟨T_4, X_4, e_4, st_4⟩ := getF X_3 hx hZ hown (host := "") (Or.inl (ow hw 62 rfl)) Via.refl eh_3 F_number_a (g := (mkF mM 15 #[.val (.ref a), .val (.ref b)] [(.ref a)])) rfl rfl (hb hby d_prog_32m3_15)
  obtain ⟨T_5, X_5, e_5, st_5⟩ := getF X_4 hx hZ hown (host := "") (Or.inl (ow hw 62 rfl)) Via.refl e_4 F_number_b (g := (mkF mM 19 #[.val (.ref a), .val (.ref b)] [(.ref b), (.int n1)])) rfl rfl (hb hby d_prog_32m3_19)
  obtain ⟨T_6, X_6, e_6, st_6⟩ := getF X_5 hx hZ hown (host := "") (Or.inl (ow hw 64 rfl)) Via.refl e_5 F_type_a (g := (mkF mM 26 #[.val (.ref a), .val (.ref b)] [(.ref a)])) rfl rfl (hb hby d_prog_32m3_26)
  obtain ⟨T_7, X_7, e_7, st_7⟩ := getF X_6 hx hZ hown (host := "") (Or.inl (ow hw 64 rfl)) Via.refl e_6 F_type_b (g := (mkF mM 30 #[.val (.ref a), .val (.ref b)] [(.ref b), (.ref ty1)])) rfl rfl (hb hby d_prog_32m3_30)
  obtain ⟨T_8, X_8, e_8, st_8⟩ := getF X_7 hx hZ hown (host := "") (Or.inl (ow hw 66 rfl)) Via.refl e_7 F_required_a (g := (mkF mM 37 #[.val (.ref a), .val (.ref b)] [(.ref a)])) rfl rfl (hb hby d_prog_32m3_37)
  obtain ⟨T_9, X_9, e_9, st_9⟩ := getF X_8 hx hZ hown (host := "") (Or.inl (ow hw 66 rfl)) Via.refl e_8 F_required_b (g := (mkF mM 41 #[.val (.ref a), .val (.ref b)] [(.ref b), (.int q1)])) rfl rfl (hb hby d_prog_32m3_41)
  obtain ⟨T_10, X_10, e_10, st_10⟩ := getF X_9 hx hZ hown (host := "") (Or.inl (ow hw 68 rfl)) Via.refl e_9 F_repeated_a (g := (mkF mM 48 #[.val (.ref a), .val (.ref b)] [(.ref a)])) rfl rfl (hb hby d_prog_32m3_48)
  obtain ⟨T_11, X_11, e_11, st_11⟩ := getF X_10 hx hZ hown (host := "") (Or.inl (ow hw 68 rfl)) Via.refl e_10 F_repeated_b (g := (mkF mM 52 #[.val (.ref a), .val (.ref b)] [(.ref b), (.int r1)])) rfl rfl (hb hby d_prog_32m3_52)
  obtain ⟨fs, hr, hrun, hended, hW, hsame⟩ := X_11.leave (v := some (.int (0 : Int32))) (fun h => by rw [Bd.returns] at h; cases h)
  refine ⟨_, _, pre0 _ ?_, hrun, hended, _, _, rfl, ?_, ⟨_, rfl⟩, hW, hsame.mono (by decide) (by decide)⟩
  · show oS pP eE below s₁ (mkF mM 0 #[.val (.ref a), .val (.ref b)] []) _
    refine XS.aloadN X0.here hx rfl (hb hby d_prog_32m3_0) rfl rfl ?_
    show oS pP eE below s₁ (mkF mM 1 #[.val (.ref a), .val (.ref b)] [(.ref a)]) _
    refine st_1 _ ?_
    show oS pP eE below T_1 (mkF mM 4 #[.val (.ref a), .val (.ref b)] [(.ref s1)]) _
    refine XS.aloadN X_1.here hx rfl (hb hby d_prog_32m3_4) rfl rfl ?_
    show oS pP eE below T_1 (mkF mM 5 #[.val (.ref a), .val (.ref b)] [(.ref b), (.ref s1)]) _
    refine st_2 _ ?_
    show oS pP eE below T_2 (mkF mM 8 #[.val (.ref a), .val (.ref b)] [(.ref s2), (.ref s1)]) _
    refine st_3.trans ?_
    show oS pP eE below T_3 (mkF mM 11 #[.val (.ref a), .val (.ref b)] [(.int (own_nz ev))]) _
    refine XS.ifNo X_3.here hx rfl (hb hby d_prog_32m3_11) rfl (XT.i0_eq_f hd0) ?_
    refine XS.aloadN X_3.here hx rfl (hb hby d_prog_32m3_14) rfl rfl ?_
    show oS pP eE below T_3 (mkF mM 15 #[.val (.ref a), .val (.ref b)] [(.ref a)]) _
    refine st_4 _ ?_
    show oS pP eE below T_4 (mkF mM 18 #[.val (.ref a), .val (.ref b)] [(.int n1)]) _
    refine XS.aloadN X_4.here hx rfl (hb hby d_prog_32m3_18) rfl rfl ?_
    show oS pP eE below T_4 (mkF mM 19 #[.val (.ref a), .val (.ref b)] [(.ref b), (.int n1)]) _
    refine st_5 _ ?_
    show oS pP eE below T_5 (mkF mM 22 #[.val (.ref a), .val (.ref b)] [(.int n2), (.int n1)]) _
    refine XS.icmpNo X_5.here hx rfl (hb hby d_prog_32m3_22) rfl (XT.ii_ne_f hd1) ?_
    refine XS.aloadN X_5.here hx rfl (hb hby d_prog_32m3_25) rfl rfl ?_
    show oS pP eE below T_5 (mkF mM 26 #[.val (.ref a), .val (.ref b)] [(.ref a)]) _
    refine st_6 _ ?_
    show oS pP eE below T_6 (mkF mM 29 #[.val (.ref a), .val (.ref b)] [(.ref ty1)]) _
    refine XS.aloadN X_6.here hx rfl (hb hby d_prog_32m3_29) rfl rfl ?_
    show oS pP eE below T_6 (mkF mM 30 #[.val (.ref a), .val (.ref b)] [(.ref b), (.ref ty1)]) _
    refine st_7 _ ?_
    show oS pP eE below T_7 (mkF mM 33 #[.val (.ref a), .val (.ref b)] [(.ref ty2), (.ref ty1)]) _
    refine Jvm.RoadKit.acmp (g := (mkF mM 33 #[.val (.ref a), .val (.ref b)] [(.ref ty2), (.ref ty1)])) X_7 hx rfl rfl rfl (pc0 := 33) (pc' := 36) (same := true) rfl (hb hby d_prog_32m3_33) rfl (decide_eq_true (congrArg Value.ref hd2)) (by decide) (by decide) ?_
    refine XS.aloadN X_7.here hx rfl (hb hby d_prog_32m3_36) rfl rfl ?_
    show oS pP eE below T_7 (mkF mM 37 #[.val (.ref a), .val (.ref b)] [(.ref a)]) _
    refine st_8 _ ?_
    show oS pP eE below T_8 (mkF mM 40 #[.val (.ref a), .val (.ref b)] [(.int q1)]) _
    refine XS.aloadN X_8.here hx rfl (hb hby d_prog_32m3_40) rfl rfl ?_
    show oS pP eE below T_8 (mkF mM 41 #[.val (.ref a), .val (.ref b)] [(.ref b), (.int q1)]) _
    refine st_9 _ ?_
    show oS pP eE below T_9 (mkF mM 44 #[.val (.ref a), .val (.ref b)] [(.int q2), (.int q1)]) _
    refine XS.icmpNo X_9.here hx rfl (hb hby d_prog_32m3_44) rfl (XT.ii_ne_f hd3) ?_
    refine XS.aloadN X_9.here hx rfl (hb hby d_prog_32m3_47) rfl rfl ?_
    show oS pP eE below T_9 (mkF mM 48 #[.val (.ref a), .val (.ref b)] [(.ref a)]) _
    refine st_10 _ ?_
    show oS pP eE below T_10 (mkF mM 51 #[.val (.ref a), .val (.ref b)] [(.int r1)]) _
    refine XS.aloadN X_10.here hx rfl (hb hby d_prog_32m3_51) rfl rfl ?_
    show oS pP eE below T_10 (mkF mM 52 #[.val (.ref a), .val (.ref b)] [(.ref b), (.int r1)]) _
    refine st_11 _ ?_
    show oS pP eE below T_11 (mkF mM 55 #[.val (.ref a), .val (.ref b)] [(.int r2), (.int r1)]) _
    refine XS.icmpYes X_11.here hx rfl (pc0 := 55) (pc' := 62) rfl (hb hby d_prog_32m3_55) rfl (XT.ii_ne_t hd4) (by decide) (by decide) ?_
    refine XS.iconst X_11.here hx rfl (hb hby d_prog_32m3_62) ?_
    show oS pP eE below T_11 (mkF mM 63 #[.val (.ref a), .val (.ref b)] [(.int (0 : Int32))]) _
    exact retN X_11 hx (t := .boolean) Bd.returns (by simp) (hb hby d_prog_32m3_63) hr
  · show Q_sd Z a b s1 s2 n1 ty1 q1 r1 n2 ty2 q2 r2 d e2 ev cs h0 n0 _ T_11.heap _
    rw [e_11]
    exact ⟨(congrArg (fun z => some (Value.int z)) (if_neg (fun z => hd4 z.2.2.2.2)).symm), N_3, rfl⟩
theorem d_prog_32m3_58 : decode prog_32_method_3_code 58 = .ok (.iconst 1, 1) := by decide +kernel
theorem d_prog_32m3_59 : decode prog_32_method_3_code 59 = .ok (.goto 4, 3) := by decide +kernel
theorem ef_sd_5 (mM : MethodId) (x0 : Addr) (x1 : Addr) : entryFrame mM #[(.ref x0), (.ref x1)] 2 = mkF mM 0 #[.val (.ref x0), .val (.ref x1)] [] := by first | (simp [entryFrame, mkF, argsToLocals, Value.category]; done) | rfl
set_option maxRecDepth 65536 in
set_option maxHeartbeats 40000000 in
theorem rm_sd_5 (l : Launch) (Z : State) (a0 : Array Value) (hw : ∀ d ∈ tables_1, d.before a0 Z = true) (ws : List Jvm.Cond) (a : Addr) (b : Addr) (s1 : Addr) (s2 : Addr) (n1 : Int32) (ty1 : Addr) (q1 : Int32) (r1 : Int32) (n2 : Int32) (ty2 : Addr) (q2 : Int32) (r2 : Int32) (d : Addr) (e2 : Addr) (ev : Int32) (cs : Int32) (h0 : Heap) (n0 : Nat) (Z0 : n0 ≤ h0.size) (F_name_a : Fld Z h0 a "com/example/rolling_rung/rollingrung/schema/Field" "name" "Ljava/lang/String;" (.ref s1)) (F_number_a : Fld Z h0 a "com/example/rolling_rung/rollingrung/schema/Field" "number" "I" (.int n1)) (F_type_a : Fld Z h0 a "com/example/rolling_rung/rollingrung/schema/Field" "type" "Lcom/example/rolling_rung/rollingrung/schema/FieldType;" (.ref ty1)) (F_required_a : Fld Z h0 a "com/example/rolling_rung/rollingrung/schema/Field" "required" "Z" (.int q1)) (F_repeated_a : Fld Z h0 a "com/example/rolling_rung/rollingrung/schema/Field" "repeated" "Z" (.int r1)) (F_name_b : Fld Z h0 b "com/example/rolling_rung/rollingrung/schema/Field" "name" "Ljava/lang/String;" (.ref s2)) (F_number_b : Fld Z h0 b "com/example/rolling_rung/rollingrung/schema/Field" "number" "I" (.int n2)) (F_type_b : Fld Z h0 b "com/example/rolling_rung/rollingrung/schema/Field" "type" "Lcom/example/rolling_rung/rollingrung/schema/FieldType;" (.ref ty2)) (F_required_b : Fld Z h0 b "com/example/rolling_rung/rollingrung/schema/Field" "required" "Z" (.int q2)) (F_repeated_b : Fld Z h0 b "com/example/rolling_rung/rollingrung/schema/Field" "repeated" "Z" (.int r2)) (F_value_s1 : Fld Z h0 s1 "java/lang/String" "value" "[B" (.ref d)) (F_coder_s1 : Fld Z h0 s1 "java/lang/String" "coder" "B" (.int (0 : Int32))) (E_s1 : Exa Z h0 s1 "java/lang/String") (F_value_s2 : Fld Z h0 s2 "java/lang/String" "value" "[B" (.ref e2)) (F_coder_s2 : Fld Z h0 s2 "java/lang/String" "coder" "B" (.int (0 : Int32))) (E_s2 : Exa Z h0 s2 "java/lang/String") (S_String_COMPACT_STRINGS : Sta Z h0 "java/lang/String" "COMPACT_STRINGS" "Z" (.int cs)) (hcs : ¬ cs = 0) (hL : own_HL l Z d e2 ev h0 n0) (nss : s1 ≠ s2) (hd0 : ¬ (own_nz ev) = 0) (hd1 : n1 = n2) (hd2 : ty1 = ty2) (hd3 : q1 = q2) (hd4 : r1 = r2) :
    MetFree l (⟨"com/example/rolling_rung/rollingrung/schema/Field", "sameDefinition", "(Lcom/example/rolling_rung/rollingrung/schema/Field;)Z"⟩ : MethodName) (head1 (Jvm.Cond.code (⟨"com/example/rolling_rung/rollingrung/schema/Field", "sameDefinition", "(Lcom/example/rolling_rung/rollingrung/schema/Field;)Z"⟩ : MethodName) prog_32_method_3_code 2 (some .boolean) :: ws) oR15) (fun aa_ U_ => aa_ = #[(.ref a), (.ref b)] ∧ Z.Warmed39 U_.vm ∧ U_.heap = h0) (fun _ _ _ _ _ => True) (fun _ U_ o_ U'_ => ∃ v_ L_, o_ = .returned v_ ∧ Q_sd Z a b s1 s2 n1 ty1 q1 r1 n2 ty2 q2 r2 d e2 ev cs h0 n0 v_ U'_.heap L_ ∧ FrameEnd U_ o_ U'_ L_ oR15.cells oR15.slots) := by
  refine MetFree.of_bodySF (plainFor_of_name pn_5) hisR ?_
  intro pP eE sS mM argsA below meth cC s₁ Bd hml0 hP hK
  obtain ⟨rfl, hZ, hh⟩ := hP
  have hx := Bd.exec
  have hby := Bd.bytes
  have hml : cC.maxLocals = 2 := hml0
  have hown : sS.vm.findClass "com/example/rolling_rung/rollingrung/schema/Field" = some mM.cls := findClass_of_methodNamed Bd.named
  have hnm := (name_of_methodNamed Bd.named Bd.method).1
  have X0 : Stand pP l eE oR15 sS mM #[(.ref a), (.ref b)] below meth cC s₁ [] 0 0 := Stand.of_body Bd
  have e0 : s₁.heap = h0 := by rw [← hh, Bd.state]; rfl
  have N0 := Fr.nil n0
  have pre0 : ∀ t_, Steps pP.tables eE below (s₁.setTop (mkF mM 0 #[.val (.ref a), .val (.ref b)] [])) t_ → Steps pP.tables eE below (s₁.setTop (entryFrame mM #[(.ref a), (.ref b)] 2)) t_ := fun t_ k_ => castTop (ef_sd_5 mM a b) k_
  obtain ⟨T_1, X_1, e_1, st_1⟩ := getF X0 hx hZ hown (host := "") (Or.inl (ow hw 60 rfl)) Via.refl e0 F_name_a (g := (mkF mM 1 #[.val (.ref a), .val (.ref b)] [(.ref a)])) rfl rfl (hb hby d_prog_32m3_1)
  obtain ⟨T_2, X_2, e_2, st_2⟩ := getF X_1 hx hZ hown (host := "") (Or.inl (ow hw 60 rfl)) Via.refl e_1 F_name_b (g := (mkF mM 5 #[.val (.ref a), .val (.ref b)] [(.ref b), (.ref s1)])) rfl rfl (hb hby d_prog_32m3_5)
  obtain ⟨cq_3, kq_3, q_3a, q_3b, q_3c⟩ := isOf hZ e_2 E_s1
  obtain ⟨_, _, ⟨T_3, L_3, k_3, n_3⟩, -, X_3, ⟨Lc_3, hQ_3, l_3, y_3, z_3⟩, st_3⟩ := X_2.virtualBack hx (y := MN8) (z := MN8) hown (mvT hZ (ow hw 81 rfl)) (mvT hZ (ow hw 82 rfl)) (notFace_of_selects (args := #[]) (mvT hZ (ow hw 84 rfl))) (mvT hZ (ow hw 84 rfl)) (mvT hZ (ow hw 83 rfl)) (by decide) (backOf (W := 0) (rm_eq l Z a0 hw [] s1 s2 d e2 ev cs h0 n0 Z0 F_value_s1 F_coder_s1 E_s1 F_value_s2 F_coder_s2 E_s2 S_String_COMPACT_STRINGS hcs hL nss) hZ (ow hw 85 rfl) (ow hw 12 rfl) (by decide) (by decide)) q_3a q_3c (g := (mkF mM 8 #[.val (.ref a), .val (.ref b)] [(.ref s2), (.ref s1)])) rfl (by rw [hml]; rfl) (Steps.refl _) (argsL := [(.ref s2)]) (rest := []) (lenOf pd_8 rfl) rfl (by show 2 * 0 + _ ≤ _; exact Nat.le_of_eq rfl) (hb hby d_prog_32m3_8) (fun _ _ => ⟨rfl, e_2, (by decide : 0 + 0 ≤ _), (by decide : 0 + 0 ≤ _)⟩)
  dsimp only [Pt.U, Pt.locs, Pt.cells, Pt.slots] at X_3 l_3 y_3 z_3 st_3 hQ_3
  subst l_3 y_3 z_3
  obtain ⟨rfl, N_3q, eh_3⟩ := hQ_3
  have N_3 := Fr.app N0 N_3q
  obtain ⟨T_4, X_4, e_4, st_4⟩ := getF X_3 hx hZ hown (host := "") (Or.inl (ow hw 62 rfl)) Via.refl eh_3 F_number_a (g := (mkF mM 15 #[.val (.ref a), .val (.ref b)] [(.ref a)])) rfl rfl (hb hby d_prog_32m3_15)
  obtain ⟨T_5, X_5, e_5, st_5⟩ := getF X_4 hx hZ hown (host := "") (Or.inl (ow hw 62 rfl)) Via.refl e_4 F_number_b (g := (mkF mM 19 #[.val (.ref a), .val (.ref b)] [(.ref b), (.int n1)])) rfl rfl (hb hby d_prog_32m3_19)
  obtain ⟨T_6, X_6, e_6, st_6⟩ := getF X_5 hx hZ hown (host := "") (Or.inl (ow hw 64 rfl)) Via.refl e_5 F_type_a (g := (mkF mM 26 #[.val (.ref a), .val (.ref b)] [(.ref a)])) rfl rfl (hb hby d_prog_32m3_26)
  obtain ⟨T_7, X_7, e_7, st_7⟩ := getF X_6 hx hZ hown (host := "") (Or.inl (ow hw 64 rfl)) Via.refl e_6 F_type_b (g := (mkF mM 30 #[.val (.ref a), .val (.ref b)] [(.ref b), (.ref ty1)])) rfl rfl (hb hby d_prog_32m3_30)
  obtain ⟨T_8, X_8, e_8, st_8⟩ := getF X_7 hx hZ hown (host := "") (Or.inl (ow hw 66 rfl)) Via.refl e_7 F_required_a (g := (mkF mM 37 #[.val (.ref a), .val (.ref b)] [(.ref a)])) rfl rfl (hb hby d_prog_32m3_37)
  obtain ⟨T_9, X_9, e_9, st_9⟩ := getF X_8 hx hZ hown (host := "") (Or.inl (ow hw 66 rfl)) Via.refl e_8 F_required_b (g := (mkF mM 41 #[.val (.ref a), .val (.ref b)] [(.ref b), (.int q1)])) rfl rfl (hb hby d_prog_32m3_41)
  obtain ⟨T_10, X_10, e_10, st_10⟩ := getF X_9 hx hZ hown (host := "") (Or.inl (ow hw 68 rfl)) Via.refl e_9 F_repeated_a (g := (mkF mM 48 #[.val (.ref a), .val (.ref b)] [(.ref a)])) rfl rfl (hb hby d_prog_32m3_48)
  obtain ⟨T_11, X_11, e_11, st_11⟩ := getF X_10 hx hZ hown (host := "") (Or.inl (ow hw 68 rfl)) Via.refl e_10 F_repeated_b (g := (mkF mM 52 #[.val (.ref a), .val (.ref b)] [(.ref b), (.int r1)])) rfl rfl (hb hby d_prog_32m3_52)
  obtain ⟨fs, hr, hrun, hended, hW, hsame⟩ := X_11.leave (v := some (.int (1 : Int32))) (fun h => by rw [Bd.returns] at h; cases h)
  refine ⟨_, _, pre0 _ ?_, hrun, hended, _, _, rfl, ?_, ⟨_, rfl⟩, hW, hsame.mono (by decide) (by decide)⟩
  · show oS pP eE below s₁ (mkF mM 0 #[.val (.ref a), .val (.ref b)] []) _
    refine XS.aloadN X0.here hx rfl (hb hby d_prog_32m3_0) rfl rfl ?_
    show oS pP eE below s₁ (mkF mM 1 #[.val (.ref a), .val (.ref b)] [(.ref a)]) _
    refine st_1 _ ?_
    show oS pP eE below T_1 (mkF mM 4 #[.val (.ref a), .val (.ref b)] [(.ref s1)]) _
    refine XS.aloadN X_1.here hx rfl (hb hby d_prog_32m3_4) rfl rfl ?_
    show oS pP eE below T_1 (mkF mM 5 #[.val (.ref a), .val (.ref b)] [(.ref b), (.ref s1)]) _
    refine st_2 _ ?_
    show oS pP eE below T_2 (mkF mM 8 #[.val (.ref a), .val (.ref b)] [(.ref s2), (.ref s1)]) _
    refine st_3.trans ?_
    show oS pP eE below T_3 (mkF mM 11 #[.val (.ref a), .val (.ref b)] [(.int (own_nz ev))]) _
    refine XS.ifNo X_3.here hx rfl (hb hby d_prog_32m3_11) rfl (XT.i0_eq_f hd0) ?_
    refine XS.aloadN X_3.here hx rfl (hb hby d_prog_32m3_14) rfl rfl ?_
    show oS pP eE below T_3 (mkF mM 15 #[.val (.ref a), .val (.ref b)] [(.ref a)]) _
    refine st_4 _ ?_
    show oS pP eE below T_4 (mkF mM 18 #[.val (.ref a), .val (.ref b)] [(.int n1)]) _
    refine XS.aloadN X_4.here hx rfl (hb hby d_prog_32m3_18) rfl rfl ?_
    show oS pP eE below T_4 (mkF mM 19 #[.val (.ref a), .val (.ref b)] [(.ref b), (.int n1)]) _
    refine st_5 _ ?_
    show oS pP eE below T_5 (mkF mM 22 #[.val (.ref a), .val (.ref b)] [(.int n2), (.int n1)]) _
    refine XS.icmpNo X_5.here hx rfl (hb hby d_prog_32m3_22) rfl (XT.ii_ne_f hd1) ?_
    refine XS.aloadN X_5.here hx rfl (hb hby d_prog_32m3_25) rfl rfl ?_
    show oS pP eE below T_5 (mkF mM 26 #[.val (.ref a), .val (.ref b)] [(.ref a)]) _
    refine st_6 _ ?_
    show oS pP eE below T_6 (mkF mM 29 #[.val (.ref a), .val (.ref b)] [(.ref ty1)]) _
    refine XS.aloadN X_6.here hx rfl (hb hby d_prog_32m3_29) rfl rfl ?_
    show oS pP eE below T_6 (mkF mM 30 #[.val (.ref a), .val (.ref b)] [(.ref b), (.ref ty1)]) _
    refine st_7 _ ?_
    show oS pP eE below T_7 (mkF mM 33 #[.val (.ref a), .val (.ref b)] [(.ref ty2), (.ref ty1)]) _
    refine Jvm.RoadKit.acmp (g := (mkF mM 33 #[.val (.ref a), .val (.ref b)] [(.ref ty2), (.ref ty1)])) X_7 hx rfl rfl rfl (pc0 := 33) (pc' := 36) (same := true) rfl (hb hby d_prog_32m3_33) rfl (decide_eq_true (congrArg Value.ref hd2)) (by decide) (by decide) ?_
    refine XS.aloadN X_7.here hx rfl (hb hby d_prog_32m3_36) rfl rfl ?_
    show oS pP eE below T_7 (mkF mM 37 #[.val (.ref a), .val (.ref b)] [(.ref a)]) _
    refine st_8 _ ?_
    show oS pP eE below T_8 (mkF mM 40 #[.val (.ref a), .val (.ref b)] [(.int q1)]) _
    refine XS.aloadN X_8.here hx rfl (hb hby d_prog_32m3_40) rfl rfl ?_
    show oS pP eE below T_8 (mkF mM 41 #[.val (.ref a), .val (.ref b)] [(.ref b), (.int q1)]) _
    refine st_9 _ ?_
    show oS pP eE below T_9 (mkF mM 44 #[.val (.ref a), .val (.ref b)] [(.int q2), (.int q1)]) _
    refine XS.icmpNo X_9.here hx rfl (hb hby d_prog_32m3_44) rfl (XT.ii_ne_f hd3) ?_
    refine XS.aloadN X_9.here hx rfl (hb hby d_prog_32m3_47) rfl rfl ?_
    show oS pP eE below T_9 (mkF mM 48 #[.val (.ref a), .val (.ref b)] [(.ref a)]) _
    refine st_10 _ ?_
    show oS pP eE below T_10 (mkF mM 51 #[.val (.ref a), .val (.ref b)] [(.int r1)]) _
    refine XS.aloadN X_10.here hx rfl (hb hby d_prog_32m3_51) rfl rfl ?_
    show oS pP eE below T_10 (mkF mM 52 #[.val (.ref a), .val (.ref b)] [(.ref b), (.int r1)]) _
    refine st_11 _ ?_
    show oS pP eE below T_11 (mkF mM 55 #[.val (.ref a), .val (.ref b)] [(.int r2), (.int r1)]) _
    refine XS.icmpNo X_11.here hx rfl (hb hby d_prog_32m3_55) rfl (XT.ii_ne_f hd4) ?_
    refine XS.iconst X_11.here hx rfl (hb hby d_prog_32m3_58) ?_
    refine XS.goto X_11.here hx rfl (pc0 := 59) (pc' := 63) rfl (hb hby d_prog_32m3_59) (by decide) (by decide) ?_
    show oS pP eE below T_11 (mkF mM 63 #[.val (.ref a), .val (.ref b)] [(.int (1 : Int32))]) _
    exact retN X_11 hx (t := .boolean) Bd.returns (by simp) (hb hby d_prog_32m3_63) hr
  · show Q_sd Z a b s1 s2 n1 ty1 q1 r1 n2 ty2 q2 r2 d e2 ev cs h0 n0 _ T_11.heap _
    rw [e_11]
    exact ⟨(congrArg (fun z => some (Value.int z)) (if_pos ⟨hd0, hd1, hd2, hd3, hd4⟩).symm), N_3, rfl⟩
set_option maxRecDepth 65536 in
set_option maxHeartbeats 40000000 in
theorem rm_sd (l : Launch) (Z : State) (a0 : Array Value) (hw : ∀ d ∈ tables_1, d.before a0 Z = true) (ws : List Jvm.Cond) (a : Addr) (b : Addr) (s1 : Addr) (s2 : Addr) (n1 : Int32) (ty1 : Addr) (q1 : Int32) (r1 : Int32) (n2 : Int32) (ty2 : Addr) (q2 : Int32) (r2 : Int32) (d : Addr) (e2 : Addr) (ev : Int32) (cs : Int32) (h0 : Heap) (n0 : Nat) (Z0 : n0 ≤ h0.size) (F_name_a : Fld Z h0 a "com/example/rolling_rung/rollingrung/schema/Field" "name" "Ljava/lang/String;" (.ref s1)) (F_number_a : Fld Z h0 a "com/example/rolling_rung/rollingrung/schema/Field" "number" "I" (.int n1)) (F_type_a : Fld Z h0 a "com/example/rolling_rung/rollingrung/schema/Field" "type" "Lcom/example/rolling_rung/rollingrung/schema/FieldType;" (.ref ty1)) (F_required_a : Fld Z h0 a "com/example/rolling_rung/rollingrung/schema/Field" "required" "Z" (.int q1)) (F_repeated_a : Fld Z h0 a "com/example/rolling_rung/rollingrung/schema/Field" "repeated" "Z" (.int r1)) (F_name_b : Fld Z h0 b "com/example/rolling_rung/rollingrung/schema/Field" "name" "Ljava/lang/String;" (.ref s2)) (F_number_b : Fld Z h0 b "com/example/rolling_rung/rollingrung/schema/Field" "number" "I" (.int n2)) (F_type_b : Fld Z h0 b "com/example/rolling_rung/rollingrung/schema/Field" "type" "Lcom/example/rolling_rung/rollingrung/schema/FieldType;" (.ref ty2)) (F_required_b : Fld Z h0 b "com/example/rolling_rung/rollingrung/schema/Field" "required" "Z" (.int q2)) (F_repeated_b : Fld Z h0 b "com/example/rolling_rung/rollingrung/schema/Field" "repeated" "Z" (.int r2)) (F_value_s1 : Fld Z h0 s1 "java/lang/String" "value" "[B" (.ref d)) (F_coder_s1 : Fld Z h0 s1 "java/lang/String" "coder" "B" (.int (0 : Int32))) (E_s1 : Exa Z h0 s1 "java/lang/String") (F_value_s2 : Fld Z h0 s2 "java/lang/String" "value" "[B" (.ref e2)) (F_coder_s2 : Fld Z h0 s2 "java/lang/String" "coder" "B" (.int (0 : Int32))) (E_s2 : Exa Z h0 s2 "java/lang/String") (S_String_COMPACT_STRINGS : Sta Z h0 "java/lang/String" "COMPACT_STRINGS" "Z" (.int cs)) (hcs : ¬ cs = 0) (hL : own_HL l Z d e2 ev h0 n0) (nss : s1 ≠ s2) :
    MetFree l (⟨"com/example/rolling_rung/rollingrung/schema/Field", "sameDefinition", "(Lcom/example/rolling_rung/rollingrung/schema/Field;)Z"⟩ : MethodName) (head1 (Jvm.Cond.code (⟨"com/example/rolling_rung/rollingrung/schema/Field", "sameDefinition", "(Lcom/example/rolling_rung/rollingrung/schema/Field;)Z"⟩ : MethodName) prog_32_method_3_code 2 (some .boolean) :: ws) oR15) (fun aa_ U_ => aa_ = #[(.ref a), (.ref b)] ∧ Z.Warmed39 U_.vm ∧ U_.heap = h0) (fun _ _ _ _ _ => True) (fun _ U_ o_ U'_ => ∃ v_ L_, o_ = .returned v_ ∧ Q_sd Z a b s1 s2 n1 ty1 q1 r1 n2 ty2 q2 r2 d e2 ev cs h0 n0 v_ U'_.heap L_ ∧ FrameEnd U_ o_ U'_ L_ oR15.cells oR15.slots) := by
  by_cases hd0 : (own_nz ev) = 0
  · exact rm_sd_0 l Z a0 hw ws a b s1 s2 n1 ty1 q1 r1 n2 ty2 q2 r2 d e2 ev cs h0 n0 Z0 F_name_a F_number_a F_type_a F_required_a F_repeated_a F_name_b F_number_b F_type_b F_required_b F_repeated_b F_value_s1 F_coder_s1 E_s1 F_value_s2 F_coder_s2 E_s2 S_String_COMPACT_STRINGS hcs hL nss hd0
  · by_cases hd1 : n1 = n2
    · by_cases hd2 : ty1 = ty2
      · by_cases hd3 : q1 = q2
        · by_cases hd4 : r1 = r2
          · exact rm_sd_5 l Z a0 hw ws a b s1 s2 n1 ty1 q1 r1 n2 ty2 q2 r2 d e2 ev cs h0 n0 Z0 F_name_a F_number_a F_type_a F_required_a F_repeated_a F_name_b F_number_b F_type_b F_required_b F_repeated_b F_value_s1 F_coder_s1 E_s1 F_value_s2 F_coder_s2 E_s2 S_String_COMPACT_STRINGS hcs hL nss hd0 hd1 hd2 hd3 hd4
          · exact rm_sd_4 l Z a0 hw ws a b s1 s2 n1 ty1 q1 r1 n2 ty2 q2 r2 d e2 ev cs h0 n0 Z0 F_name_a F_number_a F_type_a F_required_a F_repeated_a F_name_b F_number_b F_type_b F_required_b F_repeated_b F_value_s1 F_coder_s1 E_s1 F_value_s2 F_coder_s2 E_s2 S_String_COMPACT_STRINGS hcs hL nss hd0 hd1 hd2 hd3 hd4
        · exact rm_sd_3 l Z a0 hw ws a b s1 s2 n1 ty1 q1 r1 n2 ty2 q2 r2 d e2 ev cs h0 n0 Z0 F_name_a F_number_a F_type_a F_required_a F_repeated_a F_name_b F_number_b F_type_b F_required_b F_repeated_b F_value_s1 F_coder_s1 E_s1 F_value_s2 F_coder_s2 E_s2 S_String_COMPACT_STRINGS hcs hL nss hd0 hd1 hd2 hd3
      · exact rm_sd_2 l Z a0 hw ws a b s1 s2 n1 ty1 q1 r1 n2 ty2 q2 r2 d e2 ev cs h0 n0 Z0 F_name_a F_number_a F_type_a F_required_a F_repeated_a F_name_b F_number_b F_type_b F_required_b F_repeated_b F_value_s1 F_coder_s1 E_s1 F_value_s2 F_coder_s2 E_s2 S_String_COMPACT_STRINGS hcs hL nss hd0 hd1 hd2
    · exact rm_sd_1 l Z a0 hw ws a b s1 s2 n1 ty1 q1 r1 n2 ty2 q2 r2 d e2 ev cs h0 n0 Z0 F_name_a F_number_a F_type_a F_required_a F_repeated_a F_name_b F_number_b F_type_b F_required_b F_repeated_b F_value_s1 F_coder_s1 E_s1 F_value_s2 F_coder_s2 E_s2 S_String_COMPACT_STRINGS hcs hL nss hd0 hd1
def own_eqs (p1 p2 : Int32) (p3 p4 : Int64) (sn cn qa qb ra rb ta sa sb ca0 ca1 la lb tb nb cb0 cb1 : Int32) : Prop := sn = (own_nzL (p4 &&& (1 : Int64))) ∧ cn = (own_nzL ((XT.ushrL p4 (1 : Int32)) &&& (1 : Int64))) ∧ qa = (own_nzL ((XT.ushrL p4 (10 : Int32)) &&& (1 : Int64))) ∧ qb = (own_nzL ((XT.ushrL p4 (11 : Int32)) &&& (1 : Int64))) ∧ ra = (own_nzL ((XT.ushrL p4 (12 : Int32)) &&& (1 : Int64))) ∧ rb = (own_nzL ((XT.ushrL p4 (13 : Int32)) &&& (1 : Int64))) ∧ ((((XT.ushrL p4 (2 : Int32)) &&& (15 : Int64)).toInt32) % (9 : Int32)) = ta ∧ (((XT.ushrL p4 (14 : Int32)) &&& (3 : Int64)).toInt32) = sa ∧ (((XT.ushrL p4 (16 : Int32)) &&& (3 : Int64)).toInt32) = sb ∧ (((p3 &&& (255 : Int64)).toInt32).toUInt32.toUInt16.toUInt32.toInt32) = ca0 ∧ ((((XT.ushrL p3 (8 : Int32)) &&& (255 : Int64)).toInt32).toUInt32.toUInt16.toUInt32.toInt32) = ca1 ∧ ((((XT.ushrL p3 (32 : Int32)) &&& (3 : Int64)).toInt32) % (3 : Int32)) = la ∧ ((((XT.ushrL p3 (34 : Int32)) &&& (3 : Int64)).toInt32) % (3 : Int32)) = lb ∧ tb = (if ((XT.ushrL p4 (18 : Int32)) &&& (1 : Int64)) = (0 : Int64) then ((((XT.ushrL p4 (6 : Int32)) &&& (15 : Int64)).toInt32) % (9 : Int32)) else ta) ∧ nb = (if sn = 0 then p2 else p1) ∧ cb0 = (if cn = 0 then ((((XT.ushrL p3 (16 : Int32)) &&& (255 : Int64)).toInt32).toUInt32.toUInt16.toUInt32.toInt32) else ca0) ∧ cb1 = (if cn = 0 then ((((XT.ushrL p3 (24 : Int32)) &&& (255 : Int64)).toInt32).toUInt32.toUInt16.toUInt32.toInt32) else ca1)
abbrev lc36 (p1 : Int32) (p2 : Int32) (p3 : Int64) (p4 : Int64) : Array Slot := #[.val (.int p1), .val (.int p2), .val (.long p3), .second, .val (.long p4), .second, .unset, .unset, .unset, .unset, .unset, .unset, .unset, .unset, .unset, .unset, .unset, .unset, .unset, .unset, .unset, .unset, .unset, .unset, .unset, .unset, .unset]
abbrev lc37 (p1 : Int32) (p2 : Int32) (p3 : Int64) (p4 : Int64) (sn : Int32) : Array Slot := #[.val (.int p1), .val (.int p2), .val (.long p3), .second, .val (.long p4), .second, .val (.int sn), .unset, .unset, .unset, .unset, .unset, .unset, .unset, .unset, .unset, .unset, .unset, .unset, .unset, .unset, .unset, .unset, .unset, .unset, .unset, .unset]
abbrev lc38 (p1 : Int32) (p2 : Int32) (p3 : Int64) (p4 : Int64) (sn : Int32) (cn : Int32) : Array Slot := #[.val (.int p1), .val (.int p2), .val (.long p3), .second, .val (.long p4), .second, .val (.int sn), .val (.int cn), .unset, .unset, .unset, .unset, .unset, .unset, .unset, .unset, .unset, .unset, .unset, .unset, .unset, .unset, .unset, .unset, .unset, .unset, .unset]
abbrev lc39 (p1 : Int32) (p2 : Int32) (p3 : Int64) (p4 : Int64) (sn : Int32) (cn : Int32) (ta : Int32) : Array Slot := #[.val (.int p1), .val (.int p2), .val (.long p3), .second, .val (.long p4), .second, .val (.int sn), .val (.int cn), .val (.int ta), .unset, .unset, .unset, .unset, .unset, .unset, .unset, .unset, .unset, .unset, .unset, .unset, .unset, .unset, .unset, .unset, .unset, .unset]
abbrev lc40 (p1 : Int32) (p2 : Int32) (p3 : Int64) (p4 : Int64) (sn : Int32) (cn : Int32) (ta : Int32) (tb : Int32) : Array Slot := #[.val (.int p1), .val (.int p2), .val (.long p3), .second, .val (.long p4), .second, .val (.int sn), .val (.int cn), .val (.int ta), .val (.int tb), .unset, .unset, .unset, .unset, .unset, .unset, .unset, .unset, .unset, .unset, .unset, .unset, .unset, .unset, .unset, .unset, .unset]
abbrev lc41 (p1 : Int32) (p2 : Int32) (p3 : Int64) (p4 : Int64) (sn : Int32) (cn : Int32) (ta : Int32) (tb : Int32) (qa : Int32) : Array Slot := #[.val (.int p1), .val (.int p2), .val (.long p3), .second, .val (.long p4), .second, .val (.int sn), .val (.int cn), .val (.int ta), .val (.int tb), .val (.int qa), .unset, .unset, .unset, .unset, .unset, .unset, .unset, .unset, .unset, .unset, .unset, .unset, .unset, .unset, .unset, .unset]
abbrev lc42 (p1 : Int32) (p2 : Int32) (p3 : Int64) (p4 : Int64) (sn : Int32) (cn : Int32) (ta : Int32) (tb : Int32) (qa : Int32) (qb : Int32) : Array Slot := #[.val (.int p1), .val (.int p2), .val (.long p3), .second, .val (.long p4), .second, .val (.int sn), .val (.int cn), .val (.int ta), .val (.int tb), .val (.int qa), .val (.int qb), .unset, .unset, .unset, .unset, .unset, .unset, .unset, .unset, .unset, .unset, .unset, .unset, .unset, .unset, .unset]
abbrev lc43 (p1 : Int32) (p2 : Int32) (p3 : Int64) (p4 : Int64) (sn : Int32) (cn : Int32) (ta : Int32) (tb : Int32) (qa : Int32) (qb : Int32) (ra : Int32) : Array Slot := #[.val (.int p1), .val (.int p2), .val (.long p3), .second, .val (.long p4), .second, .val (.int sn), .val (.int cn), .val (.int ta), .val (.int tb), .val (.int qa), .val (.int qb), .val (.int ra), .unset, .unset, .unset, .unset, .unset, .unset, .unset, .unset, .unset, .unset, .unset, .unset, .unset, .unset]
abbrev lc44 (p1 : Int32) (p2 : Int32) (p3 : Int64) (p4 : Int64) (sn : Int32) (cn : Int32) (ta : Int32) (tb : Int32) (qa : Int32) (qb : Int32) (ra : Int32) (rb : Int32) : Array Slot := #[.val (.int p1), .val (.int p2), .val (.long p3), .second, .val (.long p4), .second, .val (.int sn), .val (.int cn), .val (.int ta), .val (.int tb), .val (.int qa), .val (.int qb), .val (.int ra), .val (.int rb), .unset, .unset, .unset, .unset, .unset, .unset, .unset, .unset, .unset, .unset, .unset, .unset, .unset]
abbrev lc45 (p1 : Int32) (p2 : Int32) (p3 : Int64) (p4 : Int64) (sn : Int32) (cn : Int32) (ta : Int32) (tb : Int32) (qa : Int32) (qb : Int32) (ra : Int32) (rb : Int32) (sa : Int32) : Array Slot := #[.val (.int p1), .val (.int p2), .val (.long p3), .second, .val (.long p4), .second, .val (.int sn), .val (.int cn), .val (.int ta), .val (.int tb), .val (.int qa), .val (.int qb), .val (.int ra), .val (.int rb), .val (.int sa), .unset, .unset, .unset, .unset, .unset, .unset, .unset, .unset, .unset, .unset, .unset, .unset]
abbrev lc46 (p1 : Int32) (p2 : Int32) (p3 : Int64) (p4 : Int64) (sn : Int32) (cn : Int32) (ta : Int32) (tb : Int32) (qa : Int32) (qb : Int32) (ra : Int32) (rb : Int32) (sa : Int32) (sb : Int32) : Array Slot := #[.val (.int p1), .val (.int p2), .val (.long p3), .second, .val (.long p4), .second, .val (.int sn), .val (.int cn), .val (.int ta), .val (.int tb), .val (.int qa), .val (.int qb), .val (.int ra), .val (.int rb), .val (.int sa), .val (.int sb), .unset, .unset, .unset, .unset, .unset, .unset, .unset, .unset, .unset, .unset, .unset]
abbrev lc47 (p1 : Int32) (p2 : Int32) (p3 : Int64) (p4 : Int64) (sn : Int32) (cn : Int32) (ta : Int32) (tb : Int32) (qa : Int32) (qb : Int32) (ra : Int32) (rb : Int32) (sa : Int32) (sb : Int32) (nb : Int32) : Array Slot := #[.val (.int p1), .val (.int p2), .val (.long p3), .second, .val (.long p4), .second, .val (.int sn), .val (.int cn), .val (.int ta), .val (.int tb), .val (.int qa), .val (.int qb), .val (.int ra), .val (.int rb), .val (.int sa), .val (.int sb), .val (.int nb), .unset, .unset, .unset, .unset, .unset, .unset, .unset, .unset, .unset, .unset]
abbrev lc48 (p1 : Int32) (p2 : Int32) (p3 : Int64) (p4 : Int64) (sn : Int32) (cn : Int32) (ta : Int32) (tb : Int32) (qa : Int32) (qb : Int32) (ra : Int32) (rb : Int32) (sa : Int32) (sb : Int32) (nb : Int32) (ca0 : Int32) : Array Slot := #[.val (.int p1), .val (.int p2), .val (.long p3), .second, .val (.long p4), .second, .val (.int sn), .val (.int cn), .val (.int ta), .val (.int tb), .val (.int qa), .val (.int qb), .val (.int ra), .val (.int rb), .val (.int sa), .val (.int sb), .val (.int nb), .val (.int ca0), .unset, .unset, .unset, .unset, .unset, .unset, .unset, .unset, .unset]
abbrev lc49 (p1 : Int32) (p2 : Int32) (p3 : Int64) (p4 : Int64) (sn : Int32) (cn : Int32) (ta : Int32) (tb : Int32) (qa : Int32) (qb : Int32) (ra : Int32) (rb : Int32) (sa : Int32) (sb : Int32) (nb : Int32) (ca0 : Int32) (ca1 : Int32) : Array Slot := #[.val (.int p1), .val (.int p2), .val (.long p3), .second, .val (.long p4), .second, .val (.int sn), .val (.int cn), .val (.int ta), .val (.int tb), .val (.int qa), .val (.int qb), .val (.int ra), .val (.int rb), .val (.int sa), .val (.int sb), .val (.int nb), .val (.int ca0), .val (.int ca1), .unset, .unset, .unset, .unset, .unset, .unset, .unset, .unset]
abbrev lc50 (p1 : Int32) (p2 : Int32) (p3 : Int64) (p4 : Int64) (sn : Int32) (cn : Int32) (ta : Int32) (tb : Int32) (qa : Int32) (qb : Int32) (ra : Int32) (rb : Int32) (sa : Int32) (sb : Int32) (nb : Int32) (ca0 : Int32) (ca1 : Int32) (cb0 : Int32) : Array Slot := #[.val (.int p1), .val (.int p2), .val (.long p3), .second, .val (.long p4), .second, .val (.int sn), .val (.int cn), .val (.int ta), .val (.int tb), .val (.int qa), .val (.int qb), .val (.int ra), .val (.int rb), .val (.int sa), .val (.int sb), .val (.int nb), .val (.int ca0), .val (.int ca1), .val (.int cb0), .unset, .unset, .unset, .unset, .unset, .unset, .unset]
abbrev lc51 (p1 : Int32) (p2 : Int32) (p3 : Int64) (p4 : Int64) (sn : Int32) (cn : Int32) (ta : Int32) (tb : Int32) (qa : Int32) (qb : Int32) (ra : Int32) (rb : Int32) (sa : Int32) (sb : Int32) (nb : Int32) (ca0 : Int32) (ca1 : Int32) (cb0 : Int32) (cb1 : Int32) : Array Slot := #[.val (.int p1), .val (.int p2), .val (.long p3), .second, .val (.long p4), .second, .val (.int sn), .val (.int cn), .val (.int ta), .val (.int tb), .val (.int qa), .val (.int qb), .val (.int ra), .val (.int rb), .val (.int sa), .val (.int sb), .val (.int nb), .val (.int ca0), .val (.int ca1), .val (.int cb0), .val (.int cb1), .unset, .unset, .unset, .unset, .unset, .unset]
abbrev lc52 (p1 : Int32) (p2 : Int32) (p3 : Int64) (p4 : Int64) (sn : Int32) (cn : Int32) (ta : Int32) (tb : Int32) (qa : Int32) (qb : Int32) (ra : Int32) (rb : Int32) (sa : Int32) (sb : Int32) (nb : Int32) (ca0 : Int32) (ca1 : Int32) (cb0 : Int32) (cb1 : Int32) (la : Int32) : Array Slot := #[.val (.int p1), .val (.int p2), .val (.long p3), .second, .val (.long p4), .second, .val (.int sn), .val (.int cn), .val (.int ta), .val (.int tb), .val (.int qa), .val (.int qb), .val (.int ra), .val (.int rb), .val (.int sa), .val (.int sb), .val (.int nb), .val (.int ca0), .val (.int ca1), .val (.int cb0), .val (.int cb1), .val (.int la), .unset, .unset, .unset, .unset, .unset]
abbrev lc53 (p1 : Int32) (p2 : Int32) (p3 : Int64) (p4 : Int64) (sn : Int32) (cn : Int32) (ta : Int32) (tb : Int32) (qa : Int32) (qb : Int32) (ra : Int32) (rb : Int32) (sa : Int32) (sb : Int32) (nb : Int32) (ca0 : Int32) (ca1 : Int32) (cb0 : Int32) (cb1 : Int32) (la : Int32) (lb : Int32) : Array Slot := #[.val (.int p1), .val (.int p2), .val (.long p3), .second, .val (.long p4), .second, .val (.int sn), .val (.int cn), .val (.int ta), .val (.int tb), .val (.int qa), .val (.int qb), .val (.int ra), .val (.int rb), .val (.int sa), .val (.int sb), .val (.int nb), .val (.int ca0), .val (.int ca1), .val (.int cb0), .val (.int cb1), .val (.int la), .val (.int lb), .unset, .unset, .unset, .unset]
set_option maxRecDepth 65536 in
set_option maxHeartbeats 40000000 in
theorem pc_pre {pP : Program} {l : Launch} {eE : Env} {sS : State} {mM : MethodId} {argsA : Array Value} {below : List Frame} {meth : Method} {cC : Code} {T0 : State} {locs : List Loc} {Z : State} {a0 : Array Value} {h0 : Heap} {n0 : Nat} (p1 : Int32) (p2 : Int32) (p3 : Int64) (p4 : Int64) (sn : Int32) (cn : Int32) (qa : Int32) (qb : Int32) (ra : Int32) (rb : Int32) (ta : Int32) (sa : Int32) (sb : Int32) (ca0 : Int32) (ca1 : Int32) (la : Int32) (lb : Int32) (tb : Int32) (nb : Int32) (cb0 : Int32) (cb1 : Int32) (X0 : Stand pP l eE room_1 sS mM argsA below meth cC T0 locs 0 0) (hx : pP.tables.exec = Jvm.exec) (hZ : Z.Warmed39 sS.vm) (hw : ∀ d ∈ tables_1, d.before a0 Z = true) (hby : cC.code = code) (hml : cC.maxLocals = 27) (hown : sS.vm.findClass "com/example/rolling_rung/rollingrung/schema/FieldSameDefinitionPinLaw" = some mM.cls) (e0 : T0.heap = h0) (N0 : Fr n0 locs) (Z0 : n0 ≤ h0.size) (hEQ : own_eqs p1 p2 p3 p4 sn cn qa qb ra rb ta sa sb ca0 ca1 la lb tb nb cb0 cb1) :
    ∃ (T_ : State) (h_ : Heap) (L_ : List Loc), Stand pP l eE room_1 sS mM argsA below meth cC T_ L_ 0 0 ∧ T_.heap = h_ ∧ Fr n0 L_ ∧ Keep h0 h_ [] ∧ ∀ target, Steps pP.tables eE below (T_.setTop (mkF mM 283 (lc53 p1 p2 p3 p4 sn cn ta tb qa qb ra rb sa sb nb ca0 ca1 cb0 cb1 la lb) [])) target → Steps pP.tables eE below (T0.setTop (mkF mM 0 (lc36 p1 p2 p3 p4) [])) target := by
  obtain ⟨h_sn, h_cn, h_qa, h_qb, h_ra, h_rb, h_ta, h_sa, h_sb, h_ca0, h_ca1, h_la, h_lb, h_tb, h_nb, h_cb0, h_cb1⟩ := hEQ
  refine ⟨T0, _, _, X0, e0, N0, (Keep.refl h0 []), fun target kt => ?_⟩
  show oS pP eE below T0 (mkF mM 0 (lc36 p1 p2 p3 p4) []) _
  refine XT.lload X0.here hx rfl (hb hby at_0) rfl ?_
  refine XT.lconst X0.here hx rfl (hb hby at_2) ?_
  show oS pP eE below T0 (mkF mM 3 (lc36 p1 p2 p3 p4) [(.long (1 : Int64)), (.long p4)]) _
  refine XT.land X0.here hx rfl (hb hby at_3) rfl ?_
  refine XT.lconst X0.here hx rfl (hb hby at_4) ?_
  show oS pP eE below T0 (mkF mM 5 (lc36 p1 p2 p3 p4) [(.long (0 : Int64)), (.long (p4 &&& (1 : Int64)))]) _
  refine XT.lcmp X0.here hx rfl (hb hby at_5) rfl ?_
  show oS pP eE below T0 (mkF mM 6 (lc36 p1 p2 p3 p4) [(.int (XT.cmpL (p4 &&& (1 : Int64)) (0 : Int64)))]) _
  have jn_1 : ∀ t_, Steps pP.tables eE below (T0.setTop (mkF mM 14 (lc36 p1 p2 p3 p4) [(.int sn)])) t_ → Steps pP.tables eE below (T0.setTop (mkF mM 6 (lc36 p1 p2 p3 p4) [(.int (XT.cmpL (p4 &&& (1 : Int64)) (0 : Int64)))])) t_ := by
    intro t_ kt
    by_cases hz : (p4 &&& (1 : Int64)) = (0 : Int64)
    · have hj : sn = (0 : Int32) := h_sn.trans (if_pos hz)
      rw [hj] at kt
      refine XS.ifYes X0.here hx rfl (pc0 := 6) (pc' := 13) rfl (hb hby at_6) rfl (XT.ll_eq_t hz) (by decide) (by decide) ?_
      refine XS.iconst X0.here hx rfl (hb hby at_13) ?_
      show oS pP eE below T0 (mkF mM 14 (lc36 p1 p2 p3 p4) [(.int (0 : Int32))]) _
      exact kt
    · have hj : sn = (1 : Int32) := h_sn.trans (if_neg hz)
      rw [hj] at kt
      refine XS.ifNo X0.here hx rfl (hb hby at_6) rfl (XT.ll_eq_f hz) ?_
      refine XS.iconst X0.here hx rfl (hb hby at_9) ?_
      refine XS.goto X0.here hx rfl (pc0 := 10) (pc' := 14) rfl (hb hby at_10) (by decide) (by decide) ?_
      show oS pP eE below T0 (mkF mM 14 (lc36 p1 p2 p3 p4) [(.int (1 : Int32))]) _
      exact kt
  refine jn_1 _ ?_
  refine XS.istore X0.here hx rfl (hb hby at_14) rfl (l' := (lc37 p1 p2 p3 p4 sn)) rfl ?_
  refine XT.lload X0.here hx rfl (hb hby at_16) rfl ?_
  refine XS.iconst X0.here hx rfl (hb hby at_18) ?_
  show oS pP eE below T0 (mkF mM 19 (lc37 p1 p2 p3 p4 sn) [(.int (1 : Int32)), (.long p4)]) _
  refine XT.lushr X0.here hx rfl (hb hby at_19) rfl ?_
  refine XT.lconst X0.here hx rfl (hb hby at_20) ?_
  show oS pP eE below T0 (mkF mM 21 (lc37 p1 p2 p3 p4 sn) [(.long (1 : Int64)), (.long (XT.ushrL p4 (1 : Int32)))]) _
  refine XT.land X0.here hx rfl (hb hby at_21) rfl ?_
  refine XT.lconst X0.here hx rfl (hb hby at_22) ?_
  show oS pP eE below T0 (mkF mM 23 (lc37 p1 p2 p3 p4 sn) [(.long (0 : Int64)), (.long ((XT.ushrL p4 (1 : Int32)) &&& (1 : Int64)))]) _
  refine XT.lcmp X0.here hx rfl (hb hby at_23) rfl ?_
  show oS pP eE below T0 (mkF mM 24 (lc37 p1 p2 p3 p4 sn) [(.int (XT.cmpL ((XT.ushrL p4 (1 : Int32)) &&& (1 : Int64)) (0 : Int64)))]) _
  have jn_2 : ∀ t_, Steps pP.tables eE below (T0.setTop (mkF mM 32 (lc37 p1 p2 p3 p4 sn) [(.int cn)])) t_ → Steps pP.tables eE below (T0.setTop (mkF mM 24 (lc37 p1 p2 p3 p4 sn) [(.int (XT.cmpL ((XT.ushrL p4 (1 : Int32)) &&& (1 : Int64)) (0 : Int64)))])) t_ := by
    intro t_ kt
    by_cases hz : ((XT.ushrL p4 (1 : Int32)) &&& (1 : Int64)) = (0 : Int64)
    · have hj : cn = (0 : Int32) := h_cn.trans (if_pos hz)
      rw [hj] at kt
      refine XS.ifYes X0.here hx rfl (pc0 := 24) (pc' := 31) rfl (hb hby at_24) rfl (XT.ll_eq_t hz) (by decide) (by decide) ?_
      refine XS.iconst X0.here hx rfl (hb hby at_31) ?_
      show oS pP eE below T0 (mkF mM 32 (lc37 p1 p2 p3 p4 sn) [(.int (0 : Int32))]) _
      exact kt
    · have hj : cn = (1 : Int32) := h_cn.trans (if_neg hz)
      rw [hj] at kt
      refine XS.ifNo X0.here hx rfl (hb hby at_24) rfl (XT.ll_eq_f hz) ?_
      refine XS.iconst X0.here hx rfl (hb hby at_27) ?_
      refine XS.goto X0.here hx rfl (pc0 := 28) (pc' := 32) rfl (hb hby at_28) (by decide) (by decide) ?_
      show oS pP eE below T0 (mkF mM 32 (lc37 p1 p2 p3 p4 sn) [(.int (1 : Int32))]) _
      exact kt
  refine jn_2 _ ?_
  refine XS.istore X0.here hx rfl (hb hby at_32) rfl (l' := (lc38 p1 p2 p3 p4 sn cn)) rfl ?_
  refine XT.lload X0.here hx rfl (hb hby at_34) rfl ?_
  refine XS.iconst X0.here hx rfl (hb hby at_36) ?_
  show oS pP eE below T0 (mkF mM 37 (lc38 p1 p2 p3 p4 sn cn) [(.int (2 : Int32)), (.long p4)]) _
  refine XT.lushr X0.here hx rfl (hb hby at_37) rfl ?_
  show oS pP eE below T0 (mkF mM 38 (lc38 p1 p2 p3 p4 sn cn) [(.long (XT.ushrL p4 (2 : Int32)))]) _
  refine X0.ldc2J hx hown (mvT hZ (ow hw 0 rfl)) (g := (mkF mM 38 (lc38 p1 p2 p3 p4 sn cn) [(.long (XT.ushrL p4 (2 : Int32)))])) rfl (hb hby at_38) ?_
  show oS pP eE below T0 (mkF mM 41 (lc38 p1 p2 p3 p4 sn cn) [(.long (15 : Int64)), (.long (XT.ushrL p4 (2 : Int32)))]) _
  refine XT.land X0.here hx rfl (hb hby at_41) rfl ?_
  show oS pP eE below T0 (mkF mM 42 (lc38 p1 p2 p3 p4 sn cn) [(.long ((XT.ushrL p4 (2 : Int32)) &&& (15 : Int64)))]) _
  refine XT.l2i X0.here hx rfl (hb hby at_42) rfl ?_
  refine XS.bipush X0.here hx rfl (hb hby at_43) ?_
  show oS pP eE below T0 (mkF mM 45 (lc38 p1 p2 p3 p4 sn cn) [(.int (9 : Int32)), (.int (((XT.ushrL p4 (2 : Int32)) &&& (15 : Int64)).toInt32))]) _
  refine iremM X0 hx rfl (hb hby at_45) rfl (by decide) ?_
  show Steps pP.tables eE below (T0.setTop (mkF mM 46 (lc38 p1 p2 p3 p4 sn cn) [(.int ((((XT.ushrL p4 (2 : Int32)) &&& (15 : Int64)).toInt32) % (9 : Int32)))])) _
  rw [h_ta]
  refine XS.istore X0.here hx rfl (hb hby at_46) rfl (l' := (lc39 p1 p2 p3 p4 sn cn ta)) rfl ?_
  refine XT.lload X0.here hx rfl (hb hby at_48) rfl ?_
  refine XS.bipush X0.here hx rfl (hb hby at_50) ?_
  show oS pP eE below T0 (mkF mM 52 (lc39 p1 p2 p3 p4 sn cn ta) [(.int (18 : Int32)), (.long p4)]) _
  refine XT.lushr X0.here hx rfl (hb hby at_52) rfl ?_
  refine XT.lconst X0.here hx rfl (hb hby at_53) ?_
  show oS pP eE below T0 (mkF mM 54 (lc39 p1 p2 p3 p4 sn cn ta) [(.long (1 : Int64)), (.long (XT.ushrL p4 (18 : Int32)))]) _
  refine XT.land X0.here hx rfl (hb hby at_54) rfl ?_
  refine XT.lconst X0.here hx rfl (hb hby at_55) ?_
  show oS pP eE below T0 (mkF mM 56 (lc39 p1 p2 p3 p4 sn cn ta) [(.long (0 : Int64)), (.long ((XT.ushrL p4 (18 : Int32)) &&& (1 : Int64)))]) _
  refine XT.lcmp X0.here hx rfl (hb hby at_56) rfl ?_
  show oS pP eE below T0 (mkF mM 57 (lc39 p1 p2 p3 p4 sn cn ta) [(.int (XT.cmpL ((XT.ushrL p4 (18 : Int32)) &&& (1 : Int64)) (0 : Int64)))]) _
  have jn_3 : ∀ t_, Steps pP.tables eE below (T0.setTop (mkF mM 78 (lc39 p1 p2 p3 p4 sn cn ta) [(.int tb)])) t_ → Steps pP.tables eE below (T0.setTop (mkF mM 57 (lc39 p1 p2 p3 p4 sn cn ta) [(.int (XT.cmpL ((XT.ushrL p4 (18 : Int32)) &&& (1 : Int64)) (0 : Int64)))])) t_ := by
    intro t_ kt
    by_cases hz : ((XT.ushrL p4 (18 : Int32)) &&& (1 : Int64)) = (0 : Int64)
    · have hj : tb = ((((XT.ushrL p4 (6 : Int32)) &&& (15 : Int64)).toInt32) % (9 : Int32)) := h_tb.trans (if_pos hz)
      rw [hj] at kt
      refine XS.ifYes X0.here hx rfl (pc0 := 57) (pc' := 65) rfl (hb hby at_57) rfl (XT.ll_eq_t hz) (by decide) (by decide) ?_
      refine XT.lload X0.here hx rfl (hb hby at_65) rfl ?_
      refine XS.bipush X0.here hx rfl (hb hby at_67) ?_
      show oS pP eE below T0 (mkF mM 69 (lc39 p1 p2 p3 p4 sn cn ta) [(.int (6 : Int32)), (.long p4)]) _
      refine XT.lushr X0.here hx rfl (hb hby at_69) rfl ?_
      show oS pP eE below T0 (mkF mM 70 (lc39 p1 p2 p3 p4 sn cn ta) [(.long (XT.ushrL p4 (6 : Int32)))]) _
      refine X0.ldc2J hx hown (mvT hZ (ow hw 0 rfl)) (g := (mkF mM 70 (lc39 p1 p2 p3 p4 sn cn ta) [(.long (XT.ushrL p4 (6 : Int32)))])) rfl (hb hby at_70) ?_
      show oS pP eE below T0 (mkF mM 73 (lc39 p1 p2 p3 p4 sn cn ta) [(.long (15 : Int64)), (.long (XT.ushrL p4 (6 : Int32)))]) _
      refine XT.land X0.here hx rfl (hb hby at_73) rfl ?_
      show oS pP eE below T0 (mkF mM 74 (lc39 p1 p2 p3 p4 sn cn ta) [(.long ((XT.ushrL p4 (6 : Int32)) &&& (15 : Int64)))]) _
      refine XT.l2i X0.here hx rfl (hb hby at_74) rfl ?_
      refine XS.bipush X0.here hx rfl (hb hby at_75) ?_
      show oS pP eE below T0 (mkF mM 77 (lc39 p1 p2 p3 p4 sn cn ta) [(.int (9 : Int32)), (.int (((XT.ushrL p4 (6 : Int32)) &&& (15 : Int64)).toInt32))]) _
      refine iremM X0 hx rfl (hb hby at_77) rfl (by decide) ?_
      show oS pP eE below T0 (mkF mM 78 (lc39 p1 p2 p3 p4 sn cn ta) [(.int ((((XT.ushrL p4 (6 : Int32)) &&& (15 : Int64)).toInt32) % (9 : Int32)))]) _
      exact kt
    · have hj : tb = ta := h_tb.trans (if_neg hz)
      rw [hj] at kt
      refine XS.ifNo X0.here hx rfl (hb hby at_57) rfl (XT.ll_eq_f hz) ?_
      refine XS.iload X0.here hx rfl (hb hby at_60) rfl ?_
      refine XS.goto X0.here hx rfl (pc0 := 62) (pc' := 78) rfl (hb hby at_62) (by decide) (by decide) ?_
      show oS pP eE below T0 (mkF mM 78 (lc39 p1 p2 p3 p4 sn cn ta) [(.int ta)]) _
      exact kt
  refine jn_3 _ ?_
  refine XS.istore X0.here hx rfl (hb hby at_78) rfl (l' := (lc40 p1 p2 p3 p4 sn cn ta tb)) rfl ?_
  refine XT.lload X0.here hx rfl (hb hby at_80) rfl ?_
  refine XS.bipush X0.here hx rfl (hb hby at_82) ?_
  show oS pP eE below T0 (mkF mM 84 (lc40 p1 p2 p3 p4 sn cn ta tb) [(.int (10 : Int32)), (.long p4)]) _
  refine XT.lushr X0.here hx rfl (hb hby at_84) rfl ?_
  refine XT.lconst X0.here hx rfl (hb hby at_85) ?_
  show oS pP eE below T0 (mkF mM 86 (lc40 p1 p2 p3 p4 sn cn ta tb) [(.long (1 : Int64)), (.long (XT.ushrL p4 (10 : Int32)))]) _
  refine XT.land X0.here hx rfl (hb hby at_86) rfl ?_
  refine XT.lconst X0.here hx rfl (hb hby at_87) ?_
  show oS pP eE below T0 (mkF mM 88 (lc40 p1 p2 p3 p4 sn cn ta tb) [(.long (0 : Int64)), (.long ((XT.ushrL p4 (10 : Int32)) &&& (1 : Int64)))]) _
  refine XT.lcmp X0.here hx rfl (hb hby at_88) rfl ?_
  show oS pP eE below T0 (mkF mM 89 (lc40 p1 p2 p3 p4 sn cn ta tb) [(.int (XT.cmpL ((XT.ushrL p4 (10 : Int32)) &&& (1 : Int64)) (0 : Int64)))]) _
  have jn_4 : ∀ t_, Steps pP.tables eE below (T0.setTop (mkF mM 97 (lc40 p1 p2 p3 p4 sn cn ta tb) [(.int qa)])) t_ → Steps pP.tables eE below (T0.setTop (mkF mM 89 (lc40 p1 p2 p3 p4 sn cn ta tb) [(.int (XT.cmpL ((XT.ushrL p4 (10 : Int32)) &&& (1 : Int64)) (0 : Int64)))])) t_ := by
    intro t_ kt
    by_cases hz : ((XT.ushrL p4 (10 : Int32)) &&& (1 : Int64)) = (0 : Int64)
    · have hj : qa = (0 : Int32) := h_qa.trans (if_pos hz)
      rw [hj] at kt
      refine XS.ifYes X0.here hx rfl (pc0 := 89) (pc' := 96) rfl (hb hby at_89) rfl (XT.ll_eq_t hz) (by decide) (by decide) ?_
      refine XS.iconst X0.here hx rfl (hb hby at_96) ?_
      show oS pP eE below T0 (mkF mM 97 (lc40 p1 p2 p3 p4 sn cn ta tb) [(.int (0 : Int32))]) _
      exact kt
    · have hj : qa = (1 : Int32) := h_qa.trans (if_neg hz)
      rw [hj] at kt
      refine XS.ifNo X0.here hx rfl (hb hby at_89) rfl (XT.ll_eq_f hz) ?_
      refine XS.iconst X0.here hx rfl (hb hby at_92) ?_
      refine XS.goto X0.here hx rfl (pc0 := 93) (pc' := 97) rfl (hb hby at_93) (by decide) (by decide) ?_
      show oS pP eE below T0 (mkF mM 97 (lc40 p1 p2 p3 p4 sn cn ta tb) [(.int (1 : Int32))]) _
      exact kt
  refine jn_4 _ ?_
  refine XS.istore X0.here hx rfl (hb hby at_97) rfl (l' := (lc41 p1 p2 p3 p4 sn cn ta tb qa)) rfl ?_
  refine XT.lload X0.here hx rfl (hb hby at_99) rfl ?_
  refine XS.bipush X0.here hx rfl (hb hby at_101) ?_
  show oS pP eE below T0 (mkF mM 103 (lc41 p1 p2 p3 p4 sn cn ta tb qa) [(.int (11 : Int32)), (.long p4)]) _
  refine XT.lushr X0.here hx rfl (hb hby at_103) rfl ?_
  refine XT.lconst X0.here hx rfl (hb hby at_104) ?_
  show oS pP eE below T0 (mkF mM 105 (lc41 p1 p2 p3 p4 sn cn ta tb qa) [(.long (1 : Int64)), (.long (XT.ushrL p4 (11 : Int32)))]) _
  refine XT.land X0.here hx rfl (hb hby at_105) rfl ?_
  refine XT.lconst X0.here hx rfl (hb hby at_106) ?_
  show oS pP eE below T0 (mkF mM 107 (lc41 p1 p2 p3 p4 sn cn ta tb qa) [(.long (0 : Int64)), (.long ((XT.ushrL p4 (11 : Int32)) &&& (1 : Int64)))]) _
  refine XT.lcmp X0.here hx rfl (hb hby at_107) rfl ?_
  show oS pP eE below T0 (mkF mM 108 (lc41 p1 p2 p3 p4 sn cn ta tb qa) [(.int (XT.cmpL ((XT.ushrL p4 (11 : Int32)) &&& (1 : Int64)) (0 : Int64)))]) _
  have jn_5 : ∀ t_, Steps pP.tables eE below (T0.setTop (mkF mM 116 (lc41 p1 p2 p3 p4 sn cn ta tb qa) [(.int qb)])) t_ → Steps pP.tables eE below (T0.setTop (mkF mM 108 (lc41 p1 p2 p3 p4 sn cn ta tb qa) [(.int (XT.cmpL ((XT.ushrL p4 (11 : Int32)) &&& (1 : Int64)) (0 : Int64)))])) t_ := by
    intro t_ kt
    by_cases hz : ((XT.ushrL p4 (11 : Int32)) &&& (1 : Int64)) = (0 : Int64)
    · have hj : qb = (0 : Int32) := h_qb.trans (if_pos hz)
      rw [hj] at kt
      refine XS.ifYes X0.here hx rfl (pc0 := 108) (pc' := 115) rfl (hb hby at_108) rfl (XT.ll_eq_t hz) (by decide) (by decide) ?_
      refine XS.iconst X0.here hx rfl (hb hby at_115) ?_
      show oS pP eE below T0 (mkF mM 116 (lc41 p1 p2 p3 p4 sn cn ta tb qa) [(.int (0 : Int32))]) _
      exact kt
    · have hj : qb = (1 : Int32) := h_qb.trans (if_neg hz)
      rw [hj] at kt
      refine XS.ifNo X0.here hx rfl (hb hby at_108) rfl (XT.ll_eq_f hz) ?_
      refine XS.iconst X0.here hx rfl (hb hby at_111) ?_
      refine XS.goto X0.here hx rfl (pc0 := 112) (pc' := 116) rfl (hb hby at_112) (by decide) (by decide) ?_
      show oS pP eE below T0 (mkF mM 116 (lc41 p1 p2 p3 p4 sn cn ta tb qa) [(.int (1 : Int32))]) _
      exact kt
  refine jn_5 _ ?_
  refine XS.istore X0.here hx rfl (hb hby at_116) rfl (l' := (lc42 p1 p2 p3 p4 sn cn ta tb qa qb)) rfl ?_
  refine XT.lload X0.here hx rfl (hb hby at_118) rfl ?_
  refine XS.bipush X0.here hx rfl (hb hby at_120) ?_
  show oS pP eE below T0 (mkF mM 122 (lc42 p1 p2 p3 p4 sn cn ta tb qa qb) [(.int (12 : Int32)), (.long p4)]) _
  refine XT.lushr X0.here hx rfl (hb hby at_122) rfl ?_
  refine XT.lconst X0.here hx rfl (hb hby at_123) ?_
  show oS pP eE below T0 (mkF mM 124 (lc42 p1 p2 p3 p4 sn cn ta tb qa qb) [(.long (1 : Int64)), (.long (XT.ushrL p4 (12 : Int32)))]) _
  refine XT.land X0.here hx rfl (hb hby at_124) rfl ?_
  refine XT.lconst X0.here hx rfl (hb hby at_125) ?_
  show oS pP eE below T0 (mkF mM 126 (lc42 p1 p2 p3 p4 sn cn ta tb qa qb) [(.long (0 : Int64)), (.long ((XT.ushrL p4 (12 : Int32)) &&& (1 : Int64)))]) _
  refine XT.lcmp X0.here hx rfl (hb hby at_126) rfl ?_
  show oS pP eE below T0 (mkF mM 127 (lc42 p1 p2 p3 p4 sn cn ta tb qa qb) [(.int (XT.cmpL ((XT.ushrL p4 (12 : Int32)) &&& (1 : Int64)) (0 : Int64)))]) _
  have jn_6 : ∀ t_, Steps pP.tables eE below (T0.setTop (mkF mM 135 (lc42 p1 p2 p3 p4 sn cn ta tb qa qb) [(.int ra)])) t_ → Steps pP.tables eE below (T0.setTop (mkF mM 127 (lc42 p1 p2 p3 p4 sn cn ta tb qa qb) [(.int (XT.cmpL ((XT.ushrL p4 (12 : Int32)) &&& (1 : Int64)) (0 : Int64)))])) t_ := by
    intro t_ kt
    by_cases hz : ((XT.ushrL p4 (12 : Int32)) &&& (1 : Int64)) = (0 : Int64)
    · have hj : ra = (0 : Int32) := h_ra.trans (if_pos hz)
      rw [hj] at kt
      refine XS.ifYes X0.here hx rfl (pc0 := 127) (pc' := 134) rfl (hb hby at_127) rfl (XT.ll_eq_t hz) (by decide) (by decide) ?_
      refine XS.iconst X0.here hx rfl (hb hby at_134) ?_
      show oS pP eE below T0 (mkF mM 135 (lc42 p1 p2 p3 p4 sn cn ta tb qa qb) [(.int (0 : Int32))]) _
      exact kt
    · have hj : ra = (1 : Int32) := h_ra.trans (if_neg hz)
      rw [hj] at kt
      refine XS.ifNo X0.here hx rfl (hb hby at_127) rfl (XT.ll_eq_f hz) ?_
      refine XS.iconst X0.here hx rfl (hb hby at_130) ?_
      refine XS.goto X0.here hx rfl (pc0 := 131) (pc' := 135) rfl (hb hby at_131) (by decide) (by decide) ?_
      show oS pP eE below T0 (mkF mM 135 (lc42 p1 p2 p3 p4 sn cn ta tb qa qb) [(.int (1 : Int32))]) _
      exact kt
  refine jn_6 _ ?_
  refine XS.istore X0.here hx rfl (hb hby at_135) rfl (l' := (lc43 p1 p2 p3 p4 sn cn ta tb qa qb ra)) rfl ?_
  refine XT.lload X0.here hx rfl (hb hby at_137) rfl ?_
  refine XS.bipush X0.here hx rfl (hb hby at_139) ?_
  show oS pP eE below T0 (mkF mM 141 (lc43 p1 p2 p3 p4 sn cn ta tb qa qb ra) [(.int (13 : Int32)), (.long p4)]) _
  refine XT.lushr X0.here hx rfl (hb hby at_141) rfl ?_
  refine XT.lconst X0.here hx rfl (hb hby at_142) ?_
  show oS pP eE below T0 (mkF mM 143 (lc43 p1 p2 p3 p4 sn cn ta tb qa qb ra) [(.long (1 : Int64)), (.long (XT.ushrL p4 (13 : Int32)))]) _
  refine XT.land X0.here hx rfl (hb hby at_143) rfl ?_
  refine XT.lconst X0.here hx rfl (hb hby at_144) ?_
  show oS pP eE below T0 (mkF mM 145 (lc43 p1 p2 p3 p4 sn cn ta tb qa qb ra) [(.long (0 : Int64)), (.long ((XT.ushrL p4 (13 : Int32)) &&& (1 : Int64)))]) _
  refine XT.lcmp X0.here hx rfl (hb hby at_145) rfl ?_
  show oS pP eE below T0 (mkF mM 146 (lc43 p1 p2 p3 p4 sn cn ta tb qa qb ra) [(.int (XT.cmpL ((XT.ushrL p4 (13 : Int32)) &&& (1 : Int64)) (0 : Int64)))]) _
  have jn_7 : ∀ t_, Steps pP.tables eE below (T0.setTop (mkF mM 154 (lc43 p1 p2 p3 p4 sn cn ta tb qa qb ra) [(.int rb)])) t_ → Steps pP.tables eE below (T0.setTop (mkF mM 146 (lc43 p1 p2 p3 p4 sn cn ta tb qa qb ra) [(.int (XT.cmpL ((XT.ushrL p4 (13 : Int32)) &&& (1 : Int64)) (0 : Int64)))])) t_ := by
    intro t_ kt
    by_cases hz : ((XT.ushrL p4 (13 : Int32)) &&& (1 : Int64)) = (0 : Int64)
    · have hj : rb = (0 : Int32) := h_rb.trans (if_pos hz)
      rw [hj] at kt
      refine XS.ifYes X0.here hx rfl (pc0 := 146) (pc' := 153) rfl (hb hby at_146) rfl (XT.ll_eq_t hz) (by decide) (by decide) ?_
      refine XS.iconst X0.here hx rfl (hb hby at_153) ?_
      show oS pP eE below T0 (mkF mM 154 (lc43 p1 p2 p3 p4 sn cn ta tb qa qb ra) [(.int (0 : Int32))]) _
      exact kt
    · have hj : rb = (1 : Int32) := h_rb.trans (if_neg hz)
      rw [hj] at kt
      refine XS.ifNo X0.here hx rfl (hb hby at_146) rfl (XT.ll_eq_f hz) ?_
      refine XS.iconst X0.here hx rfl (hb hby at_149) ?_
      refine XS.goto X0.here hx rfl (pc0 := 150) (pc' := 154) rfl (hb hby at_150) (by decide) (by decide) ?_
      show oS pP eE below T0 (mkF mM 154 (lc43 p1 p2 p3 p4 sn cn ta tb qa qb ra) [(.int (1 : Int32))]) _
      exact kt
  refine jn_7 _ ?_
  refine XS.istore X0.here hx rfl (hb hby at_154) rfl (l' := (lc44 p1 p2 p3 p4 sn cn ta tb qa qb ra rb)) rfl ?_
  refine XT.lload X0.here hx rfl (hb hby at_156) rfl ?_
  refine XS.bipush X0.here hx rfl (hb hby at_158) ?_
  show oS pP eE below T0 (mkF mM 160 (lc44 p1 p2 p3 p4 sn cn ta tb qa qb ra rb) [(.int (14 : Int32)), (.long p4)]) _
  refine XT.lushr X0.here hx rfl (hb hby at_160) rfl ?_
  show oS pP eE below T0 (mkF mM 161 (lc44 p1 p2 p3 p4 sn cn ta tb qa qb ra rb) [(.long (XT.ushrL p4 (14 : Int32)))]) _
  refine X0.ldc2J hx hown (mvT hZ (ow hw 1 rfl)) (g := (mkF mM 161 (lc44 p1 p2 p3 p4 sn cn ta tb qa qb ra rb) [(.long (XT.ushrL p4 (14 : Int32)))])) rfl (hb hby at_161) ?_
  show oS pP eE below T0 (mkF mM 164 (lc44 p1 p2 p3 p4 sn cn ta tb qa qb ra rb) [(.long (3 : Int64)), (.long (XT.ushrL p4 (14 : Int32)))]) _
  refine XT.land X0.here hx rfl (hb hby at_164) rfl ?_
  show oS pP eE below T0 (mkF mM 165 (lc44 p1 p2 p3 p4 sn cn ta tb qa qb ra rb) [(.long ((XT.ushrL p4 (14 : Int32)) &&& (3 : Int64)))]) _
  refine XT.l2i X0.here hx rfl (hb hby at_165) rfl ?_
  show Steps pP.tables eE below (T0.setTop (mkF mM 166 (lc44 p1 p2 p3 p4 sn cn ta tb qa qb ra rb) [(.int (((XT.ushrL p4 (14 : Int32)) &&& (3 : Int64)).toInt32))])) _
  rw [h_sa]
  refine XS.istore X0.here hx rfl (hb hby at_166) rfl (l' := (lc45 p1 p2 p3 p4 sn cn ta tb qa qb ra rb sa)) rfl ?_
  refine XT.lload X0.here hx rfl (hb hby at_168) rfl ?_
  refine XS.bipush X0.here hx rfl (hb hby at_170) ?_
  show oS pP eE below T0 (mkF mM 172 (lc45 p1 p2 p3 p4 sn cn ta tb qa qb ra rb sa) [(.int (16 : Int32)), (.long p4)]) _
  refine XT.lushr X0.here hx rfl (hb hby at_172) rfl ?_
  show oS pP eE below T0 (mkF mM 173 (lc45 p1 p2 p3 p4 sn cn ta tb qa qb ra rb sa) [(.long (XT.ushrL p4 (16 : Int32)))]) _
  refine X0.ldc2J hx hown (mvT hZ (ow hw 1 rfl)) (g := (mkF mM 173 (lc45 p1 p2 p3 p4 sn cn ta tb qa qb ra rb sa) [(.long (XT.ushrL p4 (16 : Int32)))])) rfl (hb hby at_173) ?_
  show oS pP eE below T0 (mkF mM 176 (lc45 p1 p2 p3 p4 sn cn ta tb qa qb ra rb sa) [(.long (3 : Int64)), (.long (XT.ushrL p4 (16 : Int32)))]) _
  refine XT.land X0.here hx rfl (hb hby at_176) rfl ?_
  show oS pP eE below T0 (mkF mM 177 (lc45 p1 p2 p3 p4 sn cn ta tb qa qb ra rb sa) [(.long ((XT.ushrL p4 (16 : Int32)) &&& (3 : Int64)))]) _
  refine XT.l2i X0.here hx rfl (hb hby at_177) rfl ?_
  show Steps pP.tables eE below (T0.setTop (mkF mM 178 (lc45 p1 p2 p3 p4 sn cn ta tb qa qb ra rb sa) [(.int (((XT.ushrL p4 (16 : Int32)) &&& (3 : Int64)).toInt32))])) _
  rw [h_sb]
  refine XS.istore X0.here hx rfl (hb hby at_178) rfl (l' := (lc46 p1 p2 p3 p4 sn cn ta tb qa qb ra rb sa sb)) rfl ?_
  refine XS.iload X0.here hx rfl (hb hby at_180) rfl ?_
  show oS pP eE below T0 (mkF mM 182 (lc46 p1 p2 p3 p4 sn cn ta tb qa qb ra rb sa sb) [(.int sn)]) _
  have jn_8 : ∀ t_, Steps pP.tables eE below (T0.setTop (mkF mM 190 (lc46 p1 p2 p3 p4 sn cn ta tb qa qb ra rb sa sb) [(.int nb)])) t_ → Steps pP.tables eE below (T0.setTop (mkF mM 182 (lc46 p1 p2 p3 p4 sn cn ta tb qa qb ra rb sa sb) [(.int sn)])) t_ := by
    intro t_ kt
    by_cases hz : sn = 0
    · have hj : nb = p2 := h_nb.trans (if_pos hz)
      rw [hj] at kt
      refine XS.ifYes X0.here hx rfl (pc0 := 182) (pc' := 189) rfl (hb hby at_182) rfl (XT.i0_eq_t hz) (by decide) (by decide) ?_
      refine XS.iloadN X0.here hx rfl (hb hby at_189) rfl ?_
      show oS pP eE below T0 (mkF mM 190 (lc46 p1 p2 p3 p4 sn cn ta tb qa qb ra rb sa sb) [(.int p2)]) _
      exact kt
    · have hj : nb = p1 := h_nb.trans (if_neg hz)
      rw [hj] at kt
      refine XS.ifNo X0.here hx rfl (hb hby at_182) rfl (XT.i0_eq_f hz) ?_
      refine XS.iloadN X0.here hx rfl (hb hby at_185) rfl ?_
      refine XS.goto X0.here hx rfl (pc0 := 186) (pc' := 190) rfl (hb hby at_186) (by decide) (by decide) ?_
      show oS pP eE below T0 (mkF mM 190 (lc46 p1 p2 p3 p4 sn cn ta tb qa qb ra rb sa sb) [(.int p1)]) _
      exact kt
  refine jn_8 _ ?_
  refine XS.istore X0.here hx rfl (hb hby at_190) rfl (l' := (lc47 p1 p2 p3 p4 sn cn ta tb qa qb ra rb sa sb nb)) rfl ?_
  refine XT.lloadN X0.here hx rfl (hb hby at_192) rfl ?_
  show oS pP eE below T0 (mkF mM 193 (lc47 p1 p2 p3 p4 sn cn ta tb qa qb ra rb sa sb nb) [(.long p3)]) _
  refine X0.ldc2J hx hown (mvT hZ (ow hw 2 rfl)) (g := (mkF mM 193 (lc47 p1 p2 p3 p4 sn cn ta tb qa qb ra rb sa sb nb) [(.long p3)])) rfl (hb hby at_193) ?_
  show oS pP eE below T0 (mkF mM 196 (lc47 p1 p2 p3 p4 sn cn ta tb qa qb ra rb sa sb nb) [(.long (255 : Int64)), (.long p3)]) _
  refine XT.land X0.here hx rfl (hb hby at_196) rfl ?_
  show oS pP eE below T0 (mkF mM 197 (lc47 p1 p2 p3 p4 sn cn ta tb qa qb ra rb sa sb nb) [(.long (p3 &&& (255 : Int64)))]) _
  refine XT.l2i X0.here hx rfl (hb hby at_197) rfl ?_
  show oS pP eE below T0 (mkF mM 198 (lc47 p1 p2 p3 p4 sn cn ta tb qa qb ra rb sa sb nb) [(.int ((p3 &&& (255 : Int64)).toInt32))]) _
  refine XT.i2c X0.here hx rfl (hb hby at_198) rfl ?_
  show Steps pP.tables eE below (T0.setTop (mkF mM 199 (lc47 p1 p2 p3 p4 sn cn ta tb qa qb ra rb sa sb nb) [(.int (((p3 &&& (255 : Int64)).toInt32).toUInt32.toUInt16.toUInt32.toInt32))])) _
  rw [h_ca0]
  refine XS.istore X0.here hx rfl (hb hby at_199) rfl (l' := (lc48 p1 p2 p3 p4 sn cn ta tb qa qb ra rb sa sb nb ca0)) rfl ?_
  refine XT.lloadN X0.here hx rfl (hb hby at_201) rfl ?_
  refine XS.bipush X0.here hx rfl (hb hby at_202) ?_
  show oS pP eE below T0 (mkF mM 204 (lc48 p1 p2 p3 p4 sn cn ta tb qa qb ra rb sa sb nb ca0) [(.int (8 : Int32)), (.long p3)]) _
  refine XT.lushr X0.here hx rfl (hb hby at_204) rfl ?_
  show oS pP eE below T0 (mkF mM 205 (lc48 p1 p2 p3 p4 sn cn ta tb qa qb ra rb sa sb nb ca0) [(.long (XT.ushrL p3 (8 : Int32)))]) _
  refine X0.ldc2J hx hown (mvT hZ (ow hw 2 rfl)) (g := (mkF mM 205 (lc48 p1 p2 p3 p4 sn cn ta tb qa qb ra rb sa sb nb ca0) [(.long (XT.ushrL p3 (8 : Int32)))])) rfl (hb hby at_205) ?_
  show oS pP eE below T0 (mkF mM 208 (lc48 p1 p2 p3 p4 sn cn ta tb qa qb ra rb sa sb nb ca0) [(.long (255 : Int64)), (.long (XT.ushrL p3 (8 : Int32)))]) _
  refine XT.land X0.here hx rfl (hb hby at_208) rfl ?_
  show oS pP eE below T0 (mkF mM 209 (lc48 p1 p2 p3 p4 sn cn ta tb qa qb ra rb sa sb nb ca0) [(.long ((XT.ushrL p3 (8 : Int32)) &&& (255 : Int64)))]) _
  refine XT.l2i X0.here hx rfl (hb hby at_209) rfl ?_
  show oS pP eE below T0 (mkF mM 210 (lc48 p1 p2 p3 p4 sn cn ta tb qa qb ra rb sa sb nb ca0) [(.int (((XT.ushrL p3 (8 : Int32)) &&& (255 : Int64)).toInt32))]) _
  refine XT.i2c X0.here hx rfl (hb hby at_210) rfl ?_
  show Steps pP.tables eE below (T0.setTop (mkF mM 211 (lc48 p1 p2 p3 p4 sn cn ta tb qa qb ra rb sa sb nb ca0) [(.int ((((XT.ushrL p3 (8 : Int32)) &&& (255 : Int64)).toInt32).toUInt32.toUInt16.toUInt32.toInt32))])) _
  rw [h_ca1]
  refine XS.istore X0.here hx rfl (hb hby at_211) rfl (l' := (lc49 p1 p2 p3 p4 sn cn ta tb qa qb ra rb sa sb nb ca0 ca1)) rfl ?_
  refine XS.iload X0.here hx rfl (hb hby at_213) rfl ?_
  show oS pP eE below T0 (mkF mM 215 (lc49 p1 p2 p3 p4 sn cn ta tb qa qb ra rb sa sb nb ca0 ca1) [(.int cn)]) _
  have jn_9 : ∀ t_, Steps pP.tables eE below (T0.setTop (mkF mM 233 (lc49 p1 p2 p3 p4 sn cn ta tb qa qb ra rb sa sb nb ca0 ca1) [(.int cb0)])) t_ → Steps pP.tables eE below (T0.setTop (mkF mM 215 (lc49 p1 p2 p3 p4 sn cn ta tb qa qb ra rb sa sb nb ca0 ca1) [(.int cn)])) t_ := by
    intro t_ kt
    by_cases hz : cn = 0
    · have hj : cb0 = ((((XT.ushrL p3 (16 : Int32)) &&& (255 : Int64)).toInt32).toUInt32.toUInt16.toUInt32.toInt32) := h_cb0.trans (if_pos hz)
      rw [hj] at kt
      refine XS.ifYes X0.here hx rfl (pc0 := 215) (pc' := 223) rfl (hb hby at_215) rfl (XT.i0_eq_t hz) (by decide) (by decide) ?_
      refine XT.lloadN X0.here hx rfl (hb hby at_223) rfl ?_
      refine XS.bipush X0.here hx rfl (hb hby at_224) ?_
      show oS pP eE below T0 (mkF mM 226 (lc49 p1 p2 p3 p4 sn cn ta tb qa qb ra rb sa sb nb ca0 ca1) [(.int (16 : Int32)), (.long p3)]) _
      refine XT.lushr X0.here hx rfl (hb hby at_226) rfl ?_
      show oS pP eE below T0 (mkF mM 227 (lc49 p1 p2 p3 p4 sn cn ta tb qa qb ra rb sa sb nb ca0 ca1) [(.long (XT.ushrL p3 (16 : Int32)))]) _
      refine X0.ldc2J hx hown (mvT hZ (ow hw 2 rfl)) (g := (mkF mM 227 (lc49 p1 p2 p3 p4 sn cn ta tb qa qb ra rb sa sb nb ca0 ca1) [(.long (XT.ushrL p3 (16 : Int32)))])) rfl (hb hby at_227) ?_
      show oS pP eE below T0 (mkF mM 230 (lc49 p1 p2 p3 p4 sn cn ta tb qa qb ra rb sa sb nb ca0 ca1) [(.long (255 : Int64)), (.long (XT.ushrL p3 (16 : Int32)))]) _
      refine XT.land X0.here hx rfl (hb hby at_230) rfl ?_
      show oS pP eE below T0 (mkF mM 231 (lc49 p1 p2 p3 p4 sn cn ta tb qa qb ra rb sa sb nb ca0 ca1) [(.long ((XT.ushrL p3 (16 : Int32)) &&& (255 : Int64)))]) _
      refine XT.l2i X0.here hx rfl (hb hby at_231) rfl ?_
      show oS pP eE below T0 (mkF mM 232 (lc49 p1 p2 p3 p4 sn cn ta tb qa qb ra rb sa sb nb ca0 ca1) [(.int (((XT.ushrL p3 (16 : Int32)) &&& (255 : Int64)).toInt32))]) _
      refine XT.i2c X0.here hx rfl (hb hby at_232) rfl ?_
      show oS pP eE below T0 (mkF mM 233 (lc49 p1 p2 p3 p4 sn cn ta tb qa qb ra rb sa sb nb ca0 ca1) [(.int ((((XT.ushrL p3 (16 : Int32)) &&& (255 : Int64)).toInt32).toUInt32.toUInt16.toUInt32.toInt32))]) _
      exact kt
    · have hj : cb0 = ca0 := h_cb0.trans (if_neg hz)
      rw [hj] at kt
      refine XS.ifNo X0.here hx rfl (hb hby at_215) rfl (XT.i0_eq_f hz) ?_
      refine XS.iload X0.here hx rfl (hb hby at_218) rfl ?_
      refine XS.goto X0.here hx rfl (pc0 := 220) (pc' := 233) rfl (hb hby at_220) (by decide) (by decide) ?_
      show oS pP eE below T0 (mkF mM 233 (lc49 p1 p2 p3 p4 sn cn ta tb qa qb ra rb sa sb nb ca0 ca1) [(.int ca0)]) _
      exact kt
  refine jn_9 _ ?_
  refine XS.istore X0.here hx rfl (hb hby at_233) rfl (l' := (lc50 p1 p2 p3 p4 sn cn ta tb qa qb ra rb sa sb nb ca0 ca1 cb0)) rfl ?_
  refine XS.iload X0.here hx rfl (hb hby at_235) rfl ?_
  show oS pP eE below T0 (mkF mM 237 (lc50 p1 p2 p3 p4 sn cn ta tb qa qb ra rb sa sb nb ca0 ca1 cb0) [(.int cn)]) _
  have jn_10 : ∀ t_, Steps pP.tables eE below (T0.setTop (mkF mM 255 (lc50 p1 p2 p3 p4 sn cn ta tb qa qb ra rb sa sb nb ca0 ca1 cb0) [(.int cb1)])) t_ → Steps pP.tables eE below (T0.setTop (mkF mM 237 (lc50 p1 p2 p3 p4 sn cn ta tb qa qb ra rb sa sb nb ca0 ca1 cb0) [(.int cn)])) t_ := by
    intro t_ kt
    by_cases hz : cn = 0
    · have hj : cb1 = ((((XT.ushrL p3 (24 : Int32)) &&& (255 : Int64)).toInt32).toUInt32.toUInt16.toUInt32.toInt32) := h_cb1.trans (if_pos hz)
      rw [hj] at kt
      refine XS.ifYes X0.here hx rfl (pc0 := 237) (pc' := 245) rfl (hb hby at_237) rfl (XT.i0_eq_t hz) (by decide) (by decide) ?_
      refine XT.lloadN X0.here hx rfl (hb hby at_245) rfl ?_
      refine XS.bipush X0.here hx rfl (hb hby at_246) ?_
      show oS pP eE below T0 (mkF mM 248 (lc50 p1 p2 p3 p4 sn cn ta tb qa qb ra rb sa sb nb ca0 ca1 cb0) [(.int (24 : Int32)), (.long p3)]) _
      refine XT.lushr X0.here hx rfl (hb hby at_248) rfl ?_
      show oS pP eE below T0 (mkF mM 249 (lc50 p1 p2 p3 p4 sn cn ta tb qa qb ra rb sa sb nb ca0 ca1 cb0) [(.long (XT.ushrL p3 (24 : Int32)))]) _
      refine X0.ldc2J hx hown (mvT hZ (ow hw 2 rfl)) (g := (mkF mM 249 (lc50 p1 p2 p3 p4 sn cn ta tb qa qb ra rb sa sb nb ca0 ca1 cb0) [(.long (XT.ushrL p3 (24 : Int32)))])) rfl (hb hby at_249) ?_
      show oS pP eE below T0 (mkF mM 252 (lc50 p1 p2 p3 p4 sn cn ta tb qa qb ra rb sa sb nb ca0 ca1 cb0) [(.long (255 : Int64)), (.long (XT.ushrL p3 (24 : Int32)))]) _
      refine XT.land X0.here hx rfl (hb hby at_252) rfl ?_
      show oS pP eE below T0 (mkF mM 253 (lc50 p1 p2 p3 p4 sn cn ta tb qa qb ra rb sa sb nb ca0 ca1 cb0) [(.long ((XT.ushrL p3 (24 : Int32)) &&& (255 : Int64)))]) _
      refine XT.l2i X0.here hx rfl (hb hby at_253) rfl ?_
      show oS pP eE below T0 (mkF mM 254 (lc50 p1 p2 p3 p4 sn cn ta tb qa qb ra rb sa sb nb ca0 ca1 cb0) [(.int (((XT.ushrL p3 (24 : Int32)) &&& (255 : Int64)).toInt32))]) _
      refine XT.i2c X0.here hx rfl (hb hby at_254) rfl ?_
      show oS pP eE below T0 (mkF mM 255 (lc50 p1 p2 p3 p4 sn cn ta tb qa qb ra rb sa sb nb ca0 ca1 cb0) [(.int ((((XT.ushrL p3 (24 : Int32)) &&& (255 : Int64)).toInt32).toUInt32.toUInt16.toUInt32.toInt32))]) _
      exact kt
    · have hj : cb1 = ca1 := h_cb1.trans (if_neg hz)
      rw [hj] at kt
      refine XS.ifNo X0.here hx rfl (hb hby at_237) rfl (XT.i0_eq_f hz) ?_
      refine XS.iload X0.here hx rfl (hb hby at_240) rfl ?_
      refine XS.goto X0.here hx rfl (pc0 := 242) (pc' := 255) rfl (hb hby at_242) (by decide) (by decide) ?_
      show oS pP eE below T0 (mkF mM 255 (lc50 p1 p2 p3 p4 sn cn ta tb qa qb ra rb sa sb nb ca0 ca1 cb0) [(.int ca1)]) _
      exact kt
  refine jn_10 _ ?_
  refine XS.istore X0.here hx rfl (hb hby at_255) rfl (l' := (lc51 p1 p2 p3 p4 sn cn ta tb qa qb ra rb sa sb nb ca0 ca1 cb0 cb1)) rfl ?_
  refine XT.lloadN X0.here hx rfl (hb hby at_257) rfl ?_
  refine XS.bipush X0.here hx rfl (hb hby at_258) ?_
  show oS pP eE below T0 (mkF mM 260 (lc51 p1 p2 p3 p4 sn cn ta tb qa qb ra rb sa sb nb ca0 ca1 cb0 cb1) [(.int (32 : Int32)), (.long p3)]) _
  refine XT.lushr X0.here hx rfl (hb hby at_260) rfl ?_
  show oS pP eE below T0 (mkF mM 261 (lc51 p1 p2 p3 p4 sn cn ta tb qa qb ra rb sa sb nb ca0 ca1 cb0 cb1) [(.long (XT.ushrL p3 (32 : Int32)))]) _
  refine X0.ldc2J hx hown (mvT hZ (ow hw 1 rfl)) (g := (mkF mM 261 (lc51 p1 p2 p3 p4 sn cn ta tb qa qb ra rb sa sb nb ca0 ca1 cb0 cb1) [(.long (XT.ushrL p3 (32 : Int32)))])) rfl (hb hby at_261) ?_
  show oS pP eE below T0 (mkF mM 264 (lc51 p1 p2 p3 p4 sn cn ta tb qa qb ra rb sa sb nb ca0 ca1 cb0 cb1) [(.long (3 : Int64)), (.long (XT.ushrL p3 (32 : Int32)))]) _
  refine XT.land X0.here hx rfl (hb hby at_264) rfl ?_
  show oS pP eE below T0 (mkF mM 265 (lc51 p1 p2 p3 p4 sn cn ta tb qa qb ra rb sa sb nb ca0 ca1 cb0 cb1) [(.long ((XT.ushrL p3 (32 : Int32)) &&& (3 : Int64)))]) _
  refine XT.l2i X0.here hx rfl (hb hby at_265) rfl ?_
  refine XS.iconst X0.here hx rfl (hb hby at_266) ?_
  show oS pP eE below T0 (mkF mM 267 (lc51 p1 p2 p3 p4 sn cn ta tb qa qb ra rb sa sb nb ca0 ca1 cb0 cb1) [(.int (3 : Int32)), (.int (((XT.ushrL p3 (32 : Int32)) &&& (3 : Int64)).toInt32))]) _
  refine iremM X0 hx rfl (hb hby at_267) rfl (by decide) ?_
  show Steps pP.tables eE below (T0.setTop (mkF mM 268 (lc51 p1 p2 p3 p4 sn cn ta tb qa qb ra rb sa sb nb ca0 ca1 cb0 cb1) [(.int ((((XT.ushrL p3 (32 : Int32)) &&& (3 : Int64)).toInt32) % (3 : Int32)))])) _
  rw [h_la]
  refine XS.istore X0.here hx rfl (hb hby at_268) rfl (l' := (lc52 p1 p2 p3 p4 sn cn ta tb qa qb ra rb sa sb nb ca0 ca1 cb0 cb1 la)) rfl ?_
  refine XT.lloadN X0.here hx rfl (hb hby at_270) rfl ?_
  refine XS.bipush X0.here hx rfl (hb hby at_271) ?_
  show oS pP eE below T0 (mkF mM 273 (lc52 p1 p2 p3 p4 sn cn ta tb qa qb ra rb sa sb nb ca0 ca1 cb0 cb1 la) [(.int (34 : Int32)), (.long p3)]) _
  refine XT.lushr X0.here hx rfl (hb hby at_273) rfl ?_
  show oS pP eE below T0 (mkF mM 274 (lc52 p1 p2 p3 p4 sn cn ta tb qa qb ra rb sa sb nb ca0 ca1 cb0 cb1 la) [(.long (XT.ushrL p3 (34 : Int32)))]) _
  refine X0.ldc2J hx hown (mvT hZ (ow hw 1 rfl)) (g := (mkF mM 274 (lc52 p1 p2 p3 p4 sn cn ta tb qa qb ra rb sa sb nb ca0 ca1 cb0 cb1 la) [(.long (XT.ushrL p3 (34 : Int32)))])) rfl (hb hby at_274) ?_
  show oS pP eE below T0 (mkF mM 277 (lc52 p1 p2 p3 p4 sn cn ta tb qa qb ra rb sa sb nb ca0 ca1 cb0 cb1 la) [(.long (3 : Int64)), (.long (XT.ushrL p3 (34 : Int32)))]) _
  refine XT.land X0.here hx rfl (hb hby at_277) rfl ?_
  show oS pP eE below T0 (mkF mM 278 (lc52 p1 p2 p3 p4 sn cn ta tb qa qb ra rb sa sb nb ca0 ca1 cb0 cb1 la) [(.long ((XT.ushrL p3 (34 : Int32)) &&& (3 : Int64)))]) _
  refine XT.l2i X0.here hx rfl (hb hby at_278) rfl ?_
  refine XS.iconst X0.here hx rfl (hb hby at_279) ?_
  show oS pP eE below T0 (mkF mM 280 (lc52 p1 p2 p3 p4 sn cn ta tb qa qb ra rb sa sb nb ca0 ca1 cb0 cb1 la) [(.int (3 : Int32)), (.int (((XT.ushrL p3 (34 : Int32)) &&& (3 : Int64)).toInt32))]) _
  refine iremM X0 hx rfl (hb hby at_280) rfl (by decide) ?_
  show Steps pP.tables eE below (T0.setTop (mkF mM 281 (lc52 p1 p2 p3 p4 sn cn ta tb qa qb ra rb sa sb nb ca0 ca1 cb0 cb1 la) [(.int ((((XT.ushrL p3 (34 : Int32)) &&& (3 : Int64)).toInt32) % (3 : Int32)))])) _
  rw [h_lb]
  refine XS.istore X0.here hx rfl (hb hby at_281) rfl (l' := (lc53 p1 p2 p3 p4 sn cn ta tb qa qb ra rb sa sb nb ca0 ca1 cb0 cb1 la lb)) rfl ?_
  show oS pP eE below T0 (mkF mM 283 (lc53 p1 p2 p3 p4 sn cn ta tb qa qb ra rb sa sb nb ca0 ca1 cb0 cb1 la lb) []) _
  exact kt
abbrev lc54 (p1 : Int32) (p2 : Int32) (p3 : Int64) (p4 : Int64) (sn : Int32) (cn : Int32) (ta : Int32) (tb : Int32) (qa : Int32) (qb : Int32) (ra : Int32) (rb : Int32) (sa : Int32) (sb : Int32) (nb : Int32) (ca0 : Int32) (ca1 : Int32) (cb0 : Int32) (cb1 : Int32) : Array Slot := #[.val (.int p1), .val (.int p2), .val (.long p3), .second, .val (.long p4), .second, .val (.int sn), .val (.int cn), .val (.int ta), .val (.int tb), .val (.int qa), .val (.int qb), .val (.int ra), .val (.int rb), .val (.int sa), .val (.int sb), .val (.int nb), .val (.int ca0), .val (.int ca1), .val (.int cb0), .val (.int cb1), .val (.int (0 : Int32)), .val (.int (0 : Int32)), .unset, .unset, .unset, .unset]
theorem pd_9 : parseMethodDescriptor "(ICC)Ljava/lang/String;" = some ⟨[.int, .char, .char], some (.object "java/lang/String")⟩ := by decide +kernel
abbrev MN9 : MethodName := ⟨"com/example/rolling_rung/rollingrung/schema/FieldSameDefinitionPinLaw", "str", "(ICC)Ljava/lang/String;"⟩
theorem pd_10 : parseMethodDescriptor "(I)Lcom/example/rolling_rung/rollingrung/schema/FieldType;" = some ⟨[.int], some (.object "com/example/rolling_rung/rollingrung/schema/FieldType")⟩ := by decide +kernel
abbrev MN10 : MethodName := ⟨"com/example/rolling_rung/rollingrung/schema/FieldSameDefinitionPinLaw", "type", "(I)Lcom/example/rolling_rung/rollingrung/schema/FieldType;"⟩
theorem pd_11 : parseMethodDescriptor "(I)Lcom/example/rolling_rung/rollingrung/schema/ElementState;" = some ⟨[.int], some (.object "com/example/rolling_rung/rollingrung/schema/ElementState")⟩ := by decide +kernel
abbrev MN11 : MethodName := ⟨"com/example/rolling_rung/rollingrung/schema/FieldSameDefinitionPinLaw", "state", "(I)Lcom/example/rolling_rung/rollingrung/schema/ElementState;"⟩
theorem pd_12 : parseMethodDescriptor "(Ljava/lang/String;ILcom/example/rolling_rung/rollingrung/schema/FieldType;ZZLcom/example/rolling_rung/rollingrung/schema/ElementState;)V" = some ⟨[(.object "java/lang/String"), .int, (.object "com/example/rolling_rung/rollingrung/schema/FieldType"), .boolean, .boolean, (.object "com/example/rolling_rung/rollingrung/schema/ElementState")], none⟩ := by decide +kernel
abbrev MN12 : MethodName := ⟨"com/example/rolling_rung/rollingrung/schema/Field", "<init>", "(Ljava/lang/String;ILcom/example/rolling_rung/rollingrung/schema/FieldType;ZZLcom/example/rolling_rung/rollingrung/schema/ElementState;)V"⟩
abbrev lc55 (p1 : Int32) (p2 : Int32) (p3 : Int64) (p4 : Int64) (sn : Int32) (cn : Int32) (ta : Int32) (tb : Int32) (qa : Int32) (qb : Int32) (ra : Int32) (rb : Int32) (sa : Int32) (sb : Int32) (nb : Int32) (ca0 : Int32) (ca1 : Int32) (cb0 : Int32) (cb1 : Int32) (b_2 : Addr) : Array Slot := #[.val (.int p1), .val (.int p2), .val (.long p3), .second, .val (.long p4), .second, .val (.int sn), .val (.int cn), .val (.int ta), .val (.int tb), .val (.int qa), .val (.int qb), .val (.int ra), .val (.int rb), .val (.int sa), .val (.int sb), .val (.int nb), .val (.int ca0), .val (.int ca1), .val (.int cb0), .val (.int cb1), .val (.int (0 : Int32)), .val (.int (0 : Int32)), .val (.ref b_2), .unset, .unset, .unset]
abbrev lc56 (p1 : Int32) (p2 : Int32) (p3 : Int64) (p4 : Int64) (sn : Int32) (cn : Int32) (ta : Int32) (tb : Int32) (qa : Int32) (qb : Int32) (ra : Int32) (rb : Int32) (sa : Int32) (sb : Int32) (nb : Int32) (ca0 : Int32) (ca1 : Int32) (cb0 : Int32) (cb1 : Int32) (b_2 : Addr) (b_7 : Addr) : Array Slot := #[.val (.int p1), .val (.int p2), .val (.long p3), .second, .val (.long p4), .second, .val (.int sn), .val (.int cn), .val (.int ta), .val (.int tb), .val (.int qa), .val (.int qb), .val (.int ra), .val (.int rb), .val (.int sa), .val (.int sb), .val (.int nb), .val (.int ca0), .val (.int ca1), .val (.int cb0), .val (.int cb1), .val (.int (0 : Int32)), .val (.int (0 : Int32)), .val (.ref b_2), .val (.ref b_7), .unset, .unset]
abbrev lc57 (p1 : Int32) (p2 : Int32) (p3 : Int64) (p4 : Int64) (sn : Int32) (cn : Int32) (ta : Int32) (tb : Int32) (qa : Int32) (qb : Int32) (ra : Int32) (rb : Int32) (sa : Int32) (sb : Int32) (nb : Int32) (ca0 : Int32) (ca1 : Int32) (cb0 : Int32) (cb1 : Int32) (b_2 : Addr) (b_7 : Addr) : Array Slot := #[.val (.int p1), .val (.int p2), .val (.long p3), .second, .val (.long p4), .second, .val (.int sn), .val (.int cn), .val (.int ta), .val (.int tb), .val (.int qa), .val (.int qb), .val (.int ra), .val (.int rb), .val (.int sa), .val (.int sb), .val (.int nb), .val (.int ca0), .val (.int ca1), .val (.int cb0), .val (.int cb1), .val (.int (0 : Int32)), .val (.int (0 : Int32)), .val (.ref b_2), .val (.ref b_7), .val (.int (1 : Int32)), .unset]
abbrev lc58 (p1 : Int32) (p2 : Int32) (p3 : Int64) (p4 : Int64) (sn : Int32) (cn : Int32) (ta : Int32) (tb : Int32) (qa : Int32) (qb : Int32) (ra : Int32) (rb : Int32) (sa : Int32) (sb : Int32) (nb : Int32) (ca0 : Int32) (ca1 : Int32) (cb0 : Int32) (cb1 : Int32) (b_2 : Addr) (b_7 : Addr) : Array Slot := #[.val (.int p1), .val (.int p2), .val (.long p3), .second, .val (.long p4), .second, .val (.int sn), .val (.int cn), .val (.int ta), .val (.int tb), .val (.int qa), .val (.int qb), .val (.int ra), .val (.int rb), .val (.int sa), .val (.int sb), .val (.int nb), .val (.int ca0), .val (.int ca1), .val (.int cb0), .val (.int cb1), .val (.int (0 : Int32)), .val (.int (0 : Int32)), .val (.ref b_2), .val (.ref b_7), .val (.int (1 : Int32)), .val (.int (own_ex (1 : Int32) p1 nb ta tb qa qb ra rb))]
theorem pd_13 : parseMethodDescriptor "(Lcom/example/rolling_rung/rollingrung/schema/Field;)Z" = some ⟨[(.object "com/example/rolling_rung/rollingrung/schema/Field")], some .boolean⟩ := by decide +kernel
abbrev MN13 : MethodName := ⟨"com/example/rolling_rung/rollingrung/schema/Field", "sameDefinition", "(Lcom/example/rolling_rung/rollingrung/schema/Field;)Z"⟩
theorem ef_law00 (mM : MethodId) (x0 : Int32) (x1 : Int32) (x2 : Int64) (x3 : Int64) : entryFrame mM #[(.int x0), (.int x1), (.long x2), (.long x3)] maxLocals = mkF mM 0 #[.val (.int x0), .val (.int x1), .val (.long x2), .second, .val (.long x3), .second, .unset, .unset, .unset, .unset, .unset, .unset, .unset, .unset, .unset, .unset, .unset, .unset, .unset, .unset, .unset, .unset, .unset, .unset, .unset, .unset, .unset] [] := by first | (simp [entryFrame, mkF, argsToLocals, Value.category, maxLocals]; done) | rfl
def Q_law00 (Z : State) (p1 : Int32) (p2 : Int32) (p3 : Int64) (p4 : Int64) (sn : Int32) (cn : Int32) (qa : Int32) (qb : Int32) (ra : Int32) (rb : Int32) (ta : Int32) (sa : Int32) (sb : Int32) (ca0 : Int32) (ca1 : Int32) (tb : Int32) (nb : Int32) (cb0 : Int32) (cb1 : Int32) (t0 : Addr) (t1 : Addr) (t2 : Addr) (t3 : Addr) (t4 : Addr) (t5 : Addr) (t6 : Addr) (t7 : Addr) (t8 : Addr) (es0 : Addr) (es1 : Addr) (es2 : Addr) (es3 : Addr) (cs : Int32) (h0 : Heap) (n0 : Nat) (v_ : Option Value) (h_ : Heap) (L_ : List Loc) : Prop := v_ = some (.int (1 : Int32)) ∧ Fr n0 L_
set_option maxRecDepth 65536 in
set_option maxHeartbeats 40000000 in
theorem rm_law00 (l : Launch) (Z : State) (a0 : Array Value) (hw : ∀ d ∈ tables_1, d.before a0 Z = true) (ws : List Jvm.Cond) (p1 : Int32) (p2 : Int32) (p3 : Int64) (p4 : Int64) (sn : Int32) (cn : Int32) (qa : Int32) (qb : Int32) (ra : Int32) (rb : Int32) (ta : Int32) (sa : Int32) (sb : Int32) (ca0 : Int32) (ca1 : Int32) (tb : Int32) (nb : Int32) (cb0 : Int32) (cb1 : Int32) (t0 : Addr) (t1 : Addr) (t2 : Addr) (t3 : Addr) (t4 : Addr) (t5 : Addr) (t6 : Addr) (t7 : Addr) (t8 : Addr) (es0 : Addr) (es1 : Addr) (es2 : Addr) (es3 : Addr) (cs : Int32) (h0 : Heap) (n0 : Nat) (Z0 : n0 ≤ h0.size) (hEQ : own_eqs p1 p2 p3 p4 sn cn qa qb ra rb ta sa sb ca0 ca1 (0 : Int32) (0 : Int32) tb nb cb0 cb1) (S_String_COMPACT_STRINGS : Sta Z h0 "java/lang/String" "COMPACT_STRINGS" "Z" (.int cs)) (hcs : ¬ cs = 0) (S_FieldType_STRING : Sta Z h0 "com/example/rolling_rung/rollingrung/schema/FieldType" "STRING" "Lcom/example/rolling_rung/rollingrung/schema/FieldType;" (.ref t0)) (S_FieldType_BYTES : Sta Z h0 "com/example/rolling_rung/rollingrung/schema/FieldType" "BYTES" "Lcom/example/rolling_rung/rollingrung/schema/FieldType;" (.ref t1)) (S_FieldType_BOOL : Sta Z h0 "com/example/rolling_rung/rollingrung/schema/FieldType" "BOOL" "Lcom/example/rolling_rung/rollingrung/schema/FieldType;" (.ref t2)) (S_FieldType_INT32 : Sta Z h0 "com/example/rolling_rung/rollingrung/schema/FieldType" "INT32" "Lcom/example/rolling_rung/rollingrung/schema/FieldType;" (.ref t3)) (S_FieldType_INT64 : Sta Z h0 "com/example/rolling_rung/rollingrung/schema/FieldType" "INT64" "Lcom/example/rolling_rung/rollingrung/schema/FieldType;" (.ref t4)) (S_FieldType_SINT32 : Sta Z h0 "com/example/rolling_rung/rollingrung/schema/FieldType" "SINT32" "Lcom/example/rolling_rung/rollingrung/schema/FieldType;" (.ref t5)) (S_FieldType_SINT64 : Sta Z h0 "com/example/rolling_rung/rollingrung/schema/FieldType" "SINT64" "Lcom/example/rolling_rung/rollingrung/schema/FieldType;" (.ref t6)) (S_FieldType_DOUBLE : Sta Z h0 "com/example/rolling_rung/rollingrung/schema/FieldType" "DOUBLE" "Lcom/example/rolling_rung/rollingrung/schema/FieldType;" (.ref t7)) (S_FieldType_FLOAT : Sta Z h0 "com/example/rolling_rung/rollingrung/schema/FieldType" "FLOAT" "Lcom/example/rolling_rung/rollingrung/schema/FieldType;" (.ref t8)) (S_ElementState_ABSENT : Sta Z h0 "com/example/rolling_rung/rollingrung/schema/ElementState" "ABSENT" "Lcom/example/rolling_rung/rollingrung/schema/ElementState;" (.ref es0)) (S_ElementState_DELETE_ONLY : Sta Z h0 "com/example/rolling_rung/rollingrung/schema/ElementState" "DELETE_ONLY" "Lcom/example/rolling_rung/rollingrung/schema/ElementState;" (.ref es1)) (S_ElementState_WRITE_ONLY : Sta Z h0 "com/example/rolling_rung/rollingrung/schema/ElementState" "WRITE_ONLY" "Lcom/example/rolling_rung/rollingrung/schema/ElementState;" (.ref es2)) (S_ElementState_PUBLIC : Sta Z h0 "com/example/rolling_rung/rollingrung/schema/ElementState" "PUBLIC" "Lcom/example/rolling_rung/rollingrung/schema/ElementState;" (.ref es3)) (hq_ca0 : own_ch ca0) (hq_ca1 : own_ch ca1) (hq_cb0 : own_ch cb0) (hq_cb1 : own_ch cb1) (hfin : (own_sd (own_nz (1 : Int32)) p1 nb (own_ty ta t0 t1 t2 t3 t4 t5 t6 t7 t8) (own_ty tb t0 t1 t2 t3 t4 t5 t6 t7 t8) (nar .boolean qa) (nar .boolean qb) (nar .boolean ra) (nar .boolean rb)) = (own_ex (1 : Int32) p1 nb ta tb qa qb ra rb)) :
    MetFree l x (head1 (Jvm.Cond.code x code maxLocals ret :: ws) room_1) (fun aa_ U_ => aa_ = #[(.int p1), (.int p2), (.long p3), (.long p4)] ∧ Z.Warmed39 U_.vm ∧ U_.heap = h0 ∧ CHv Z own_EL U_.vm h0) (fun _ _ _ _ _ => True) (fun _ U_ o_ U'_ => ∃ v_ L_, o_ = .returned v_ ∧ Q_law00 Z p1 p2 p3 p4 sn cn qa qb ra rb ta sa sb ca0 ca1 tb nb cb0 cb1 t0 t1 t2 t3 t4 t5 t6 t7 t8 es0 es1 es2 es3 cs h0 n0 v_ U'_.heap L_ ∧ ReturnedEndW U_ o_ U'_ L_ 26 164) := by
  refine MetFree.of_bodySF (plainFor_of_name pn_1) hisR ?_
  intro pP eE sS mM argsA below meth cC s₁ Bd hml0 hP hK
  obtain ⟨rfl, hZ, hh, hCH⟩ := hP
  have hx := Bd.exec
  have hby := Bd.bytes
  have hml : cC.maxLocals = 27 := hml0
  have hown : sS.vm.findClass "com/example/rolling_rung/rollingrung/schema/FieldSameDefinitionPinLaw" = some mM.cls := findClass_of_methodNamed Bd.named
  have hnm := (name_of_methodNamed Bd.named Bd.method).1
  have X0 : Stand pP l eE room_1 (sS.setVm sS.vm) mM #[(.int p1), (.int p2), (.long p3), (.long p4)] below meth cC s₁ [] 0 0 := Stand.of_body Bd
  have e0 : s₁.heap = h0 := by rw [← hh, Bd.state]; rfl
  have N0 := Fr.nil n0
  have pre0 : ∀ t_, Steps pP.tables eE below (s₁.setTop (mkF mM 0 #[.val (.int p1), .val (.int p2), .val (.long p3), .second, .val (.long p4), .second, .unset, .unset, .unset, .unset, .unset, .unset, .unset, .unset, .unset, .unset, .unset, .unset, .unset, .unset, .unset, .unset, .unset, .unset, .unset, .unset, .unset] [])) t_ → Steps pP.tables eE below (s₁.setTop (entryFrame mM #[(.int p1), (.int p2), (.long p3), (.long p4)] maxLocals)) t_ := fun t_ k_ => castTop (ef_law00 mM p1 p2 p3 p4) k_
  have hZ : Z.Warmed39 (sS.setVm sS.vm).vm := hZ
  have hown : (sS.setVm sS.vm).vm.findClass "com/example/rolling_rung/rollingrung/schema/FieldSameDefinitionPinLaw" = some mM.cls := hown
  have hS0 : sS.Since sS.vm 0 := (State.WarmedH.refl sS).since 0
  have hk0 : 0 ≤ h0.size := Nat.zero_le _
  have CR0 := CHr.refl hCH
  obtain ⟨T_1, h_1, L_1, X_1, e_1, N_1, Kc_1, st_1⟩ := pc_pre p1 p2 p3 p4 sn cn qa qb ra rb ta sa sb ca0 ca1 (0 : Int32) (0 : Int32) tb nb cb0 cb1 X0 hx hZ hw hby hml hown e0 N0 Z0 hEQ
  have Z_1 : n0 ≤ h_1.size := (Nat.le_trans Z0 Kc_1.1)
  have K_1 : Keep h0 h_1 [] := (Keep.refl h0 []).trans Kc_1 all0
  have hk_1 : _ ≤ h_1.size := Nat.le_trans hk0 Kc_1.1
  have Ca_1 := CHr.keep Kc_1 all0 CR0.1
  have CR_1 := CR0.trans Ca_1
  obtain ⟨T_2, h_2, X_2, e_2, E_2, A_2, D_2, -, st_2⟩ := newO X_1 hx hZ hown (ow hw 3 rfl) (ow hw 4 rfl) (ow hw 5 rfl) e_1 (g := (mkF mM 283 (lc54 p1 p2 p3 p4 sn cn ta tb qa qb ra rb sa sb nb ca0 ca1 cb0 cb1) [])) rfl (hb hby at_283) (by decide) (by decide)
  obtain ⟨b_2, g_2⟩ : ∃ z, z = h_1.size := ⟨_, rfl⟩
  rw [← g_2] at A_2 D_2 st_2
  have g_b_2 : n0 ≤ b_2 := Nat.le_trans Z_1 (Nat.le_of_eq g_2.symm)
  have sz_b_2 : h0.size ≤ b_2 := Nat.le_trans K_1.1 (Nat.le_of_eq g_2.symm)
  have Z_2 : n0 ≤ h_2.size := (Nat.le_trans Z_1 E_2.1)
  have K_2 : Keep h0 h_2 [] := K_1.ext E_2
  have hk_2 : _ ≤ h_2.size := Nat.le_trans hk_1 E_2.1
  have Ca_2 := CHr.ext E_2 CR_1.1
  have CR_2 := CR_1.trans Ca_2
  have F_name_b_2__2 : Fld Z h_2 b_2 "com/example/rolling_rung/rollingrung/schema/Field" "name" "Ljava/lang/String;" .null := D_2 (Or.inr (ow hw 61 rfl)) (ty := (.object "java/lang/String")) (by decide)
  have F_number_b_2__2 : Fld Z h_2 b_2 "com/example/rolling_rung/rollingrung/schema/Field" "number" "I" (.int (0 : Int32)) := D_2 (Or.inr (ow hw 63 rfl)) (ty := .int) (by decide)
  have F_type_b_2__2 : Fld Z h_2 b_2 "com/example/rolling_rung/rollingrung/schema/Field" "type" "Lcom/example/rolling_rung/rollingrung/schema/FieldType;" .null := D_2 (Or.inr (ow hw 65 rfl)) (ty := (.object "com/example/rolling_rung/rollingrung/schema/FieldType")) (by decide)
  have F_required_b_2__2 : Fld Z h_2 b_2 "com/example/rolling_rung/rollingrung/schema/Field" "required" "Z" (.int (0 : Int32)) := D_2 (Or.inr (ow hw 67 rfl)) (ty := .boolean) (by decide)
  have F_repeated_b_2__2 : Fld Z h_2 b_2 "com/example/rolling_rung/rollingrung/schema/Field" "repeated" "Z" (.int (0 : Int32)) := D_2 (Or.inr (ow hw 69 rfl)) (ty := .boolean) (by decide)
  have F_state_b_2__2 : Fld Z h_2 b_2 "com/example/rolling_rung/rollingrung/schema/Field" "state" "Lcom/example/rolling_rung/rollingrung/schema/ElementState;" .null := D_2 (Or.inr (ow hw 71 rfl)) (ty := (.object "com/example/rolling_rung/rollingrung/schema/ElementState")) (by decide)
  obtain ⟨_, _, ⟨T_3, L_3, k_3, n_3⟩, -, Xc_3, hSc_3, hgr_3, ⟨Lc_3, hQ_3, l_3, y_3, z_3, CHc_3⟩, st_3⟩ := callSS X_2 hx (y := MN9) hown (mvT hZ (ow hw 6 rfl)) (mvT hZ (ow hw 7 rfl)) (mvT hZ (ow hw 8 rfl)) (mvT hZ (ow hw 9 rfl)) (by decide) (backOfSH (W := 2) (rm_mk0 l Z a0 hw [] ca0 ca1 h_2 n0 Z_2 ) hZ (ow hw 9 rfl) (ow hw 8 rfl) (by decide) (by decide) (own_EW hw) CR_2.1) (g := (mkF mM 293 (lc54 p1 p2 p3 p4 sn cn ta tb qa qb ra rb sa sb nb ca0 ca1 cb0 cb1) [(.int ca1), (.int ca0), (.int (0 : Int32)), (.ref b_2), (.ref b_2)])) rfl (by rw [hml]; rfl) (argsL := [(.int (0 : Int32)), (.int ca0), (.int ca1)]) (rest := [(.ref b_2), (.ref b_2)]) (lenOf pd_9 rfl) rfl (by show 2 * 0 + _ ≤ _; exact Nat.le_of_eq rfl) (hb hby at_293) (fun _ _ => ⟨rfl, e_2, (by decide : 1 + 6 ≤ _), (by decide : 6 + 12 ≤ _)⟩)
  dsimp only [Pt.U, Pt.locs, Pt.cells, Pt.slots] at Xc_3 hSc_3 hgr_3 l_3 y_3 z_3 st_3 hQ_3 CHc_3
  subst l_3 y_3 z_3
  obtain ⟨X_3, hS_3, hZ_3, hown_3⟩ := rebS hS0 (show _ ≤ T_2.heap.size by rw [e_2]; exact hk_2) Xc_3 hSc_3 hgr_3 hZ hown
  obtain ⟨g__3, ⟨d__3, ⟨kd__3, ⟨rfl, N_3q, Kc_3, pfsz_g_3, pfE_g_3, pfF_value_g_3, pfF_coder_g_3, pfV_d_3⟩⟩⟩⟩ := hQ_3
  have Z_3 : n0 ≤ T_3.heap.size := (Nat.le_trans Z_2 Kc_3.1)
  have K_3 : Keep h0 T_3.heap [] := K_2.trans Kc_3 all0
  have Ca_3 := CHc_3
  have CR_3 := CR_2.trans Ca_3
  have hk_3 : _ ≤ T_3.heap.size := Nat.le_refl _
  have sz_g__3 : h0.size ≤ g__3 := Nat.le_trans K_2.1 pfsz_g_3
  have g_g__3 : n0 ≤ g__3 := Nat.le_trans Z_2 pfsz_g_3
  have N_3 := Fr.app N_1 N_3q
  have St_3_3 := (own_sta_keep ((own_sta_keep S_FieldType_STRING Kc_1 all0).ext E_2) Kc_3 all0)
  have St_3_4 := (own_sta_keep ((own_sta_keep S_FieldType_BYTES Kc_1 all0).ext E_2) Kc_3 all0)
  have St_3_5 := (own_sta_keep ((own_sta_keep S_FieldType_BOOL Kc_1 all0).ext E_2) Kc_3 all0)
  have St_3_6 := (own_sta_keep ((own_sta_keep S_FieldType_INT32 Kc_1 all0).ext E_2) Kc_3 all0)
  have St_3_7 := (own_sta_keep ((own_sta_keep S_FieldType_INT64 Kc_1 all0).ext E_2) Kc_3 all0)
  have St_3_8 := (own_sta_keep ((own_sta_keep S_FieldType_SINT32 Kc_1 all0).ext E_2) Kc_3 all0)
  have St_3_9 := (own_sta_keep ((own_sta_keep S_FieldType_SINT64 Kc_1 all0).ext E_2) Kc_3 all0)
  have St_3_10 := (own_sta_keep ((own_sta_keep S_FieldType_DOUBLE Kc_1 all0).ext E_2) Kc_3 all0)
  have St_3_11 := (own_sta_keep ((own_sta_keep S_FieldType_FLOAT Kc_1 all0).ext E_2) Kc_3 all0)
  obtain ⟨_, _, ⟨T_4, L_4, k_4, n_4⟩, -, X_4, ⟨Lc_4, hQ_4, l_4, y_4, z_4⟩, st_4⟩ := Jvm.LawKit.callS X_3 hx (y := MN10) hown_3 (mvT hZ_3 (ow hw 32 rfl)) (mvT hZ_3 (ow hw 33 rfl)) (mvT hZ_3 (ow hw 8 rfl)) (mvT hZ_3 (ow hw 34 rfl)) (by decide) (backOf (W := 4) (rm_typ l Z a0 hw [] ta t0 t1 t2 t3 t4 t5 t6 t7 t8 T_3.heap n0 Z_3 St_3_3 St_3_4 St_3_5 St_3_6 St_3_7 St_3_8 St_3_9 St_3_10 St_3_11) hZ_3 (ow hw 34 rfl) (ow hw 8 rfl) (by decide) (by decide)) (g := (mkF mM 299 (lc54 p1 p2 p3 p4 sn cn ta tb qa qb ra rb sa sb nb ca0 ca1 cb0 cb1) [(.int ta), (.int p1), (.ref g__3), (.ref b_2), (.ref b_2)])) rfl (by rw [hml]; rfl) (argsL := [(.int ta)]) (rest := [(.int p1), (.ref g__3), (.ref b_2), (.ref b_2)]) (lenOf pd_10 rfl) rfl (by show 2 * 0 + _ ≤ _; exact Nat.le_of_eq rfl) (hb hby at_299) (fun _ _ => ⟨rfl, rfl, (by decide : 7 + 0 ≤ _), (by decide : 18 + 0 ≤ _)⟩)
  dsimp only [Pt.U, Pt.locs, Pt.cells, Pt.slots] at X_4 l_4 y_4 z_4 st_4 hQ_4
  subst l_4 y_4 z_4
  obtain ⟨rfl, N_4q, eh_4⟩ := hQ_4
  have N_4 := Fr.app N_3 N_4q
  have St_3_12 := (own_sta_keep ((own_sta_keep S_ElementState_ABSENT Kc_1 all0).ext E_2) Kc_3 all0)
  have St_3_13 := (own_sta_keep ((own_sta_keep S_ElementState_DELETE_ONLY Kc_1 all0).ext E_2) Kc_3 all0)
  have St_3_14 := (own_sta_keep ((own_sta_keep S_ElementState_WRITE_ONLY Kc_1 all0).ext E_2) Kc_3 all0)
  have St_3_15 := (own_sta_keep ((own_sta_keep S_ElementState_PUBLIC Kc_1 all0).ext E_2) Kc_3 all0)
  obtain ⟨_, _, ⟨T_5, L_5, k_5, n_5⟩, -, X_5, ⟨Lc_5, hQ_5, l_5, y_5, z_5⟩, st_5⟩ := Jvm.LawKit.callS X_4 hx (y := MN11) hown_3 (mvT hZ_3 (ow hw 38 rfl)) (mvT hZ_3 (ow hw 39 rfl)) (mvT hZ_3 (ow hw 8 rfl)) (mvT hZ_3 (ow hw 40 rfl)) (by decide) (backOf (W := 7) (rm_sta l Z a0 hw [] sa es0 es1 es2 es3 T_3.heap n0 Z_3 St_3_12 St_3_13 St_3_14 St_3_15) hZ_3 (ow hw 40 rfl) (ow hw 8 rfl) (by decide) (by decide)) (g := (mkF mM 308 (lc54 p1 p2 p3 p4 sn cn ta tb qa qb ra rb sa sb nb ca0 ca1 cb0 cb1) [(.int sa), (.int ra), (.int qa), (.ref (own_ty ta t0 t1 t2 t3 t4 t5 t6 t7 t8)), (.int p1), (.ref g__3), (.ref b_2), (.ref b_2)])) rfl (by rw [hml]; rfl) (argsL := [(.int sa)]) (rest := [(.int ra), (.int qa), (.ref (own_ty ta t0 t1 t2 t3 t4 t5 t6 t7 t8)), (.int p1), (.ref g__3), (.ref b_2), (.ref b_2)]) (lenOf pd_11 rfl) rfl (by show 2 * 0 + _ ≤ _; exact Nat.le_of_eq rfl) (hb hby at_308) (fun _ _ => ⟨rfl, eh_4, (by decide : 7 + 0 ≤ _), (by decide : 18 + 0 ≤ _)⟩)
  dsimp only [Pt.U, Pt.locs, Pt.cells, Pt.slots] at X_5 l_5 y_5 z_5 st_5 hQ_5
  subst l_5 y_5 z_5
  obtain ⟨rfl, N_5q, eh_5⟩ := hQ_5
  have N_5 := Fr.app N_4 N_5q
  obtain ⟨_, _, ⟨T_6, L_6, k_6, n_6⟩, -, Xc_6, hSc_6, hgr_6, ⟨Lc_6, hQ_6, l_6, y_6, z_6, CHc_6⟩, st_6⟩ := X_5.specialBackS hx (y := MN12) rfl hown_3 (mvT hZ_3 (ow hw 44 rfl)) (mvT hZ_3 (ow hw 45 rfl)) (mvT hZ_3 (ow hw 46 rfl)) (by decide) (backOfSH (W := 1) (rm_fini l Z a0 hw [] b_2 g__3 p1 (own_ty ta t0 t1 t2 t3 t4 t5 t6 t7 t8) qa ra (own_st sa es0 es1 es2 es3) T_3.heap n0 Z_3 (F_name_b_2__2.keep Kc_3 nin0) (F_number_b_2__2.keep Kc_3 nin0) (F_type_b_2__2.keep Kc_3 nin0) (F_required_b_2__2.keep Kc_3 nin0) (F_repeated_b_2__2.keep Kc_3 nin0) (F_state_b_2__2.keep Kc_3 nin0) (A_2.keep Kc_3) g_b_2) hZ_3 (ow hw 46 rfl) (ow hw 5 rfl) (by decide) (by decide) (own_EW hw) CR_3.1) (g := (mkF mM 311 (lc54 p1 p2 p3 p4 sn cn ta tb qa qb ra rb sa sb nb ca0 ca1 cb0 cb1) [(.ref (own_st sa es0 es1 es2 es3)), (.int ra), (.int qa), (.ref (own_ty ta t0 t1 t2 t3 t4 t5 t6 t7 t8)), (.int p1), (.ref g__3), (.ref b_2), (.ref b_2)])) rfl (by rw [hml]; rfl) (Steps.refl _) (a := b_2) (argsL := [(.ref g__3), (.int p1), (.ref (own_ty ta t0 t1 t2 t3 t4 t5 t6 t7 t8)), (.int qa), (.int ra), (.ref (own_st sa es0 es1 es2 es3))]) (rest := [(.ref b_2)]) (lenOf pd_12 rfl) rfl (by show 2 * 0 + _ ≤ _; exact Nat.le_of_eq rfl) (hb hby at_311) (fun _ _ => ⟨rfl, eh_5, (by decide : 7 + 6 ≤ _), (by decide : 18 + 64 ≤ _)⟩)
  dsimp only [Pt.U, Pt.locs, Pt.cells, Pt.slots] at Xc_6 hSc_6 hgr_6 l_6 y_6 z_6 st_6 hQ_6 CHc_6
  subst l_6 y_6 z_6
  obtain ⟨X_6, hS_6, hZ_6, hown_6⟩ := rebS hS_3 (show _ ≤ T_5.heap.size by rw [eh_5]; exact hk_3) Xc_6 hSc_6 hgr_6 hZ_3 hown_3
  obtain ⟨rfl, N_6q, Kc_6, pfF_name_a_6, pfF_number_a_6, pfF_type_a_6, pfF_required_a_6, pfF_repeated_a_6, pfF_state_a_6, pfE_a_6⟩ := hQ_6
  have Z_6 : n0 ≤ T_6.heap.size := (Nat.le_trans Z_3 Kc_6.1)
  have K_6 : Keep h0 T_6.heap [] := K_3.trans Kc_6 (allS (Or.inr sz_b_2) all0)
  have Ca_6 := CHc_6
  have CR_6 := CR_3.trans Ca_6
  have hk_6 : _ ≤ T_6.heap.size := Nat.le_refl _
  have N_6 := Fr.app N_5 N_6q
  obtain ⟨T_7, h_7, X_7, e_7, E_7, A_7, D_7, -, st_7⟩ := newO X_6 hx hZ_6 hown_6 (ow hw 3 rfl) (ow hw 4 rfl) (ow hw 5 rfl) rfl (g := (mkF mM 316 (lc55 p1 p2 p3 p4 sn cn ta tb qa qb ra rb sa sb nb ca0 ca1 cb0 cb1 b_2) [])) rfl (hb hby at_316) (by decide) (by decide)
  obtain ⟨b_7, g_7⟩ : ∃ z, z = T_6.heap.size := ⟨_, rfl⟩
  rw [← g_7] at A_7 D_7 st_7
  have g_b_7 : n0 ≤ b_7 := Nat.le_trans Z_6 (Nat.le_of_eq g_7.symm)
  have sz_b_7 : h0.size ≤ b_7 := Nat.le_trans K_6.1 (Nat.le_of_eq g_7.symm)
  have Z_7 : n0 ≤ h_7.size := (Nat.le_trans Z_6 E_7.1)
  have K_7 : Keep h0 h_7 [] := K_6.ext E_7
  have hk_7 : _ ≤ h_7.size := Nat.le_trans hk_6 E_7.1
  have Ca_7 := CHr.ext E_7 CR_6.1
  have CR_7 := CR_6.trans Ca_7
  have F_name_b_7__7 : Fld Z h_7 b_7 "com/example/rolling_rung/rollingrung/schema/Field" "name" "Ljava/lang/String;" .null := D_7 (Or.inr (ow hw 61 rfl)) (ty := (.object "java/lang/String")) (by decide)
  have F_number_b_7__7 : Fld Z h_7 b_7 "com/example/rolling_rung/rollingrung/schema/Field" "number" "I" (.int (0 : Int32)) := D_7 (Or.inr (ow hw 63 rfl)) (ty := .int) (by decide)
  have F_type_b_7__7 : Fld Z h_7 b_7 "com/example/rolling_rung/rollingrung/schema/Field" "type" "Lcom/example/rolling_rung/rollingrung/schema/FieldType;" .null := D_7 (Or.inr (ow hw 65 rfl)) (ty := (.object "com/example/rolling_rung/rollingrung/schema/FieldType")) (by decide)
  have F_required_b_7__7 : Fld Z h_7 b_7 "com/example/rolling_rung/rollingrung/schema/Field" "required" "Z" (.int (0 : Int32)) := D_7 (Or.inr (ow hw 67 rfl)) (ty := .boolean) (by decide)
  have F_repeated_b_7__7 : Fld Z h_7 b_7 "com/example/rolling_rung/rollingrung/schema/Field" "repeated" "Z" (.int (0 : Int32)) := D_7 (Or.inr (ow hw 69 rfl)) (ty := .boolean) (by decide)
  have F_state_b_7__7 : Fld Z h_7 b_7 "com/example/rolling_rung/rollingrung/schema/Field" "state" "Lcom/example/rolling_rung/rollingrung/schema/ElementState;" .null := D_7 (Or.inr (ow hw 71 rfl)) (ty := (.object "com/example/rolling_rung/rollingrung/schema/ElementState")) (by decide)
  obtain ⟨_, _, ⟨T_8, L_8, k_8, n_8⟩, -, Xc_8, hSc_8, hgr_8, ⟨Lc_8, hQ_8, l_8, y_8, z_8, CHc_8⟩, st_8⟩ := callSS X_7 hx (y := MN9) hown_6 (mvT hZ_6 (ow hw 6 rfl)) (mvT hZ_6 (ow hw 7 rfl)) (mvT hZ_6 (ow hw 8 rfl)) (mvT hZ_6 (ow hw 9 rfl)) (by decide) (backOfSH (W := 2) (rm_mk0 l Z a0 hw [] cb0 cb1 h_7 n0 Z_7 ) hZ_6 (ow hw 9 rfl) (ow hw 8 rfl) (by decide) (by decide) (own_EW hw) CR_7.1) (g := (mkF mM 326 (lc55 p1 p2 p3 p4 sn cn ta tb qa qb ra rb sa sb nb ca0 ca1 cb0 cb1 b_2) [(.int cb1), (.int cb0), (.int (0 : Int32)), (.ref b_7), (.ref b_7)])) rfl (by rw [hml]; rfl) (argsL := [(.int (0 : Int32)), (.int cb0), (.int cb1)]) (rest := [(.ref b_7), (.ref b_7)]) (lenOf pd_9 rfl) rfl (by show 2 * 0 + _ ≤ _; exact Nat.le_of_eq rfl) (hb hby at_326) (fun _ _ => ⟨rfl, e_7, (by decide : 14 + 6 ≤ _), (by decide : 88 + 12 ≤ _)⟩)
  dsimp only [Pt.U, Pt.locs, Pt.cells, Pt.slots] at Xc_8 hSc_8 hgr_8 l_8 y_8 z_8 st_8 hQ_8 CHc_8
  subst l_8 y_8 z_8
  obtain ⟨X_8, hS_8, hZ_8, hown_8⟩ := rebS hS_6 (show _ ≤ T_7.heap.size by rw [e_7]; exact hk_7) Xc_8 hSc_8 hgr_8 hZ_6 hown_6
  obtain ⟨g__8, ⟨d__8, ⟨kd__8, ⟨rfl, N_8q, Kc_8, pfsz_g_8, pfE_g_8, pfF_value_g_8, pfF_coder_g_8, pfV_d_8⟩⟩⟩⟩ := hQ_8
  have Z_8 : n0 ≤ T_8.heap.size := (Nat.le_trans Z_7 Kc_8.1)
  have K_8 : Keep h0 T_8.heap [] := K_7.trans Kc_8 all0
  have Ca_8 := CHc_8
  have CR_8 := CR_7.trans Ca_8
  have hk_8 : _ ≤ T_8.heap.size := Nat.le_refl _
  have sz_g__8 : h0.size ≤ g__8 := Nat.le_trans K_7.1 pfsz_g_8
  have g_g__8 : n0 ≤ g__8 := Nat.le_trans Z_7 pfsz_g_8
  have N_8 := Fr.app N_6 N_8q
  have St_6_3 := (own_sta_keep ((own_sta_keep St_3_3 Kc_6 (allS (own_exa_ns (A_2.keep Kc_3)) all0)).ext E_7) Kc_8 all0)
  have St_6_4 := (own_sta_keep ((own_sta_keep St_3_4 Kc_6 (allS (own_exa_ns (A_2.keep Kc_3)) all0)).ext E_7) Kc_8 all0)
  have St_6_5 := (own_sta_keep ((own_sta_keep St_3_5 Kc_6 (allS (own_exa_ns (A_2.keep Kc_3)) all0)).ext E_7) Kc_8 all0)
  have St_6_6 := (own_sta_keep ((own_sta_keep St_3_6 Kc_6 (allS (own_exa_ns (A_2.keep Kc_3)) all0)).ext E_7) Kc_8 all0)
  have St_6_7 := (own_sta_keep ((own_sta_keep St_3_7 Kc_6 (allS (own_exa_ns (A_2.keep Kc_3)) all0)).ext E_7) Kc_8 all0)
  have St_6_8 := (own_sta_keep ((own_sta_keep St_3_8 Kc_6 (allS (own_exa_ns (A_2.keep Kc_3)) all0)).ext E_7) Kc_8 all0)
  have St_6_9 := (own_sta_keep ((own_sta_keep St_3_9 Kc_6 (allS (own_exa_ns (A_2.keep Kc_3)) all0)).ext E_7) Kc_8 all0)
  have St_6_10 := (own_sta_keep ((own_sta_keep St_3_10 Kc_6 (allS (own_exa_ns (A_2.keep Kc_3)) all0)).ext E_7) Kc_8 all0)
  have St_6_11 := (own_sta_keep ((own_sta_keep St_3_11 Kc_6 (allS (own_exa_ns (A_2.keep Kc_3)) all0)).ext E_7) Kc_8 all0)
  obtain ⟨_, _, ⟨T_9, L_9, k_9, n_9⟩, -, X_9, ⟨Lc_9, hQ_9, l_9, y_9, z_9⟩, st_9⟩ := Jvm.LawKit.callS X_8 hx (y := MN10) hown_8 (mvT hZ_8 (ow hw 32 rfl)) (mvT hZ_8 (ow hw 33 rfl)) (mvT hZ_8 (ow hw 8 rfl)) (mvT hZ_8 (ow hw 34 rfl)) (by decide) (backOf (W := 4) (rm_typ l Z a0 hw [] tb t0 t1 t2 t3 t4 t5 t6 t7 t8 T_8.heap n0 Z_8 St_6_3 St_6_4 St_6_5 St_6_6 St_6_7 St_6_8 St_6_9 St_6_10 St_6_11) hZ_8 (ow hw 34 rfl) (ow hw 8 rfl) (by decide) (by decide)) (g := (mkF mM 333 (lc55 p1 p2 p3 p4 sn cn ta tb qa qb ra rb sa sb nb ca0 ca1 cb0 cb1 b_2) [(.int tb), (.int nb), (.ref g__8), (.ref b_7), (.ref b_7)])) rfl (by rw [hml]; rfl) (argsL := [(.int tb)]) (rest := [(.int nb), (.ref g__8), (.ref b_7), (.ref b_7)]) (lenOf pd_10 rfl) rfl (by show 2 * 0 + _ ≤ _; exact Nat.le_of_eq rfl) (hb hby at_333) (fun _ _ => ⟨rfl, rfl, (by decide : 20 + 0 ≤ _), (by decide : 100 + 0 ≤ _)⟩)
  dsimp only [Pt.U, Pt.locs, Pt.cells, Pt.slots] at X_9 l_9 y_9 z_9 st_9 hQ_9
  subst l_9 y_9 z_9
  obtain ⟨rfl, N_9q, eh_9⟩ := hQ_9
  have N_9 := Fr.app N_8 N_9q
  have St_6_12 := (own_sta_keep ((own_sta_keep St_3_12 Kc_6 (allS (own_exa_ns (A_2.keep Kc_3)) all0)).ext E_7) Kc_8 all0)
  have St_6_13 := (own_sta_keep ((own_sta_keep St_3_13 Kc_6 (allS (own_exa_ns (A_2.keep Kc_3)) all0)).ext E_7) Kc_8 all0)
  have St_6_14 := (own_sta_keep ((own_sta_keep St_3_14 Kc_6 (allS (own_exa_ns (A_2.keep Kc_3)) all0)).ext E_7) Kc_8 all0)
  have St_6_15 := (own_sta_keep ((own_sta_keep St_3_15 Kc_6 (allS (own_exa_ns (A_2.keep Kc_3)) all0)).ext E_7) Kc_8 all0)
  obtain ⟨_, _, ⟨T_10, L_10, k_10, n_10⟩, -, X_10, ⟨Lc_10, hQ_10, l_10, y_10, z_10⟩, st_10⟩ := Jvm.LawKit.callS X_9 hx (y := MN11) hown_8 (mvT hZ_8 (ow hw 38 rfl)) (mvT hZ_8 (ow hw 39 rfl)) (mvT hZ_8 (ow hw 8 rfl)) (mvT hZ_8 (ow hw 40 rfl)) (by decide) (backOf (W := 7) (rm_sta l Z a0 hw [] sb es0 es1 es2 es3 T_8.heap n0 Z_8 St_6_12 St_6_13 St_6_14 St_6_15) hZ_8 (ow hw 40 rfl) (ow hw 8 rfl) (by decide) (by decide)) (g := (mkF mM 342 (lc55 p1 p2 p3 p4 sn cn ta tb qa qb ra rb sa sb nb ca0 ca1 cb0 cb1 b_2) [(.int sb), (.int rb), (.int qb), (.ref (own_ty tb t0 t1 t2 t3 t4 t5 t6 t7 t8)), (.int nb), (.ref g__8), (.ref b_7), (.ref b_7)])) rfl (by rw [hml]; rfl) (argsL := [(.int sb)]) (rest := [(.int rb), (.int qb), (.ref (own_ty tb t0 t1 t2 t3 t4 t5 t6 t7 t8)), (.int nb), (.ref g__8), (.ref b_7), (.ref b_7)]) (lenOf pd_11 rfl) rfl (by show 2 * 0 + _ ≤ _; exact Nat.le_of_eq rfl) (hb hby at_342) (fun _ _ => ⟨rfl, eh_9, (by decide : 20 + 0 ≤ _), (by decide : 100 + 0 ≤ _)⟩)
  dsimp only [Pt.U, Pt.locs, Pt.cells, Pt.slots] at X_10 l_10 y_10 z_10 st_10 hQ_10
  subst l_10 y_10 z_10
  obtain ⟨rfl, N_10q, eh_10⟩ := hQ_10
  have N_10 := Fr.app N_9 N_10q
  obtain ⟨_, _, ⟨T_11, L_11, k_11, n_11⟩, -, Xc_11, hSc_11, hgr_11, ⟨Lc_11, hQ_11, l_11, y_11, z_11, CHc_11⟩, st_11⟩ := X_10.specialBackS hx (y := MN12) rfl hown_8 (mvT hZ_8 (ow hw 44 rfl)) (mvT hZ_8 (ow hw 45 rfl)) (mvT hZ_8 (ow hw 46 rfl)) (by decide) (backOfSH (W := 1) (rm_fini l Z a0 hw [] b_7 g__8 nb (own_ty tb t0 t1 t2 t3 t4 t5 t6 t7 t8) qb rb (own_st sb es0 es1 es2 es3) T_8.heap n0 Z_8 (F_name_b_7__7.keep Kc_8 nin0) (F_number_b_7__7.keep Kc_8 nin0) (F_type_b_7__7.keep Kc_8 nin0) (F_required_b_7__7.keep Kc_8 nin0) (F_repeated_b_7__7.keep Kc_8 nin0) (F_state_b_7__7.keep Kc_8 nin0) (A_7.keep Kc_8) g_b_7) hZ_8 (ow hw 46 rfl) (ow hw 5 rfl) (by decide) (by decide) (own_EW hw) CR_8.1) (g := (mkF mM 345 (lc55 p1 p2 p3 p4 sn cn ta tb qa qb ra rb sa sb nb ca0 ca1 cb0 cb1 b_2) [(.ref (own_st sb es0 es1 es2 es3)), (.int rb), (.int qb), (.ref (own_ty tb t0 t1 t2 t3 t4 t5 t6 t7 t8)), (.int nb), (.ref g__8), (.ref b_7), (.ref b_7)])) rfl (by rw [hml]; rfl) (Steps.refl _) (a := b_7) (argsL := [(.ref g__8), (.int nb), (.ref (own_ty tb t0 t1 t2 t3 t4 t5 t6 t7 t8)), (.int qb), (.int rb), (.ref (own_st sb es0 es1 es2 es3))]) (rest := [(.ref b_7)]) (lenOf pd_12 rfl) rfl (by show 2 * 0 + _ ≤ _; exact Nat.le_of_eq rfl) (hb hby at_345) (fun _ _ => ⟨rfl, eh_10, (by decide : 20 + 6 ≤ _), (by decide : 100 + 64 ≤ _)⟩)
  dsimp only [Pt.U, Pt.locs, Pt.cells, Pt.slots] at Xc_11 hSc_11 hgr_11 l_11 y_11 z_11 st_11 hQ_11 CHc_11
  subst l_11 y_11 z_11
  obtain ⟨X_11, hS_11, hZ_11, hown_11⟩ := rebS hS_8 (show _ ≤ T_10.heap.size by rw [eh_10]; exact hk_8) Xc_11 hSc_11 hgr_11 hZ_8 hown_8
  obtain ⟨rfl, N_11q, Kc_11, pfF_name_a_11, pfF_number_a_11, pfF_type_a_11, pfF_required_a_11, pfF_repeated_a_11, pfF_state_a_11, pfE_a_11⟩ := hQ_11
  have Z_11 : n0 ≤ T_11.heap.size := (Nat.le_trans Z_8 Kc_11.1)
  have K_11 : Keep h0 T_11.heap [] := K_8.trans Kc_11 (allS (Or.inr sz_b_7) all0)
  have Ca_11 := CHc_11
  have CR_11 := CR_8.trans Ca_11
  have hk_11 : _ ≤ T_11.heap.size := Nat.le_refl _
  have N_11 := Fr.app N_10 N_11q
  have St_7_1 := (own_sta_keep (own_sta_keep ((own_sta_keep (own_sta_keep ((own_sta_keep S_String_COMPACT_STRINGS Kc_1 all0).ext E_2) Kc_3 all0) Kc_6 (allS (own_exa_ns (A_2.keep Kc_3)) all0)).ext E_7) Kc_8 all0) Kc_11 (allS (own_exa_ns (A_7.keep Kc_8)) all0))
  obtain ⟨cq_13, kq_13, q_13a, q_13b, q_13c⟩ := isOf hZ_11 rfl (((pfE_a_6.ext E_7).keep Kc_8).keep Kc_11)
  obtain ⟨_, _, ⟨T_13, L_13, k_13, n_13⟩, -, X_13, ⟨Lc_13, hQ_13, l_13, y_13, z_13⟩, st_13⟩ := X_11.virtualBack hx (y := MN13) (z := MN13) hown_11 (mvT hZ_11 (ow hw 76 rfl)) (mvT hZ_11 (ow hw 77 rfl)) (notFace_of_selects (args := #[]) (mvT hZ_11 (ow hw 79 rfl))) (mvT hZ_11 (ow hw 79 rfl)) (mvT hZ_11 (ow hw 78 rfl)) (by decide) (backOf (W := 0) (rm_sd l Z a0 hw [] b_2 b_7 g__3 g__8 p1 (own_ty ta t0 t1 t2 t3 t4 t5 t6 t7 t8) (nar .boolean qa) (nar .boolean ra) nb (own_ty tb t0 t1 t2 t3 t4 t5 t6 t7 t8) (nar .boolean qb) (nar .boolean rb) d__3 d__8 (1 : Int32) cs T_11.heap n0 Z_11 (((pfF_name_a_6.ext E_7).keep Kc_8 nin0).keep Kc_11 (ninS (Nat.ne_of_lt (Nat.lt_of_lt_of_le pfE_a_6.lt (Nat.le_of_eq g_7.symm))) nin0)) (((pfF_number_a_6.ext E_7).keep Kc_8 nin0).keep Kc_11 (ninS (Nat.ne_of_lt (Nat.lt_of_lt_of_le pfE_a_6.lt (Nat.le_of_eq g_7.symm))) nin0)) (((pfF_type_a_6.ext E_7).keep Kc_8 nin0).keep Kc_11 (ninS (Nat.ne_of_lt (Nat.lt_of_lt_of_le pfE_a_6.lt (Nat.le_of_eq g_7.symm))) nin0)) (((pfF_required_a_6.ext E_7).keep Kc_8 nin0).keep Kc_11 (ninS (Nat.ne_of_lt (Nat.lt_of_lt_of_le pfE_a_6.lt (Nat.le_of_eq g_7.symm))) nin0)) (((pfF_repeated_a_6.ext E_7).keep Kc_8 nin0).keep Kc_11 (ninS (Nat.ne_of_lt (Nat.lt_of_lt_of_le pfE_a_6.lt (Nat.le_of_eq g_7.symm))) nin0)) pfF_name_a_11 pfF_number_a_11 pfF_type_a_11 pfF_required_a_11 pfF_repeated_a_11 ((((pfF_value_g_3.keep Kc_6 (ninS (Ne.symm (Nat.ne_of_lt (Nat.lt_of_lt_of_le A_2.lt pfsz_g_3))) nin0)).ext E_7).keep Kc_8 nin0).keep Kc_11 (ninS (Nat.ne_of_lt (Nat.lt_of_lt_of_le (pfE_g_3.keep Kc_6).lt (Nat.le_of_eq g_7.symm))) nin0)) ((((pfF_coder_g_3.keep Kc_6 (ninS (Ne.symm (Nat.ne_of_lt (Nat.lt_of_lt_of_le A_2.lt pfsz_g_3))) nin0)).ext E_7).keep Kc_8 nin0).keep Kc_11 (ninS (Nat.ne_of_lt (Nat.lt_of_lt_of_le (pfE_g_3.keep Kc_6).lt (Nat.le_of_eq g_7.symm))) nin0)) ((((pfE_g_3.keep Kc_6).ext E_7).keep Kc_8).keep Kc_11) (pfF_value_g_8.keep Kc_11 (ninS (Ne.symm (Nat.ne_of_lt (Nat.lt_of_lt_of_le A_7.lt pfsz_g_8))) nin0)) (pfF_coder_g_8.keep Kc_11 (ninS (Ne.symm (Nat.ne_of_lt (Nat.lt_of_lt_of_le A_7.lt pfsz_g_8))) nin0)) (pfE_g_8.keep Kc_11) St_7_1 hcs (rm_leq00 l Z a0 hw [] d__3 kd__3 d__8 kd__8  T_11.heap n0 Z_11 ((((pfV_d_3.keep Kc_6 (ninS (Ne.symm (Exa.neArv (A_2.keep Kc_3) pfV_d_3 (ow hw 4 rfl))) nin0)).ext E_7).keep Kc_8 nin0).keep Kc_11 (ninS (Nat.ne_of_lt (Nat.lt_of_lt_of_le (pfV_d_3.keep Kc_6 (ninS (Ne.symm (Exa.neArv (A_2.keep Kc_3) pfV_d_3 (ow hw 4 rfl))) nin0)).lt (Nat.le_of_eq g_7.symm))) nin0)) (pfV_d_8.keep Kc_11 (ninS (Ne.symm (Exa.neArv (A_7.keep Kc_8) pfV_d_8 (ow hw 4 rfl))) nin0))) (Nat.ne_of_lt (Nat.lt_of_lt_of_le ((pfE_g_3.keep Kc_6).ext E_7).lt pfsz_g_8))) hZ_11 (ow hw 80 rfl) (ow hw 5 rfl) (by decide) (by decide)) q_13a q_13c (g := (mkF mM 433 (lc58 p1 p2 p3 p4 sn cn ta tb qa qb ra rb sa sb nb ca0 ca1 cb0 cb1 b_2 b_7) [(.ref b_7), (.ref b_2)])) rfl (by rw [hml]; rfl) (Steps.refl _) (argsL := [(.ref b_7)]) (rest := []) (lenOf pd_13 rfl) rfl (by show 2 * 0 + _ ≤ _; exact Nat.le_of_eq rfl) (hb hby at_433) (fun _ _ => ⟨rfl, rfl, (by decide : 26 + 0 ≤ _), (by decide : 164 + 0 ≤ _)⟩)
  dsimp only [Pt.U, Pt.locs, Pt.cells, Pt.slots] at X_13 l_13 y_13 z_13 st_13 hQ_13
  subst l_13 y_13 z_13
  obtain ⟨rfl, N_13q, eh_13⟩ := hQ_13
  have N_13 := Fr.app N_11 N_13q
  obtain ⟨fs, hr, hrun, hended, hRE⟩ := X_13.leaveW hS_11 (show _ ≤ T_13.heap.size by rw [eh_13]; exact hk_11) (v := some (.int (1 : Int32))) (fun h => by rw [Bd.returns] at h; cases h)
  refine ⟨_, _, pre0 _ ?_, hrun, hended, _, _, rfl, ?_, ⟨_, rfl⟩, hRE.2.1, hRE.2.2.1, hRE.2.2.2.mono (by decide) (by decide)⟩
  · show oS pP eE below s₁ (mkF mM 0 (lc36 p1 p2 p3 p4) []) _
    refine st_1 _ ?_
    show oS pP eE below T_1 (mkF mM 283 (lc54 p1 p2 p3 p4 sn cn ta tb qa qb ra rb sa sb nb ca0 ca1 cb0 cb1) []) _
    refine st_2 _ ?_
    show oS pP eE below T_2 (mkF mM 286 (lc54 p1 p2 p3 p4 sn cn ta tb qa qb ra rb sa sb nb ca0 ca1 cb0 cb1) [(.ref b_2)]) _
    refine XS.dup X_2.here hx rfl (hb hby at_286) rfl rfl ?_
    refine XS.iload X_2.here hx rfl (hb hby at_287) rfl ?_
    refine XS.iload X_2.here hx rfl (hb hby at_289) rfl ?_
    refine XS.iload X_2.here hx rfl (hb hby at_291) rfl ?_
    show oS pP eE below T_2 (mkF mM 293 (lc54 p1 p2 p3 p4 sn cn ta tb qa qb ra rb sa sb nb ca0 ca1 cb0 cb1) [(.int ca1), (.int ca0), (.int (0 : Int32)), (.ref b_2), (.ref b_2)]) _
    refine st_3.trans ?_
    show oS pP eE below T_3 (mkF mM 296 (lc54 p1 p2 p3 p4 sn cn ta tb qa qb ra rb sa sb nb ca0 ca1 cb0 cb1) [(.ref g__3), (.ref b_2), (.ref b_2)]) _
    refine XS.iloadN X_3.here hx rfl (hb hby at_296) rfl ?_
    refine XS.iload X_3.here hx rfl (hb hby at_297) rfl ?_
    show oS pP eE below T_3 (mkF mM 299 (lc54 p1 p2 p3 p4 sn cn ta tb qa qb ra rb sa sb nb ca0 ca1 cb0 cb1) [(.int ta), (.int p1), (.ref g__3), (.ref b_2), (.ref b_2)]) _
    refine st_4 _ ?_
    show oS pP eE below T_4 (mkF mM 302 (lc54 p1 p2 p3 p4 sn cn ta tb qa qb ra rb sa sb nb ca0 ca1 cb0 cb1) [(.ref (own_ty ta t0 t1 t2 t3 t4 t5 t6 t7 t8)), (.int p1), (.ref g__3), (.ref b_2), (.ref b_2)]) _
    refine XS.iload X_4.here hx rfl (hb hby at_302) rfl ?_
    refine XS.iload X_4.here hx rfl (hb hby at_304) rfl ?_
    refine XS.iload X_4.here hx rfl (hb hby at_306) rfl ?_
    show oS pP eE below T_4 (mkF mM 308 (lc54 p1 p2 p3 p4 sn cn ta tb qa qb ra rb sa sb nb ca0 ca1 cb0 cb1) [(.int sa), (.int ra), (.int qa), (.ref (own_ty ta t0 t1 t2 t3 t4 t5 t6 t7 t8)), (.int p1), (.ref g__3), (.ref b_2), (.ref b_2)]) _
    refine st_5 _ ?_
    show oS pP eE below T_5 (mkF mM 311 (lc54 p1 p2 p3 p4 sn cn ta tb qa qb ra rb sa sb nb ca0 ca1 cb0 cb1) [(.ref (own_st sa es0 es1 es2 es3)), (.int ra), (.int qa), (.ref (own_ty ta t0 t1 t2 t3 t4 t5 t6 t7 t8)), (.int p1), (.ref g__3), (.ref b_2), (.ref b_2)]) _
    refine st_6.trans ?_
    show oS pP eE below T_6 (mkF mM 314 (lc54 p1 p2 p3 p4 sn cn ta tb qa qb ra rb sa sb nb ca0 ca1 cb0 cb1) [(.ref b_2)]) _
    refine XS.astore X_6.here hx rfl (hb hby at_314) rfl rfl (l' := (lc55 p1 p2 p3 p4 sn cn ta tb qa qb ra rb sa sb nb ca0 ca1 cb0 cb1 b_2)) rfl ?_
    show oS pP eE below T_6 (mkF mM 316 (lc55 p1 p2 p3 p4 sn cn ta tb qa qb ra rb sa sb nb ca0 ca1 cb0 cb1 b_2) []) _
    refine st_7 _ ?_
    show oS pP eE below T_7 (mkF mM 319 (lc55 p1 p2 p3 p4 sn cn ta tb qa qb ra rb sa sb nb ca0 ca1 cb0 cb1 b_2) [(.ref b_7)]) _
    refine XS.dup X_7.here hx rfl (hb hby at_319) rfl rfl ?_
    refine XS.iload X_7.here hx rfl (hb hby at_320) rfl ?_
    refine XS.iload X_7.here hx rfl (hb hby at_322) rfl ?_
    refine XS.iload X_7.here hx rfl (hb hby at_324) rfl ?_
    show oS pP eE below T_7 (mkF mM 326 (lc55 p1 p2 p3 p4 sn cn ta tb qa qb ra rb sa sb nb ca0 ca1 cb0 cb1 b_2) [(.int cb1), (.int cb0), (.int (0 : Int32)), (.ref b_7), (.ref b_7)]) _
    refine st_8.trans ?_
    show oS pP eE below T_8 (mkF mM 329 (lc55 p1 p2 p3 p4 sn cn ta tb qa qb ra rb sa sb nb ca0 ca1 cb0 cb1 b_2) [(.ref g__8), (.ref b_7), (.ref b_7)]) _
    refine XS.iload X_8.here hx rfl (hb hby at_329) rfl ?_
    refine XS.iload X_8.here hx rfl (hb hby at_331) rfl ?_
    show oS pP eE below T_8 (mkF mM 333 (lc55 p1 p2 p3 p4 sn cn ta tb qa qb ra rb sa sb nb ca0 ca1 cb0 cb1 b_2) [(.int tb), (.int nb), (.ref g__8), (.ref b_7), (.ref b_7)]) _
    refine st_9 _ ?_
    show oS pP eE below T_9 (mkF mM 336 (lc55 p1 p2 p3 p4 sn cn ta tb qa qb ra rb sa sb nb ca0 ca1 cb0 cb1 b_2) [(.ref (own_ty tb t0 t1 t2 t3 t4 t5 t6 t7 t8)), (.int nb), (.ref g__8), (.ref b_7), (.ref b_7)]) _
    refine XS.iload X_9.here hx rfl (hb hby at_336) rfl ?_
    refine XS.iload X_9.here hx rfl (hb hby at_338) rfl ?_
    refine XS.iload X_9.here hx rfl (hb hby at_340) rfl ?_
    show oS pP eE below T_9 (mkF mM 342 (lc55 p1 p2 p3 p4 sn cn ta tb qa qb ra rb sa sb nb ca0 ca1 cb0 cb1 b_2) [(.int sb), (.int rb), (.int qb), (.ref (own_ty tb t0 t1 t2 t3 t4 t5 t6 t7 t8)), (.int nb), (.ref g__8), (.ref b_7), (.ref b_7)]) _
    refine st_10 _ ?_
    show oS pP eE below T_10 (mkF mM 345 (lc55 p1 p2 p3 p4 sn cn ta tb qa qb ra rb sa sb nb ca0 ca1 cb0 cb1 b_2) [(.ref (own_st sb es0 es1 es2 es3)), (.int rb), (.int qb), (.ref (own_ty tb t0 t1 t2 t3 t4 t5 t6 t7 t8)), (.int nb), (.ref g__8), (.ref b_7), (.ref b_7)]) _
    refine st_11.trans ?_
    show oS pP eE below T_11 (mkF mM 348 (lc55 p1 p2 p3 p4 sn cn ta tb qa qb ra rb sa sb nb ca0 ca1 cb0 cb1 b_2) [(.ref b_7)]) _
    refine XS.astore X_11.here hx rfl (hb hby at_348) rfl rfl (l' := (lc56 p1 p2 p3 p4 sn cn ta tb qa qb ra rb sa sb nb ca0 ca1 cb0 cb1 b_2 b_7)) rfl ?_
    refine XS.iload X_11.here hx rfl (hb hby at_350) rfl ?_
    refine XS.iload X_11.here hx rfl (hb hby at_352) rfl ?_
    refine XS.icmpNo X_11.here hx rfl (hb hby at_354) rfl (by decide) ?_
    refine XS.iload X_11.here hx rfl (hb hby at_357) rfl ?_
    refine XS.iconst X_11.here hx rfl (hb hby at_359) ?_
    refine XS.icmpYes X_11.here hx rfl (pc0 := 360) (pc' := 370) rfl (hb hby at_360) rfl (by decide) (by decide) (by decide) ?_
    refine XS.iload X_11.here hx rfl (hb hby at_370) rfl ?_
    refine XS.iconst X_11.here hx rfl (hb hby at_372) ?_
    refine XS.icmpYes X_11.here hx rfl (pc0 := 373) (pc' := 383) rfl (hb hby at_373) rfl (by decide) (by decide) (by decide) ?_
    refine XS.iconst X_11.here hx rfl (hb hby at_383) ?_
    refine XS.goto X_11.here hx rfl (pc0 := 384) (pc' := 388) rfl (hb hby at_384) (by decide) (by decide) ?_
    refine XS.istore X_11.here hx rfl (hb hby at_388) rfl (l' := (lc57 p1 p2 p3 p4 sn cn ta tb qa qb ra rb sa sb nb ca0 ca1 cb0 cb1 b_2 b_7)) rfl ?_
    refine XS.iload X_11.here hx rfl (hb hby at_390) rfl ?_
    show oS pP eE below T_11 (mkF mM 392 (lc57 p1 p2 p3 p4 sn cn ta tb qa qb ra rb sa sb nb ca0 ca1 cb0 cb1 b_2 b_7) [(.int (1 : Int32))]) _
    have jn_12 : ∀ t_, Steps pP.tables eE below (T_11.setTop (mkF mM 427 (lc57 p1 p2 p3 p4 sn cn ta tb qa qb ra rb sa sb nb ca0 ca1 cb0 cb1 b_2 b_7) [(.int (own_ex (1 : Int32) p1 nb ta tb qa qb ra rb))])) t_ → Steps pP.tables eE below (T_11.setTop (mkF mM 392 (lc57 p1 p2 p3 p4 sn cn ta tb qa qb ra rb sa sb nb ca0 ca1 cb0 cb1 b_2 b_7) [(.int (1 : Int32))])) t_ := by
      intro t_ kt
      by_cases k1 : p1 = nb
      · by_cases k2 : ta = tb
        · by_cases k3 : qa = qb
          · by_cases k4 : ra = rb
            · have hj : (own_ex (1 : Int32) p1 nb ta tb qa qb ra rb) = (1 : Int32) := if_pos ⟨(by decide), k1, k2, k3, k4⟩
              rw [hj] at kt
              show oS pP eE below T_11 (mkF mM 392 (lc57 p1 p2 p3 p4 sn cn ta tb qa qb ra rb sa sb nb ca0 ca1 cb0 cb1 b_2 b_7) [(.int (1 : Int32))]) _
              refine XS.ifNo X_11.here hx rfl (hb hby at_392) rfl (by decide) ?_
              refine XS.iloadN X_11.here hx rfl (hb hby at_395) rfl ?_
              refine XS.iload X_11.here hx rfl (hb hby at_396) rfl ?_
              refine XS.icmpNo X_11.here hx rfl (hb hby at_398) rfl (XT.ii_ne_f k1) ?_
              refine XS.iload X_11.here hx rfl (hb hby at_401) rfl ?_
              refine XS.iload X_11.here hx rfl (hb hby at_403) rfl ?_
              refine XS.icmpNo X_11.here hx rfl (hb hby at_405) rfl (XT.ii_ne_f k2) ?_
              refine XS.iload X_11.here hx rfl (hb hby at_408) rfl ?_
              refine XS.iload X_11.here hx rfl (hb hby at_410) rfl ?_
              refine XS.icmpNo X_11.here hx rfl (hb hby at_412) rfl (XT.ii_ne_f k3) ?_
              refine XS.iload X_11.here hx rfl (hb hby at_415) rfl ?_
              refine XS.iload X_11.here hx rfl (hb hby at_417) rfl ?_
              refine XS.icmpNo X_11.here hx rfl (hb hby at_419) rfl (XT.ii_ne_f k4) ?_
              refine XS.iconst X_11.here hx rfl (hb hby at_422) ?_
              show oS pP eE below T_11 (mkF mM 423 (lc57 p1 p2 p3 p4 sn cn ta tb qa qb ra rb sa sb nb ca0 ca1 cb0 cb1 b_2 b_7) [(.int (1 : Int32))]) _
              refine XS.goto X_11.here hx rfl (pc0 := 423) (pc' := 427) rfl (hb hby at_423) (by decide) (by decide) ?_
              show oS pP eE below T_11 (mkF mM 427 (lc57 p1 p2 p3 p4 sn cn ta tb qa qb ra rb sa sb nb ca0 ca1 cb0 cb1 b_2 b_7) [(.int (1 : Int32))]) _
              exact kt
            · have hj : (own_ex (1 : Int32) p1 nb ta tb qa qb ra rb) = (0 : Int32) := if_neg (fun z => k4 z.2.2.2.2)
              rw [hj] at kt
              refine XS.ifNo X_11.here hx rfl (hb hby at_392) rfl (by decide) ?_
              refine XS.iloadN X_11.here hx rfl (hb hby at_395) rfl ?_
              refine XS.iload X_11.here hx rfl (hb hby at_396) rfl ?_
              refine XS.icmpNo X_11.here hx rfl (hb hby at_398) rfl (XT.ii_ne_f k1) ?_
              refine XS.iload X_11.here hx rfl (hb hby at_401) rfl ?_
              refine XS.iload X_11.here hx rfl (hb hby at_403) rfl ?_
              refine XS.icmpNo X_11.here hx rfl (hb hby at_405) rfl (XT.ii_ne_f k2) ?_
              refine XS.iload X_11.here hx rfl (hb hby at_408) rfl ?_
              refine XS.iload X_11.here hx rfl (hb hby at_410) rfl ?_
              refine XS.icmpNo X_11.here hx rfl (hb hby at_412) rfl (XT.ii_ne_f k3) ?_
              refine XS.iload X_11.here hx rfl (hb hby at_415) rfl ?_
              refine XS.iload X_11.here hx rfl (hb hby at_417) rfl ?_
              refine XS.icmpYes X_11.here hx rfl (pc0 := 419) (pc' := 426) rfl (hb hby at_419) rfl (XT.ii_ne_t k4) (by decide) (by decide) ?_
              show oS pP eE below T_11 (mkF mM 426 (lc57 p1 p2 p3 p4 sn cn ta tb qa qb ra rb sa sb nb ca0 ca1 cb0 cb1 b_2 b_7) []) _
              refine XS.iconst X_11.here hx rfl (hb hby at_426) ?_
              show oS pP eE below T_11 (mkF mM 427 (lc57 p1 p2 p3 p4 sn cn ta tb qa qb ra rb sa sb nb ca0 ca1 cb0 cb1 b_2 b_7) [(.int (0 : Int32))]) _
              exact kt
          · have hj : (own_ex (1 : Int32) p1 nb ta tb qa qb ra rb) = (0 : Int32) := if_neg (fun z => k3 z.2.2.2.1)
            rw [hj] at kt
            refine XS.ifNo X_11.here hx rfl (hb hby at_392) rfl (by decide) ?_
            refine XS.iloadN X_11.here hx rfl (hb hby at_395) rfl ?_
            refine XS.iload X_11.here hx rfl (hb hby at_396) rfl ?_
            refine XS.icmpNo X_11.here hx rfl (hb hby at_398) rfl (XT.ii_ne_f k1) ?_
            refine XS.iload X_11.here hx rfl (hb hby at_401) rfl ?_
            refine XS.iload X_11.here hx rfl (hb hby at_403) rfl ?_
            refine XS.icmpNo X_11.here hx rfl (hb hby at_405) rfl (XT.ii_ne_f k2) ?_
            refine XS.iload X_11.here hx rfl (hb hby at_408) rfl ?_
            refine XS.iload X_11.here hx rfl (hb hby at_410) rfl ?_
            refine XS.icmpYes X_11.here hx rfl (pc0 := 412) (pc' := 426) rfl (hb hby at_412) rfl (XT.ii_ne_t k3) (by decide) (by decide) ?_
            refine XS.iconst X_11.here hx rfl (hb hby at_426) ?_
            show oS pP eE below T_11 (mkF mM 427 (lc57 p1 p2 p3 p4 sn cn ta tb qa qb ra rb sa sb nb ca0 ca1 cb0 cb1 b_2 b_7) [(.int (0 : Int32))]) _
            exact kt
        · have hj : (own_ex (1 : Int32) p1 nb ta tb qa qb ra rb) = (0 : Int32) := if_neg (fun z => k2 z.2.2.1)
          rw [hj] at kt
          refine XS.ifNo X_11.here hx rfl (hb hby at_392) rfl (by decide) ?_
          refine XS.iloadN X_11.here hx rfl (hb hby at_395) rfl ?_
          show oS pP eE below T_11 (mkF mM 396 (lc57 p1 p2 p3 p4 sn cn ta tb qa qb ra rb sa sb nb ca0 ca1 cb0 cb1 b_2 b_7) [(.int p1)]) _
          refine XS.iload X_11.here hx rfl (hb hby at_396) rfl ?_
          refine XS.icmpNo X_11.here hx rfl (hb hby at_398) rfl (XT.ii_ne_f k1) ?_
          refine XS.iload X_11.here hx rfl (hb hby at_401) rfl ?_
          refine XS.iload X_11.here hx rfl (hb hby at_403) rfl ?_
          refine XS.icmpYes X_11.here hx rfl (pc0 := 405) (pc' := 426) rfl (hb hby at_405) rfl (XT.ii_ne_t k2) (by decide) (by decide) ?_
          refine XS.iconst X_11.here hx rfl (hb hby at_426) ?_
          show oS pP eE below T_11 (mkF mM 427 (lc57 p1 p2 p3 p4 sn cn ta tb qa qb ra rb sa sb nb ca0 ca1 cb0 cb1 b_2 b_7) [(.int (0 : Int32))]) _
          exact kt
      · have hj : (own_ex (1 : Int32) p1 nb ta tb qa qb ra rb) = (0 : Int32) := if_neg (fun z => k1 z.2.1)
        rw [hj] at kt
        refine XS.ifNo X_11.here hx rfl (hb hby at_392) rfl (by decide) ?_
        refine XS.iloadN X_11.here hx rfl (hb hby at_395) rfl ?_
        refine XS.iload X_11.here hx rfl (hb hby at_396) rfl ?_
        refine XS.icmpYes X_11.here hx rfl (pc0 := 398) (pc' := 426) rfl (hb hby at_398) rfl (XT.ii_ne_t k1) (by decide) (by decide) ?_
        refine XS.iconst X_11.here hx rfl (hb hby at_426) ?_
        show oS pP eE below T_11 (mkF mM 427 (lc57 p1 p2 p3 p4 sn cn ta tb qa qb ra rb sa sb nb ca0 ca1 cb0 cb1 b_2 b_7) [(.int (0 : Int32))]) _
        exact kt
    refine jn_12 _ ?_
    refine XS.istore X_11.here hx rfl (hb hby at_427) rfl (l' := (lc58 p1 p2 p3 p4 sn cn ta tb qa qb ra rb sa sb nb ca0 ca1 cb0 cb1 b_2 b_7)) rfl ?_
    refine XS.aload X_11.here hx rfl (hb hby at_429) rfl rfl ?_
    refine XS.aload X_11.here hx rfl (hb hby at_431) rfl rfl ?_
    show oS pP eE below T_11 (mkF mM 433 (lc58 p1 p2 p3 p4 sn cn ta tb qa qb ra rb sa sb nb ca0 ca1 cb0 cb1 b_2 b_7) [(.ref b_7), (.ref b_2)]) _
    refine st_13.trans ?_
    show oS pP eE below T_13 (mkF mM 436 (lc58 p1 p2 p3 p4 sn cn ta tb qa qb ra rb sa sb nb ca0 ca1 cb0 cb1 b_2 b_7) [(.int (own_sd (own_nz (1 : Int32)) p1 nb (own_ty ta t0 t1 t2 t3 t4 t5 t6 t7 t8) (own_ty tb t0 t1 t2 t3 t4 t5 t6 t7 t8) (nar .boolean qa) (nar .boolean qb) (nar .boolean ra) (nar .boolean rb)))]) _
    refine XS.iload X_13.here hx rfl (hb hby at_436) rfl ?_
    refine XS.icmpNo X_13.here hx rfl (hb hby at_438) rfl (XT.ii_ne_f hfin) ?_
    refine XS.iconst X_13.here hx rfl (hb hby at_441) ?_
    refine XS.goto X_13.here hx rfl (pc0 := 442) (pc' := 446) rfl (hb hby at_442) (by decide) (by decide) ?_
    show oS pP eE below T_13 (mkF mM 446 (lc58 p1 p2 p3 p4 sn cn ta tb qa qb ra rb sa sb nb ca0 ca1 cb0 cb1 b_2 b_7) [(.int (1 : Int32))]) _
    exact retN X_13 hx (t := .boolean) Bd.returns (by simp) (hb hby at_446) hr
  · show Q_law00 Z p1 p2 p3 p4 sn cn qa qb ra rb ta sa sb ca0 ca1 tb nb cb0 cb1 t0 t1 t2 t3 t4 t5 t6 t7 t8 es0 es1 es2 es3 cs h0 n0 _ T_13.heap _
    exact ⟨rfl, N_13⟩
abbrev lc59 (p1 : Int32) (p2 : Int32) (p3 : Int64) (p4 : Int64) (sn : Int32) (cn : Int32) (ta : Int32) (tb : Int32) (qa : Int32) (qb : Int32) (ra : Int32) (rb : Int32) (sa : Int32) (sb : Int32) (nb : Int32) (ca0 : Int32) (ca1 : Int32) (cb0 : Int32) (cb1 : Int32) : Array Slot := #[.val (.int p1), .val (.int p2), .val (.long p3), .second, .val (.long p4), .second, .val (.int sn), .val (.int cn), .val (.int ta), .val (.int tb), .val (.int qa), .val (.int qb), .val (.int ra), .val (.int rb), .val (.int sa), .val (.int sb), .val (.int nb), .val (.int ca0), .val (.int ca1), .val (.int cb0), .val (.int cb1), .val (.int (0 : Int32)), .val (.int (1 : Int32)), .unset, .unset, .unset, .unset]
abbrev lc60 (p1 : Int32) (p2 : Int32) (p3 : Int64) (p4 : Int64) (sn : Int32) (cn : Int32) (ta : Int32) (tb : Int32) (qa : Int32) (qb : Int32) (ra : Int32) (rb : Int32) (sa : Int32) (sb : Int32) (nb : Int32) (ca0 : Int32) (ca1 : Int32) (cb0 : Int32) (cb1 : Int32) (b_2 : Addr) : Array Slot := #[.val (.int p1), .val (.int p2), .val (.long p3), .second, .val (.long p4), .second, .val (.int sn), .val (.int cn), .val (.int ta), .val (.int tb), .val (.int qa), .val (.int qb), .val (.int ra), .val (.int rb), .val (.int sa), .val (.int sb), .val (.int nb), .val (.int ca0), .val (.int ca1), .val (.int cb0), .val (.int cb1), .val (.int (0 : Int32)), .val (.int (1 : Int32)), .val (.ref b_2), .unset, .unset, .unset]
abbrev lc61 (p1 : Int32) (p2 : Int32) (p3 : Int64) (p4 : Int64) (sn : Int32) (cn : Int32) (ta : Int32) (tb : Int32) (qa : Int32) (qb : Int32) (ra : Int32) (rb : Int32) (sa : Int32) (sb : Int32) (nb : Int32) (ca0 : Int32) (ca1 : Int32) (cb0 : Int32) (cb1 : Int32) (b_2 : Addr) (b_7 : Addr) : Array Slot := #[.val (.int p1), .val (.int p2), .val (.long p3), .second, .val (.long p4), .second, .val (.int sn), .val (.int cn), .val (.int ta), .val (.int tb), .val (.int qa), .val (.int qb), .val (.int ra), .val (.int rb), .val (.int sa), .val (.int sb), .val (.int nb), .val (.int ca0), .val (.int ca1), .val (.int cb0), .val (.int cb1), .val (.int (0 : Int32)), .val (.int (1 : Int32)), .val (.ref b_2), .val (.ref b_7), .unset, .unset]
abbrev lc62 (p1 : Int32) (p2 : Int32) (p3 : Int64) (p4 : Int64) (sn : Int32) (cn : Int32) (ta : Int32) (tb : Int32) (qa : Int32) (qb : Int32) (ra : Int32) (rb : Int32) (sa : Int32) (sb : Int32) (nb : Int32) (ca0 : Int32) (ca1 : Int32) (cb0 : Int32) (cb1 : Int32) (b_2 : Addr) (b_7 : Addr) : Array Slot := #[.val (.int p1), .val (.int p2), .val (.long p3), .second, .val (.long p4), .second, .val (.int sn), .val (.int cn), .val (.int ta), .val (.int tb), .val (.int qa), .val (.int qb), .val (.int ra), .val (.int rb), .val (.int sa), .val (.int sb), .val (.int nb), .val (.int ca0), .val (.int ca1), .val (.int cb0), .val (.int cb1), .val (.int (0 : Int32)), .val (.int (1 : Int32)), .val (.ref b_2), .val (.ref b_7), .val (.int (0 : Int32)), .unset]
abbrev lc63 (p1 : Int32) (p2 : Int32) (p3 : Int64) (p4 : Int64) (sn : Int32) (cn : Int32) (ta : Int32) (tb : Int32) (qa : Int32) (qb : Int32) (ra : Int32) (rb : Int32) (sa : Int32) (sb : Int32) (nb : Int32) (ca0 : Int32) (ca1 : Int32) (cb0 : Int32) (cb1 : Int32) (b_2 : Addr) (b_7 : Addr) : Array Slot := #[.val (.int p1), .val (.int p2), .val (.long p3), .second, .val (.long p4), .second, .val (.int sn), .val (.int cn), .val (.int ta), .val (.int tb), .val (.int qa), .val (.int qb), .val (.int ra), .val (.int rb), .val (.int sa), .val (.int sb), .val (.int nb), .val (.int ca0), .val (.int ca1), .val (.int cb0), .val (.int cb1), .val (.int (0 : Int32)), .val (.int (1 : Int32)), .val (.ref b_2), .val (.ref b_7), .val (.int (0 : Int32)), .val (.int (0 : Int32))]
theorem ef_law01 (mM : MethodId) (x0 : Int32) (x1 : Int32) (x2 : Int64) (x3 : Int64) : entryFrame mM #[(.int x0), (.int x1), (.long x2), (.long x3)] maxLocals = mkF mM 0 #[.val (.int x0), .val (.int x1), .val (.long x2), .second, .val (.long x3), .second, .unset, .unset, .unset, .unset, .unset, .unset, .unset, .unset, .unset, .unset, .unset, .unset, .unset, .unset, .unset, .unset, .unset, .unset, .unset, .unset, .unset] [] := by first | (simp [entryFrame, mkF, argsToLocals, Value.category, maxLocals]; done) | rfl
def Q_law01 (Z : State) (p1 : Int32) (p2 : Int32) (p3 : Int64) (p4 : Int64) (sn : Int32) (cn : Int32) (qa : Int32) (qb : Int32) (ra : Int32) (rb : Int32) (ta : Int32) (sa : Int32) (sb : Int32) (ca0 : Int32) (ca1 : Int32) (tb : Int32) (nb : Int32) (cb0 : Int32) (cb1 : Int32) (t0 : Addr) (t1 : Addr) (t2 : Addr) (t3 : Addr) (t4 : Addr) (t5 : Addr) (t6 : Addr) (t7 : Addr) (t8 : Addr) (es0 : Addr) (es1 : Addr) (es2 : Addr) (es3 : Addr) (cs : Int32) (h0 : Heap) (n0 : Nat) (v_ : Option Value) (h_ : Heap) (L_ : List Loc) : Prop := v_ = some (.int (1 : Int32)) ∧ Fr n0 L_
set_option maxRecDepth 65536 in
set_option maxHeartbeats 40000000 in
theorem rm_law01 (l : Launch) (Z : State) (a0 : Array Value) (hw : ∀ d ∈ tables_1, d.before a0 Z = true) (ws : List Jvm.Cond) (p1 : Int32) (p2 : Int32) (p3 : Int64) (p4 : Int64) (sn : Int32) (cn : Int32) (qa : Int32) (qb : Int32) (ra : Int32) (rb : Int32) (ta : Int32) (sa : Int32) (sb : Int32) (ca0 : Int32) (ca1 : Int32) (tb : Int32) (nb : Int32) (cb0 : Int32) (cb1 : Int32) (t0 : Addr) (t1 : Addr) (t2 : Addr) (t3 : Addr) (t4 : Addr) (t5 : Addr) (t6 : Addr) (t7 : Addr) (t8 : Addr) (es0 : Addr) (es1 : Addr) (es2 : Addr) (es3 : Addr) (cs : Int32) (h0 : Heap) (n0 : Nat) (Z0 : n0 ≤ h0.size) (hEQ : own_eqs p1 p2 p3 p4 sn cn qa qb ra rb ta sa sb ca0 ca1 (0 : Int32) (1 : Int32) tb nb cb0 cb1) (S_String_COMPACT_STRINGS : Sta Z h0 "java/lang/String" "COMPACT_STRINGS" "Z" (.int cs)) (hcs : ¬ cs = 0) (S_FieldType_STRING : Sta Z h0 "com/example/rolling_rung/rollingrung/schema/FieldType" "STRING" "Lcom/example/rolling_rung/rollingrung/schema/FieldType;" (.ref t0)) (S_FieldType_BYTES : Sta Z h0 "com/example/rolling_rung/rollingrung/schema/FieldType" "BYTES" "Lcom/example/rolling_rung/rollingrung/schema/FieldType;" (.ref t1)) (S_FieldType_BOOL : Sta Z h0 "com/example/rolling_rung/rollingrung/schema/FieldType" "BOOL" "Lcom/example/rolling_rung/rollingrung/schema/FieldType;" (.ref t2)) (S_FieldType_INT32 : Sta Z h0 "com/example/rolling_rung/rollingrung/schema/FieldType" "INT32" "Lcom/example/rolling_rung/rollingrung/schema/FieldType;" (.ref t3)) (S_FieldType_INT64 : Sta Z h0 "com/example/rolling_rung/rollingrung/schema/FieldType" "INT64" "Lcom/example/rolling_rung/rollingrung/schema/FieldType;" (.ref t4)) (S_FieldType_SINT32 : Sta Z h0 "com/example/rolling_rung/rollingrung/schema/FieldType" "SINT32" "Lcom/example/rolling_rung/rollingrung/schema/FieldType;" (.ref t5)) (S_FieldType_SINT64 : Sta Z h0 "com/example/rolling_rung/rollingrung/schema/FieldType" "SINT64" "Lcom/example/rolling_rung/rollingrung/schema/FieldType;" (.ref t6)) (S_FieldType_DOUBLE : Sta Z h0 "com/example/rolling_rung/rollingrung/schema/FieldType" "DOUBLE" "Lcom/example/rolling_rung/rollingrung/schema/FieldType;" (.ref t7)) (S_FieldType_FLOAT : Sta Z h0 "com/example/rolling_rung/rollingrung/schema/FieldType" "FLOAT" "Lcom/example/rolling_rung/rollingrung/schema/FieldType;" (.ref t8)) (S_ElementState_ABSENT : Sta Z h0 "com/example/rolling_rung/rollingrung/schema/ElementState" "ABSENT" "Lcom/example/rolling_rung/rollingrung/schema/ElementState;" (.ref es0)) (S_ElementState_DELETE_ONLY : Sta Z h0 "com/example/rolling_rung/rollingrung/schema/ElementState" "DELETE_ONLY" "Lcom/example/rolling_rung/rollingrung/schema/ElementState;" (.ref es1)) (S_ElementState_WRITE_ONLY : Sta Z h0 "com/example/rolling_rung/rollingrung/schema/ElementState" "WRITE_ONLY" "Lcom/example/rolling_rung/rollingrung/schema/ElementState;" (.ref es2)) (S_ElementState_PUBLIC : Sta Z h0 "com/example/rolling_rung/rollingrung/schema/ElementState" "PUBLIC" "Lcom/example/rolling_rung/rollingrung/schema/ElementState;" (.ref es3)) (hq_ca0 : own_ch ca0) (hq_ca1 : own_ch ca1) (hq_cb0 : own_ch cb0) (hq_cb1 : own_ch cb1) (hfin : (own_sd (own_nz (0 : Int32)) p1 nb (own_ty ta t0 t1 t2 t3 t4 t5 t6 t7 t8) (own_ty tb t0 t1 t2 t3 t4 t5 t6 t7 t8) (nar .boolean qa) (nar .boolean qb) (nar .boolean ra) (nar .boolean rb)) = (0 : Int32)) :
    MetFree l x (head1 (Jvm.Cond.code x code maxLocals ret :: ws) room_1) (fun aa_ U_ => aa_ = #[(.int p1), (.int p2), (.long p3), (.long p4)] ∧ Z.Warmed39 U_.vm ∧ U_.heap = h0 ∧ CHv Z own_EL U_.vm h0) (fun _ _ _ _ _ => True) (fun _ U_ o_ U'_ => ∃ v_ L_, o_ = .returned v_ ∧ Q_law01 Z p1 p2 p3 p4 sn cn qa qb ra rb ta sa sb ca0 ca1 tb nb cb0 cb1 t0 t1 t2 t3 t4 t5 t6 t7 t8 es0 es1 es2 es3 cs h0 n0 v_ U'_.heap L_ ∧ ReturnedEndW U_ o_ U'_ L_ 23 158) := by
  refine MetFree.of_bodySF (plainFor_of_name pn_1) hisR ?_
  intro pP eE sS mM argsA below meth cC s₁ Bd hml0 hP hK
  obtain ⟨rfl, hZ, hh, hCH⟩ := hP
  have hx := Bd.exec
  have hby := Bd.bytes
  have hml : cC.maxLocals = 27 := hml0
  have hown : sS.vm.findClass "com/example/rolling_rung/rollingrung/schema/FieldSameDefinitionPinLaw" = some mM.cls := findClass_of_methodNamed Bd.named
  have hnm := (name_of_methodNamed Bd.named Bd.method).1
  have X0 : Stand pP l eE room_1 (sS.setVm sS.vm) mM #[(.int p1), (.int p2), (.long p3), (.long p4)] below meth cC s₁ [] 0 0 := Stand.of_body Bd
  have e0 : s₁.heap = h0 := by rw [← hh, Bd.state]; rfl
  have N0 := Fr.nil n0
  have pre0 : ∀ t_, Steps pP.tables eE below (s₁.setTop (mkF mM 0 #[.val (.int p1), .val (.int p2), .val (.long p3), .second, .val (.long p4), .second, .unset, .unset, .unset, .unset, .unset, .unset, .unset, .unset, .unset, .unset, .unset, .unset, .unset, .unset, .unset, .unset, .unset, .unset, .unset, .unset, .unset] [])) t_ → Steps pP.tables eE below (s₁.setTop (entryFrame mM #[(.int p1), (.int p2), (.long p3), (.long p4)] maxLocals)) t_ := fun t_ k_ => castTop (ef_law01 mM p1 p2 p3 p4) k_
  have hZ : Z.Warmed39 (sS.setVm sS.vm).vm := hZ
  have hown : (sS.setVm sS.vm).vm.findClass "com/example/rolling_rung/rollingrung/schema/FieldSameDefinitionPinLaw" = some mM.cls := hown
  have hS0 : sS.Since sS.vm 0 := (State.WarmedH.refl sS).since 0
  have hk0 : 0 ≤ h0.size := Nat.zero_le _
  have CR0 := CHr.refl hCH
  obtain ⟨T_1, h_1, L_1, X_1, e_1, N_1, Kc_1, st_1⟩ := pc_pre p1 p2 p3 p4 sn cn qa qb ra rb ta sa sb ca0 ca1 (0 : Int32) (1 : Int32) tb nb cb0 cb1 X0 hx hZ hw hby hml hown e0 N0 Z0 hEQ
  have Z_1 : n0 ≤ h_1.size := (Nat.le_trans Z0 Kc_1.1)
  have K_1 : Keep h0 h_1 [] := (Keep.refl h0 []).trans Kc_1 all0
  have hk_1 : _ ≤ h_1.size := Nat.le_trans hk0 Kc_1.1
  have Ca_1 := CHr.keep Kc_1 all0 CR0.1
  have CR_1 := CR0.trans Ca_1
  obtain ⟨T_2, h_2, X_2, e_2, E_2, A_2, D_2, -, st_2⟩ := newO X_1 hx hZ hown (ow hw 3 rfl) (ow hw 4 rfl) (ow hw 5 rfl) e_1 (g := (mkF mM 283 (lc59 p1 p2 p3 p4 sn cn ta tb qa qb ra rb sa sb nb ca0 ca1 cb0 cb1) [])) rfl (hb hby at_283) (by decide) (by decide)
  obtain ⟨b_2, g_2⟩ : ∃ z, z = h_1.size := ⟨_, rfl⟩
  rw [← g_2] at A_2 D_2 st_2
  have g_b_2 : n0 ≤ b_2 := Nat.le_trans Z_1 (Nat.le_of_eq g_2.symm)
  have sz_b_2 : h0.size ≤ b_2 := Nat.le_trans K_1.1 (Nat.le_of_eq g_2.symm)
  have Z_2 : n0 ≤ h_2.size := (Nat.le_trans Z_1 E_2.1)
  have K_2 : Keep h0 h_2 [] := K_1.ext E_2
  have hk_2 : _ ≤ h_2.size := Nat.le_trans hk_1 E_2.1
  have Ca_2 := CHr.ext E_2 CR_1.1
  have CR_2 := CR_1.trans Ca_2
  have F_name_b_2__2 : Fld Z h_2 b_2 "com/example/rolling_rung/rollingrung/schema/Field" "name" "Ljava/lang/String;" .null := D_2 (Or.inr (ow hw 61 rfl)) (ty := (.object "java/lang/String")) (by decide)
  have F_number_b_2__2 : Fld Z h_2 b_2 "com/example/rolling_rung/rollingrung/schema/Field" "number" "I" (.int (0 : Int32)) := D_2 (Or.inr (ow hw 63 rfl)) (ty := .int) (by decide)
  have F_type_b_2__2 : Fld Z h_2 b_2 "com/example/rolling_rung/rollingrung/schema/Field" "type" "Lcom/example/rolling_rung/rollingrung/schema/FieldType;" .null := D_2 (Or.inr (ow hw 65 rfl)) (ty := (.object "com/example/rolling_rung/rollingrung/schema/FieldType")) (by decide)
  have F_required_b_2__2 : Fld Z h_2 b_2 "com/example/rolling_rung/rollingrung/schema/Field" "required" "Z" (.int (0 : Int32)) := D_2 (Or.inr (ow hw 67 rfl)) (ty := .boolean) (by decide)
  have F_repeated_b_2__2 : Fld Z h_2 b_2 "com/example/rolling_rung/rollingrung/schema/Field" "repeated" "Z" (.int (0 : Int32)) := D_2 (Or.inr (ow hw 69 rfl)) (ty := .boolean) (by decide)
  have F_state_b_2__2 : Fld Z h_2 b_2 "com/example/rolling_rung/rollingrung/schema/Field" "state" "Lcom/example/rolling_rung/rollingrung/schema/ElementState;" .null := D_2 (Or.inr (ow hw 71 rfl)) (ty := (.object "com/example/rolling_rung/rollingrung/schema/ElementState")) (by decide)
  obtain ⟨_, _, ⟨T_3, L_3, k_3, n_3⟩, -, Xc_3, hSc_3, hgr_3, ⟨Lc_3, hQ_3, l_3, y_3, z_3, CHc_3⟩, st_3⟩ := callSS X_2 hx (y := MN9) hown (mvT hZ (ow hw 6 rfl)) (mvT hZ (ow hw 7 rfl)) (mvT hZ (ow hw 8 rfl)) (mvT hZ (ow hw 9 rfl)) (by decide) (backOfSH (W := 2) (rm_mk0 l Z a0 hw [] ca0 ca1 h_2 n0 Z_2 ) hZ (ow hw 9 rfl) (ow hw 8 rfl) (by decide) (by decide) (own_EW hw) CR_2.1) (g := (mkF mM 293 (lc59 p1 p2 p3 p4 sn cn ta tb qa qb ra rb sa sb nb ca0 ca1 cb0 cb1) [(.int ca1), (.int ca0), (.int (0 : Int32)), (.ref b_2), (.ref b_2)])) rfl (by rw [hml]; rfl) (argsL := [(.int (0 : Int32)), (.int ca0), (.int ca1)]) (rest := [(.ref b_2), (.ref b_2)]) (lenOf pd_9 rfl) rfl (by show 2 * 0 + _ ≤ _; exact Nat.le_of_eq rfl) (hb hby at_293) (fun _ _ => ⟨rfl, e_2, (by decide : 1 + 6 ≤ _), (by decide : 6 + 12 ≤ _)⟩)
  dsimp only [Pt.U, Pt.locs, Pt.cells, Pt.slots] at Xc_3 hSc_3 hgr_3 l_3 y_3 z_3 st_3 hQ_3 CHc_3
  subst l_3 y_3 z_3
  obtain ⟨X_3, hS_3, hZ_3, hown_3⟩ := rebS hS0 (show _ ≤ T_2.heap.size by rw [e_2]; exact hk_2) Xc_3 hSc_3 hgr_3 hZ hown
  obtain ⟨g__3, ⟨d__3, ⟨kd__3, ⟨rfl, N_3q, Kc_3, pfsz_g_3, pfE_g_3, pfF_value_g_3, pfF_coder_g_3, pfV_d_3⟩⟩⟩⟩ := hQ_3
  have Z_3 : n0 ≤ T_3.heap.size := (Nat.le_trans Z_2 Kc_3.1)
  have K_3 : Keep h0 T_3.heap [] := K_2.trans Kc_3 all0
  have Ca_3 := CHc_3
  have CR_3 := CR_2.trans Ca_3
  have hk_3 : _ ≤ T_3.heap.size := Nat.le_refl _
  have sz_g__3 : h0.size ≤ g__3 := Nat.le_trans K_2.1 pfsz_g_3
  have g_g__3 : n0 ≤ g__3 := Nat.le_trans Z_2 pfsz_g_3
  have N_3 := Fr.app N_1 N_3q
  have St_3_3 := (own_sta_keep ((own_sta_keep S_FieldType_STRING Kc_1 all0).ext E_2) Kc_3 all0)
  have St_3_4 := (own_sta_keep ((own_sta_keep S_FieldType_BYTES Kc_1 all0).ext E_2) Kc_3 all0)
  have St_3_5 := (own_sta_keep ((own_sta_keep S_FieldType_BOOL Kc_1 all0).ext E_2) Kc_3 all0)
  have St_3_6 := (own_sta_keep ((own_sta_keep S_FieldType_INT32 Kc_1 all0).ext E_2) Kc_3 all0)
  have St_3_7 := (own_sta_keep ((own_sta_keep S_FieldType_INT64 Kc_1 all0).ext E_2) Kc_3 all0)
  have St_3_8 := (own_sta_keep ((own_sta_keep S_FieldType_SINT32 Kc_1 all0).ext E_2) Kc_3 all0)
  have St_3_9 := (own_sta_keep ((own_sta_keep S_FieldType_SINT64 Kc_1 all0).ext E_2) Kc_3 all0)
  have St_3_10 := (own_sta_keep ((own_sta_keep S_FieldType_DOUBLE Kc_1 all0).ext E_2) Kc_3 all0)
  have St_3_11 := (own_sta_keep ((own_sta_keep S_FieldType_FLOAT Kc_1 all0).ext E_2) Kc_3 all0)
  obtain ⟨_, _, ⟨T_4, L_4, k_4, n_4⟩, -, X_4, ⟨Lc_4, hQ_4, l_4, y_4, z_4⟩, st_4⟩ := Jvm.LawKit.callS X_3 hx (y := MN10) hown_3 (mvT hZ_3 (ow hw 32 rfl)) (mvT hZ_3 (ow hw 33 rfl)) (mvT hZ_3 (ow hw 8 rfl)) (mvT hZ_3 (ow hw 34 rfl)) (by decide) (backOf (W := 4) (rm_typ l Z a0 hw [] ta t0 t1 t2 t3 t4 t5 t6 t7 t8 T_3.heap n0 Z_3 St_3_3 St_3_4 St_3_5 St_3_6 St_3_7 St_3_8 St_3_9 St_3_10 St_3_11) hZ_3 (ow hw 34 rfl) (ow hw 8 rfl) (by decide) (by decide)) (g := (mkF mM 299 (lc59 p1 p2 p3 p4 sn cn ta tb qa qb ra rb sa sb nb ca0 ca1 cb0 cb1) [(.int ta), (.int p1), (.ref g__3), (.ref b_2), (.ref b_2)])) rfl (by rw [hml]; rfl) (argsL := [(.int ta)]) (rest := [(.int p1), (.ref g__3), (.ref b_2), (.ref b_2)]) (lenOf pd_10 rfl) rfl (by show 2 * 0 + _ ≤ _; exact Nat.le_of_eq rfl) (hb hby at_299) (fun _ _ => ⟨rfl, rfl, (by decide : 7 + 0 ≤ _), (by decide : 18 + 0 ≤ _)⟩)
  dsimp only [Pt.U, Pt.locs, Pt.cells, Pt.slots] at X_4 l_4 y_4 z_4 st_4 hQ_4
  subst l_4 y_4 z_4
  obtain ⟨rfl, N_4q, eh_4⟩ := hQ_4
  have N_4 := Fr.app N_3 N_4q
  have St_3_12 := (own_sta_keep ((own_sta_keep S_ElementState_ABSENT Kc_1 all0).ext E_2) Kc_3 all0)
  have St_3_13 := (own_sta_keep ((own_sta_keep S_ElementState_DELETE_ONLY Kc_1 all0).ext E_2) Kc_3 all0)
  have St_3_14 := (own_sta_keep ((own_sta_keep S_ElementState_WRITE_ONLY Kc_1 all0).ext E_2) Kc_3 all0)
  have St_3_15 := (own_sta_keep ((own_sta_keep S_ElementState_PUBLIC Kc_1 all0).ext E_2) Kc_3 all0)
  obtain ⟨_, _, ⟨T_5, L_5, k_5, n_5⟩, -, X_5, ⟨Lc_5, hQ_5, l_5, y_5, z_5⟩, st_5⟩ := Jvm.LawKit.callS X_4 hx (y := MN11) hown_3 (mvT hZ_3 (ow hw 38 rfl)) (mvT hZ_3 (ow hw 39 rfl)) (mvT hZ_3 (ow hw 8 rfl)) (mvT hZ_3 (ow hw 40 rfl)) (by decide) (backOf (W := 7) (rm_sta l Z a0 hw [] sa es0 es1 es2 es3 T_3.heap n0 Z_3 St_3_12 St_3_13 St_3_14 St_3_15) hZ_3 (ow hw 40 rfl) (ow hw 8 rfl) (by decide) (by decide)) (g := (mkF mM 308 (lc59 p1 p2 p3 p4 sn cn ta tb qa qb ra rb sa sb nb ca0 ca1 cb0 cb1) [(.int sa), (.int ra), (.int qa), (.ref (own_ty ta t0 t1 t2 t3 t4 t5 t6 t7 t8)), (.int p1), (.ref g__3), (.ref b_2), (.ref b_2)])) rfl (by rw [hml]; rfl) (argsL := [(.int sa)]) (rest := [(.int ra), (.int qa), (.ref (own_ty ta t0 t1 t2 t3 t4 t5 t6 t7 t8)), (.int p1), (.ref g__3), (.ref b_2), (.ref b_2)]) (lenOf pd_11 rfl) rfl (by show 2 * 0 + _ ≤ _; exact Nat.le_of_eq rfl) (hb hby at_308) (fun _ _ => ⟨rfl, eh_4, (by decide : 7 + 0 ≤ _), (by decide : 18 + 0 ≤ _)⟩)
  dsimp only [Pt.U, Pt.locs, Pt.cells, Pt.slots] at X_5 l_5 y_5 z_5 st_5 hQ_5
  subst l_5 y_5 z_5
  obtain ⟨rfl, N_5q, eh_5⟩ := hQ_5
  have N_5 := Fr.app N_4 N_5q
  obtain ⟨_, _, ⟨T_6, L_6, k_6, n_6⟩, -, Xc_6, hSc_6, hgr_6, ⟨Lc_6, hQ_6, l_6, y_6, z_6, CHc_6⟩, st_6⟩ := X_5.specialBackS hx (y := MN12) rfl hown_3 (mvT hZ_3 (ow hw 44 rfl)) (mvT hZ_3 (ow hw 45 rfl)) (mvT hZ_3 (ow hw 46 rfl)) (by decide) (backOfSH (W := 1) (rm_fini l Z a0 hw [] b_2 g__3 p1 (own_ty ta t0 t1 t2 t3 t4 t5 t6 t7 t8) qa ra (own_st sa es0 es1 es2 es3) T_3.heap n0 Z_3 (F_name_b_2__2.keep Kc_3 nin0) (F_number_b_2__2.keep Kc_3 nin0) (F_type_b_2__2.keep Kc_3 nin0) (F_required_b_2__2.keep Kc_3 nin0) (F_repeated_b_2__2.keep Kc_3 nin0) (F_state_b_2__2.keep Kc_3 nin0) (A_2.keep Kc_3) g_b_2) hZ_3 (ow hw 46 rfl) (ow hw 5 rfl) (by decide) (by decide) (own_EW hw) CR_3.1) (g := (mkF mM 311 (lc59 p1 p2 p3 p4 sn cn ta tb qa qb ra rb sa sb nb ca0 ca1 cb0 cb1) [(.ref (own_st sa es0 es1 es2 es3)), (.int ra), (.int qa), (.ref (own_ty ta t0 t1 t2 t3 t4 t5 t6 t7 t8)), (.int p1), (.ref g__3), (.ref b_2), (.ref b_2)])) rfl (by rw [hml]; rfl) (Steps.refl _) (a := b_2) (argsL := [(.ref g__3), (.int p1), (.ref (own_ty ta t0 t1 t2 t3 t4 t5 t6 t7 t8)), (.int qa), (.int ra), (.ref (own_st sa es0 es1 es2 es3))]) (rest := [(.ref b_2)]) (lenOf pd_12 rfl) rfl (by show 2 * 0 + _ ≤ _; exact Nat.le_of_eq rfl) (hb hby at_311) (fun _ _ => ⟨rfl, eh_5, (by decide : 7 + 6 ≤ _), (by decide : 18 + 64 ≤ _)⟩)
  dsimp only [Pt.U, Pt.locs, Pt.cells, Pt.slots] at Xc_6 hSc_6 hgr_6 l_6 y_6 z_6 st_6 hQ_6 CHc_6
  subst l_6 y_6 z_6
  obtain ⟨X_6, hS_6, hZ_6, hown_6⟩ := rebS hS_3 (show _ ≤ T_5.heap.size by rw [eh_5]; exact hk_3) Xc_6 hSc_6 hgr_6 hZ_3 hown_3
  obtain ⟨rfl, N_6q, Kc_6, pfF_name_a_6, pfF_number_a_6, pfF_type_a_6, pfF_required_a_6, pfF_repeated_a_6, pfF_state_a_6, pfE_a_6⟩ := hQ_6
  have Z_6 : n0 ≤ T_6.heap.size := (Nat.le_trans Z_3 Kc_6.1)
  have K_6 : Keep h0 T_6.heap [] := K_3.trans Kc_6 (allS (Or.inr sz_b_2) all0)
  have Ca_6 := CHc_6
  have CR_6 := CR_3.trans Ca_6
  have hk_6 : _ ≤ T_6.heap.size := Nat.le_refl _
  have N_6 := Fr.app N_5 N_6q
  obtain ⟨T_7, h_7, X_7, e_7, E_7, A_7, D_7, -, st_7⟩ := newO X_6 hx hZ_6 hown_6 (ow hw 3 rfl) (ow hw 4 rfl) (ow hw 5 rfl) rfl (g := (mkF mM 316 (lc60 p1 p2 p3 p4 sn cn ta tb qa qb ra rb sa sb nb ca0 ca1 cb0 cb1 b_2) [])) rfl (hb hby at_316) (by decide) (by decide)
  obtain ⟨b_7, g_7⟩ : ∃ z, z = T_6.heap.size := ⟨_, rfl⟩
  rw [← g_7] at A_7 D_7 st_7
  have g_b_7 : n0 ≤ b_7 := Nat.le_trans Z_6 (Nat.le_of_eq g_7.symm)
  have sz_b_7 : h0.size ≤ b_7 := Nat.le_trans K_6.1 (Nat.le_of_eq g_7.symm)
  have Z_7 : n0 ≤ h_7.size := (Nat.le_trans Z_6 E_7.1)
  have K_7 : Keep h0 h_7 [] := K_6.ext E_7
  have hk_7 : _ ≤ h_7.size := Nat.le_trans hk_6 E_7.1
  have Ca_7 := CHr.ext E_7 CR_6.1
  have CR_7 := CR_6.trans Ca_7
  have F_name_b_7__7 : Fld Z h_7 b_7 "com/example/rolling_rung/rollingrung/schema/Field" "name" "Ljava/lang/String;" .null := D_7 (Or.inr (ow hw 61 rfl)) (ty := (.object "java/lang/String")) (by decide)
  have F_number_b_7__7 : Fld Z h_7 b_7 "com/example/rolling_rung/rollingrung/schema/Field" "number" "I" (.int (0 : Int32)) := D_7 (Or.inr (ow hw 63 rfl)) (ty := .int) (by decide)
  have F_type_b_7__7 : Fld Z h_7 b_7 "com/example/rolling_rung/rollingrung/schema/Field" "type" "Lcom/example/rolling_rung/rollingrung/schema/FieldType;" .null := D_7 (Or.inr (ow hw 65 rfl)) (ty := (.object "com/example/rolling_rung/rollingrung/schema/FieldType")) (by decide)
  have F_required_b_7__7 : Fld Z h_7 b_7 "com/example/rolling_rung/rollingrung/schema/Field" "required" "Z" (.int (0 : Int32)) := D_7 (Or.inr (ow hw 67 rfl)) (ty := .boolean) (by decide)
  have F_repeated_b_7__7 : Fld Z h_7 b_7 "com/example/rolling_rung/rollingrung/schema/Field" "repeated" "Z" (.int (0 : Int32)) := D_7 (Or.inr (ow hw 69 rfl)) (ty := .boolean) (by decide)
  have F_state_b_7__7 : Fld Z h_7 b_7 "com/example/rolling_rung/rollingrung/schema/Field" "state" "Lcom/example/rolling_rung/rollingrung/schema/ElementState;" .null := D_7 (Or.inr (ow hw 71 rfl)) (ty := (.object "com/example/rolling_rung/rollingrung/schema/ElementState")) (by decide)
  have St_5_1 := ((own_sta_keep (own_sta_keep ((own_sta_keep S_String_COMPACT_STRINGS Kc_1 all0).ext E_2) Kc_3 all0) Kc_6 (allS (own_exa_ns (A_2.keep Kc_3)) all0)).ext E_7)
  obtain ⟨_, _, ⟨T_8, L_8, k_8, n_8⟩, -, Xc_8, hSc_8, hgr_8, ⟨Lc_8, hQ_8, l_8, y_8, z_8, CHc_8⟩, st_8⟩ := callSS X_7 hx (y := MN9) hown_6 (mvT hZ_6 (ow hw 6 rfl)) (mvT hZ_6 (ow hw 7 rfl)) (mvT hZ_6 (ow hw 8 rfl)) (mvT hZ_6 (ow hw 9 rfl)) (by decide) (backOfSH (W := 2) (rm_mk1 l Z a0 hw [] cs cb0 cb1 h_7 n0 Z_7 St_5_1 hcs hq_cb0) hZ_6 (ow hw 9 rfl) (ow hw 8 rfl) (by decide) (by decide) (own_EW hw) CR_7.1) (g := (mkF mM 326 (lc60 p1 p2 p3 p4 sn cn ta tb qa qb ra rb sa sb nb ca0 ca1 cb0 cb1 b_2) [(.int cb1), (.int cb0), (.int (1 : Int32)), (.ref b_7), (.ref b_7)])) rfl (by rw [hml]; rfl) (argsL := [(.int (1 : Int32)), (.int cb0), (.int cb1)]) (rest := [(.ref b_7), (.ref b_7)]) (lenOf pd_9 rfl) rfl (by show 2 * 0 + _ ≤ _; exact Nat.le_of_eq rfl) (hb hby at_326) (fun _ _ => ⟨rfl, e_7, (by decide : 14 + 3 ≤ _), (by decide : 88 + 6 ≤ _)⟩)
  dsimp only [Pt.U, Pt.locs, Pt.cells, Pt.slots] at Xc_8 hSc_8 hgr_8 l_8 y_8 z_8 st_8 hQ_8 CHc_8
  subst l_8 y_8 z_8
  obtain ⟨X_8, hS_8, hZ_8, hown_8⟩ := rebS hS_6 (show _ ≤ T_7.heap.size by rw [e_7]; exact hk_7) Xc_8 hSc_8 hgr_8 hZ_6 hown_6
  obtain ⟨g__8, ⟨d__8, ⟨kd__8, ⟨rfl, N_8q, Kc_8, pfsz_g_8, pfsz_d_8, pfE_g_8, pfF_value_g_8, pfF_coder_g_8, pfV_d_8⟩⟩⟩⟩ := hQ_8
  have Z_8 : n0 ≤ T_8.heap.size := (Nat.le_trans Z_7 Kc_8.1)
  have K_8 : Keep h0 T_8.heap [] := K_7.trans Kc_8 all0
  have Ca_8 := CHc_8
  have CR_8 := CR_7.trans Ca_8
  have hk_8 : _ ≤ T_8.heap.size := Nat.le_refl _
  have sz_g__8 : h0.size ≤ g__8 := Nat.le_trans K_7.1 pfsz_g_8
  have g_g__8 : n0 ≤ g__8 := Nat.le_trans Z_7 pfsz_g_8
  have sz_d__8 : h0.size ≤ d__8 := Nat.le_trans K_7.1 pfsz_d_8
  have g_d__8 : n0 ≤ d__8 := Nat.le_trans Z_7 pfsz_d_8
  have N_8 := Fr.app N_6 N_8q
  have St_6_3 := (own_sta_keep ((own_sta_keep St_3_3 Kc_6 (allS (own_exa_ns (A_2.keep Kc_3)) all0)).ext E_7) Kc_8 all0)
  have St_6_4 := (own_sta_keep ((own_sta_keep St_3_4 Kc_6 (allS (own_exa_ns (A_2.keep Kc_3)) all0)).ext E_7) Kc_8 all0)
  have St_6_5 := (own_sta_keep ((own_sta_keep St_3_5 Kc_6 (allS (own_exa_ns (A_2.keep Kc_3)) all0)).ext E_7) Kc_8 all0)
  have St_6_6 := (own_sta_keep ((own_sta_keep St_3_6 Kc_6 (allS (own_exa_ns (A_2.keep Kc_3)) all0)).ext E_7) Kc_8 all0)
  have St_6_7 := (own_sta_keep ((own_sta_keep St_3_7 Kc_6 (allS (own_exa_ns (A_2.keep Kc_3)) all0)).ext E_7) Kc_8 all0)
  have St_6_8 := (own_sta_keep ((own_sta_keep St_3_8 Kc_6 (allS (own_exa_ns (A_2.keep Kc_3)) all0)).ext E_7) Kc_8 all0)
  have St_6_9 := (own_sta_keep ((own_sta_keep St_3_9 Kc_6 (allS (own_exa_ns (A_2.keep Kc_3)) all0)).ext E_7) Kc_8 all0)
  have St_6_10 := (own_sta_keep ((own_sta_keep St_3_10 Kc_6 (allS (own_exa_ns (A_2.keep Kc_3)) all0)).ext E_7) Kc_8 all0)
  have St_6_11 := (own_sta_keep ((own_sta_keep St_3_11 Kc_6 (allS (own_exa_ns (A_2.keep Kc_3)) all0)).ext E_7) Kc_8 all0)
  obtain ⟨_, _, ⟨T_9, L_9, k_9, n_9⟩, -, X_9, ⟨Lc_9, hQ_9, l_9, y_9, z_9⟩, st_9⟩ := Jvm.LawKit.callS X_8 hx (y := MN10) hown_8 (mvT hZ_8 (ow hw 32 rfl)) (mvT hZ_8 (ow hw 33 rfl)) (mvT hZ_8 (ow hw 8 rfl)) (mvT hZ_8 (ow hw 34 rfl)) (by decide) (backOf (W := 4) (rm_typ l Z a0 hw [] tb t0 t1 t2 t3 t4 t5 t6 t7 t8 T_8.heap n0 Z_8 St_6_3 St_6_4 St_6_5 St_6_6 St_6_7 St_6_8 St_6_9 St_6_10 St_6_11) hZ_8 (ow hw 34 rfl) (ow hw 8 rfl) (by decide) (by decide)) (g := (mkF mM 333 (lc60 p1 p2 p3 p4 sn cn ta tb qa qb ra rb sa sb nb ca0 ca1 cb0 cb1 b_2) [(.int tb), (.int nb), (.ref g__8), (.ref b_7), (.ref b_7)])) rfl (by rw [hml]; rfl) (argsL := [(.int tb)]) (rest := [(.int nb), (.ref g__8), (.ref b_7), (.ref b_7)]) (lenOf pd_10 rfl) rfl (by show 2 * 0 + _ ≤ _; exact Nat.le_of_eq rfl) (hb hby at_333) (fun _ _ => ⟨rfl, rfl, (by decide : 17 + 0 ≤ _), (by decide : 94 + 0 ≤ _)⟩)
  dsimp only [Pt.U, Pt.locs, Pt.cells, Pt.slots] at X_9 l_9 y_9 z_9 st_9 hQ_9
  subst l_9 y_9 z_9
  obtain ⟨rfl, N_9q, eh_9⟩ := hQ_9
  have N_9 := Fr.app N_8 N_9q
  have St_6_12 := (own_sta_keep ((own_sta_keep St_3_12 Kc_6 (allS (own_exa_ns (A_2.keep Kc_3)) all0)).ext E_7) Kc_8 all0)
  have St_6_13 := (own_sta_keep ((own_sta_keep St_3_13 Kc_6 (allS (own_exa_ns (A_2.keep Kc_3)) all0)).ext E_7) Kc_8 all0)
  have St_6_14 := (own_sta_keep ((own_sta_keep St_3_14 Kc_6 (allS (own_exa_ns (A_2.keep Kc_3)) all0)).ext E_7) Kc_8 all0)
  have St_6_15 := (own_sta_keep ((own_sta_keep St_3_15 Kc_6 (allS (own_exa_ns (A_2.keep Kc_3)) all0)).ext E_7) Kc_8 all0)
  obtain ⟨_, _, ⟨T_10, L_10, k_10, n_10⟩, -, X_10, ⟨Lc_10, hQ_10, l_10, y_10, z_10⟩, st_10⟩ := Jvm.LawKit.callS X_9 hx (y := MN11) hown_8 (mvT hZ_8 (ow hw 38 rfl)) (mvT hZ_8 (ow hw 39 rfl)) (mvT hZ_8 (ow hw 8 rfl)) (mvT hZ_8 (ow hw 40 rfl)) (by decide) (backOf (W := 7) (rm_sta l Z a0 hw [] sb es0 es1 es2 es3 T_8.heap n0 Z_8 St_6_12 St_6_13 St_6_14 St_6_15) hZ_8 (ow hw 40 rfl) (ow hw 8 rfl) (by decide) (by decide)) (g := (mkF mM 342 (lc60 p1 p2 p3 p4 sn cn ta tb qa qb ra rb sa sb nb ca0 ca1 cb0 cb1 b_2) [(.int sb), (.int rb), (.int qb), (.ref (own_ty tb t0 t1 t2 t3 t4 t5 t6 t7 t8)), (.int nb), (.ref g__8), (.ref b_7), (.ref b_7)])) rfl (by rw [hml]; rfl) (argsL := [(.int sb)]) (rest := [(.int rb), (.int qb), (.ref (own_ty tb t0 t1 t2 t3 t4 t5 t6 t7 t8)), (.int nb), (.ref g__8), (.ref b_7), (.ref b_7)]) (lenOf pd_11 rfl) rfl (by show 2 * 0 + _ ≤ _; exact Nat.le_of_eq rfl) (hb hby at_342) (fun _ _ => ⟨rfl, eh_9, (by decide : 17 + 0 ≤ _), (by decide : 94 + 0 ≤ _)⟩)
  dsimp only [Pt.U, Pt.locs, Pt.cells, Pt.slots] at X_10 l_10 y_10 z_10 st_10 hQ_10
  subst l_10 y_10 z_10
  obtain ⟨rfl, N_10q, eh_10⟩ := hQ_10
  have N_10 := Fr.app N_9 N_10q
  obtain ⟨_, _, ⟨T_11, L_11, k_11, n_11⟩, -, Xc_11, hSc_11, hgr_11, ⟨Lc_11, hQ_11, l_11, y_11, z_11, CHc_11⟩, st_11⟩ := X_10.specialBackS hx (y := MN12) rfl hown_8 (mvT hZ_8 (ow hw 44 rfl)) (mvT hZ_8 (ow hw 45 rfl)) (mvT hZ_8 (ow hw 46 rfl)) (by decide) (backOfSH (W := 1) (rm_fini l Z a0 hw [] b_7 g__8 nb (own_ty tb t0 t1 t2 t3 t4 t5 t6 t7 t8) qb rb (own_st sb es0 es1 es2 es3) T_8.heap n0 Z_8 (F_name_b_7__7.keep Kc_8 nin0) (F_number_b_7__7.keep Kc_8 nin0) (F_type_b_7__7.keep Kc_8 nin0) (F_required_b_7__7.keep Kc_8 nin0) (F_repeated_b_7__7.keep Kc_8 nin0) (F_state_b_7__7.keep Kc_8 nin0) (A_7.keep Kc_8) g_b_7) hZ_8 (ow hw 46 rfl) (ow hw 5 rfl) (by decide) (by decide) (own_EW hw) CR_8.1) (g := (mkF mM 345 (lc60 p1 p2 p3 p4 sn cn ta tb qa qb ra rb sa sb nb ca0 ca1 cb0 cb1 b_2) [(.ref (own_st sb es0 es1 es2 es3)), (.int rb), (.int qb), (.ref (own_ty tb t0 t1 t2 t3 t4 t5 t6 t7 t8)), (.int nb), (.ref g__8), (.ref b_7), (.ref b_7)])) rfl (by rw [hml]; rfl) (Steps.refl _) (a := b_7) (argsL := [(.ref g__8), (.int nb), (.ref (own_ty tb t0 t1 t2 t3 t4 t5 t6 t7 t8)), (.int qb), (.int rb), (.ref (own_st sb es0 es1 es2 es3))]) (rest := [(.ref b_7)]) (lenOf pd_12 rfl) rfl (by show 2 * 0 + _ ≤ _; exact Nat.le_of_eq rfl) (hb hby at_345) (fun _ _ => ⟨rfl, eh_10, (by decide : 17 + 6 ≤ _), (by decide : 94 + 64 ≤ _)⟩)
  dsimp only [Pt.U, Pt.locs, Pt.cells, Pt.slots] at Xc_11 hSc_11 hgr_11 l_11 y_11 z_11 st_11 hQ_11 CHc_11
  subst l_11 y_11 z_11
  obtain ⟨X_11, hS_11, hZ_11, hown_11⟩ := rebS hS_8 (show _ ≤ T_10.heap.size by rw [eh_10]; exact hk_8) Xc_11 hSc_11 hgr_11 hZ_8 hown_8
  obtain ⟨rfl, N_11q, Kc_11, pfF_name_a_11, pfF_number_a_11, pfF_type_a_11, pfF_required_a_11, pfF_repeated_a_11, pfF_state_a_11, pfE_a_11⟩ := hQ_11
  have Z_11 : n0 ≤ T_11.heap.size := (Nat.le_trans Z_8 Kc_11.1)
  have K_11 : Keep h0 T_11.heap [] := K_8.trans Kc_11 (allS (Or.inr sz_b_7) all0)
  have Ca_11 := CHc_11
  have CR_11 := CR_8.trans Ca_11
  have hk_11 : _ ≤ T_11.heap.size := Nat.le_refl _
  have N_11 := Fr.app N_10 N_11q
  have St_7_1 := (own_sta_keep (own_sta_keep St_5_1 Kc_8 all0) Kc_11 (allS (own_exa_ns (A_7.keep Kc_8)) all0))
  obtain ⟨cq_12, kq_12, q_12a, q_12b, q_12c⟩ := isOf hZ_11 rfl (((pfE_a_6.ext E_7).keep Kc_8).keep Kc_11)
  obtain ⟨_, _, ⟨T_12, L_12, k_12, n_12⟩, -, X_12, ⟨Lc_12, hQ_12, l_12, y_12, z_12⟩, st_12⟩ := X_11.virtualBack hx (y := MN13) (z := MN13) hown_11 (mvT hZ_11 (ow hw 76 rfl)) (mvT hZ_11 (ow hw 77 rfl)) (notFace_of_selects (args := #[]) (mvT hZ_11 (ow hw 79 rfl))) (mvT hZ_11 (ow hw 79 rfl)) (mvT hZ_11 (ow hw 78 rfl)) (by decide) (backOf (W := 0) (rm_sd l Z a0 hw [] b_2 b_7 g__3 g__8 p1 (own_ty ta t0 t1 t2 t3 t4 t5 t6 t7 t8) (nar .boolean qa) (nar .boolean ra) nb (own_ty tb t0 t1 t2 t3 t4 t5 t6 t7 t8) (nar .boolean qb) (nar .boolean rb) d__3 d__8 (0 : Int32) cs T_11.heap n0 Z_11 (((pfF_name_a_6.ext E_7).keep Kc_8 nin0).keep Kc_11 (ninS (Nat.ne_of_lt (Nat.lt_of_lt_of_le pfE_a_6.lt (Nat.le_of_eq g_7.symm))) nin0)) (((pfF_number_a_6.ext E_7).keep Kc_8 nin0).keep Kc_11 (ninS (Nat.ne_of_lt (Nat.lt_of_lt_of_le pfE_a_6.lt (Nat.le_of_eq g_7.symm))) nin0)) (((pfF_type_a_6.ext E_7).keep Kc_8 nin0).keep Kc_11 (ninS (Nat.ne_of_lt (Nat.lt_of_lt_of_le pfE_a_6.lt (Nat.le_of_eq g_7.symm))) nin0)) (((pfF_required_a_6.ext E_7).keep Kc_8 nin0).keep Kc_11 (ninS (Nat.ne_of_lt (Nat.lt_of_lt_of_le pfE_a_6.lt (Nat.le_of_eq g_7.symm))) nin0)) (((pfF_repeated_a_6.ext E_7).keep Kc_8 nin0).keep Kc_11 (ninS (Nat.ne_of_lt (Nat.lt_of_lt_of_le pfE_a_6.lt (Nat.le_of_eq g_7.symm))) nin0)) pfF_name_a_11 pfF_number_a_11 pfF_type_a_11 pfF_required_a_11 pfF_repeated_a_11 ((((pfF_value_g_3.keep Kc_6 (ninS (Ne.symm (Nat.ne_of_lt (Nat.lt_of_lt_of_le A_2.lt pfsz_g_3))) nin0)).ext E_7).keep Kc_8 nin0).keep Kc_11 (ninS (Nat.ne_of_lt (Nat.lt_of_lt_of_le (pfE_g_3.keep Kc_6).lt (Nat.le_of_eq g_7.symm))) nin0)) ((((pfF_coder_g_3.keep Kc_6 (ninS (Ne.symm (Nat.ne_of_lt (Nat.lt_of_lt_of_le A_2.lt pfsz_g_3))) nin0)).ext E_7).keep Kc_8 nin0).keep Kc_11 (ninS (Nat.ne_of_lt (Nat.lt_of_lt_of_le (pfE_g_3.keep Kc_6).lt (Nat.le_of_eq g_7.symm))) nin0)) ((((pfE_g_3.keep Kc_6).ext E_7).keep Kc_8).keep Kc_11) (pfF_value_g_8.keep Kc_11 (ninS (Ne.symm (Nat.ne_of_lt (Nat.lt_of_lt_of_le A_7.lt pfsz_g_8))) nin0)) (pfF_coder_g_8.keep Kc_11 (ninS (Ne.symm (Nat.ne_of_lt (Nat.lt_of_lt_of_le A_7.lt pfsz_g_8))) nin0)) (pfE_g_8.keep Kc_11) St_7_1 hcs (rm_leq01 l Z a0 hw [] d__3 kd__3 d__8 kd__8 (nar .byte ((nar .char cb0).toInt8.toInt32)) T_11.heap n0 Z_11 ((((pfV_d_3.keep Kc_6 (ninS (Ne.symm (Exa.neArv (A_2.keep Kc_3) pfV_d_3 (ow hw 4 rfl))) nin0)).ext E_7).keep Kc_8 nin0).keep Kc_11 (ninS (Nat.ne_of_lt (Nat.lt_of_lt_of_le (pfV_d_3.keep Kc_6 (ninS (Ne.symm (Exa.neArv (A_2.keep Kc_3) pfV_d_3 (ow hw 4 rfl))) nin0)).lt (Nat.le_of_eq g_7.symm))) nin0)) (pfV_d_8.keep Kc_11 (ninS (Ne.symm (Nat.ne_of_lt (Nat.lt_of_lt_of_le A_7.lt pfsz_d_8))) nin0))) (Nat.ne_of_lt (Nat.lt_of_lt_of_le ((pfE_g_3.keep Kc_6).ext E_7).lt pfsz_g_8))) hZ_11 (ow hw 80 rfl) (ow hw 5 rfl) (by decide) (by decide)) q_12a q_12c (g := (mkF mM 433 (lc63 p1 p2 p3 p4 sn cn ta tb qa qb ra rb sa sb nb ca0 ca1 cb0 cb1 b_2 b_7) [(.ref b_7), (.ref b_2)])) rfl (by rw [hml]; rfl) (Steps.refl _) (argsL := [(.ref b_7)]) (rest := []) (lenOf pd_13 rfl) rfl (by show 2 * 0 + _ ≤ _; exact Nat.le_of_eq rfl) (hb hby at_433) (fun _ _ => ⟨rfl, rfl, (by decide : 23 + 0 ≤ _), (by decide : 158 + 0 ≤ _)⟩)
  dsimp only [Pt.U, Pt.locs, Pt.cells, Pt.slots] at X_12 l_12 y_12 z_12 st_12 hQ_12
  subst l_12 y_12 z_12
  obtain ⟨rfl, N_12q, eh_12⟩ := hQ_12
  have N_12 := Fr.app N_11 N_12q
  obtain ⟨fs, hr, hrun, hended, hRE⟩ := X_12.leaveW hS_11 (show _ ≤ T_12.heap.size by rw [eh_12]; exact hk_11) (v := some (.int (1 : Int32))) (fun h => by rw [Bd.returns] at h; cases h)
  refine ⟨_, _, pre0 _ ?_, hrun, hended, _, _, rfl, ?_, ⟨_, rfl⟩, hRE.2.1, hRE.2.2.1, hRE.2.2.2.mono (by decide) (by decide)⟩
  · show oS pP eE below s₁ (mkF mM 0 (lc36 p1 p2 p3 p4) []) _
    refine st_1 _ ?_
    show oS pP eE below T_1 (mkF mM 283 (lc59 p1 p2 p3 p4 sn cn ta tb qa qb ra rb sa sb nb ca0 ca1 cb0 cb1) []) _
    refine st_2 _ ?_
    show oS pP eE below T_2 (mkF mM 286 (lc59 p1 p2 p3 p4 sn cn ta tb qa qb ra rb sa sb nb ca0 ca1 cb0 cb1) [(.ref b_2)]) _
    refine XS.dup X_2.here hx rfl (hb hby at_286) rfl rfl ?_
    refine XS.iload X_2.here hx rfl (hb hby at_287) rfl ?_
    refine XS.iload X_2.here hx rfl (hb hby at_289) rfl ?_
    refine XS.iload X_2.here hx rfl (hb hby at_291) rfl ?_
    show oS pP eE below T_2 (mkF mM 293 (lc59 p1 p2 p3 p4 sn cn ta tb qa qb ra rb sa sb nb ca0 ca1 cb0 cb1) [(.int ca1), (.int ca0), (.int (0 : Int32)), (.ref b_2), (.ref b_2)]) _
    refine st_3.trans ?_
    show oS pP eE below T_3 (mkF mM 296 (lc59 p1 p2 p3 p4 sn cn ta tb qa qb ra rb sa sb nb ca0 ca1 cb0 cb1) [(.ref g__3), (.ref b_2), (.ref b_2)]) _
    refine XS.iloadN X_3.here hx rfl (hb hby at_296) rfl ?_
    refine XS.iload X_3.here hx rfl (hb hby at_297) rfl ?_
    show oS pP eE below T_3 (mkF mM 299 (lc59 p1 p2 p3 p4 sn cn ta tb qa qb ra rb sa sb nb ca0 ca1 cb0 cb1) [(.int ta), (.int p1), (.ref g__3), (.ref b_2), (.ref b_2)]) _
    refine st_4 _ ?_
    show oS pP eE below T_4 (mkF mM 302 (lc59 p1 p2 p3 p4 sn cn ta tb qa qb ra rb sa sb nb ca0 ca1 cb0 cb1) [(.ref (own_ty ta t0 t1 t2 t3 t4 t5 t6 t7 t8)), (.int p1), (.ref g__3), (.ref b_2), (.ref b_2)]) _
    refine XS.iload X_4.here hx rfl (hb hby at_302) rfl ?_
    refine XS.iload X_4.here hx rfl (hb hby at_304) rfl ?_
    refine XS.iload X_4.here hx rfl (hb hby at_306) rfl ?_
    show oS pP eE below T_4 (mkF mM 308 (lc59 p1 p2 p3 p4 sn cn ta tb qa qb ra rb sa sb nb ca0 ca1 cb0 cb1) [(.int sa), (.int ra), (.int qa), (.ref (own_ty ta t0 t1 t2 t3 t4 t5 t6 t7 t8)), (.int p1), (.ref g__3), (.ref b_2), (.ref b_2)]) _
    refine st_5 _ ?_
    show oS pP eE below T_5 (mkF mM 311 (lc59 p1 p2 p3 p4 sn cn ta tb qa qb ra rb sa sb nb ca0 ca1 cb0 cb1) [(.ref (own_st sa es0 es1 es2 es3)), (.int ra), (.int qa), (.ref (own_ty ta t0 t1 t2 t3 t4 t5 t6 t7 t8)), (.int p1), (.ref g__3), (.ref b_2), (.ref b_2)]) _
    refine st_6.trans ?_
    show oS pP eE below T_6 (mkF mM 314 (lc59 p1 p2 p3 p4 sn cn ta tb qa qb ra rb sa sb nb ca0 ca1 cb0 cb1) [(.ref b_2)]) _
    refine XS.astore X_6.here hx rfl (hb hby at_314) rfl rfl (l' := (lc60 p1 p2 p3 p4 sn cn ta tb qa qb ra rb sa sb nb ca0 ca1 cb0 cb1 b_2)) rfl ?_
    show oS pP eE below T_6 (mkF mM 316 (lc60 p1 p2 p3 p4 sn cn ta tb qa qb ra rb sa sb nb ca0 ca1 cb0 cb1 b_2) []) _
    refine st_7 _ ?_
    show oS pP eE below T_7 (mkF mM 319 (lc60 p1 p2 p3 p4 sn cn ta tb qa qb ra rb sa sb nb ca0 ca1 cb0 cb1 b_2) [(.ref b_7)]) _
    refine XS.dup X_7.here hx rfl (hb hby at_319) rfl rfl ?_
    refine XS.iload X_7.here hx rfl (hb hby at_320) rfl ?_
    refine XS.iload X_7.here hx rfl (hb hby at_322) rfl ?_
    refine XS.iload X_7.here hx rfl (hb hby at_324) rfl ?_
    show oS pP eE below T_7 (mkF mM 326 (lc60 p1 p2 p3 p4 sn cn ta tb qa qb ra rb sa sb nb ca0 ca1 cb0 cb1 b_2) [(.int cb1), (.int cb0), (.int (1 : Int32)), (.ref b_7), (.ref b_7)]) _
    refine st_8.trans ?_
    show oS pP eE below T_8 (mkF mM 329 (lc60 p1 p2 p3 p4 sn cn ta tb qa qb ra rb sa sb nb ca0 ca1 cb0 cb1 b_2) [(.ref g__8), (.ref b_7), (.ref b_7)]) _
    refine XS.iload X_8.here hx rfl (hb hby at_329) rfl ?_
    refine XS.iload X_8.here hx rfl (hb hby at_331) rfl ?_
    show oS pP eE below T_8 (mkF mM 333 (lc60 p1 p2 p3 p4 sn cn ta tb qa qb ra rb sa sb nb ca0 ca1 cb0 cb1 b_2) [(.int tb), (.int nb), (.ref g__8), (.ref b_7), (.ref b_7)]) _
    refine st_9 _ ?_
    show oS pP eE below T_9 (mkF mM 336 (lc60 p1 p2 p3 p4 sn cn ta tb qa qb ra rb sa sb nb ca0 ca1 cb0 cb1 b_2) [(.ref (own_ty tb t0 t1 t2 t3 t4 t5 t6 t7 t8)), (.int nb), (.ref g__8), (.ref b_7), (.ref b_7)]) _
    refine XS.iload X_9.here hx rfl (hb hby at_336) rfl ?_
    refine XS.iload X_9.here hx rfl (hb hby at_338) rfl ?_
    refine XS.iload X_9.here hx rfl (hb hby at_340) rfl ?_
    show oS pP eE below T_9 (mkF mM 342 (lc60 p1 p2 p3 p4 sn cn ta tb qa qb ra rb sa sb nb ca0 ca1 cb0 cb1 b_2) [(.int sb), (.int rb), (.int qb), (.ref (own_ty tb t0 t1 t2 t3 t4 t5 t6 t7 t8)), (.int nb), (.ref g__8), (.ref b_7), (.ref b_7)]) _
    refine st_10 _ ?_
    show oS pP eE below T_10 (mkF mM 345 (lc60 p1 p2 p3 p4 sn cn ta tb qa qb ra rb sa sb nb ca0 ca1 cb0 cb1 b_2) [(.ref (own_st sb es0 es1 es2 es3)), (.int rb), (.int qb), (.ref (own_ty tb t0 t1 t2 t3 t4 t5 t6 t7 t8)), (.int nb), (.ref g__8), (.ref b_7), (.ref b_7)]) _
    refine st_11.trans ?_
    show oS pP eE below T_11 (mkF mM 348 (lc60 p1 p2 p3 p4 sn cn ta tb qa qb ra rb sa sb nb ca0 ca1 cb0 cb1 b_2) [(.ref b_7)]) _
    refine XS.astore X_11.here hx rfl (hb hby at_348) rfl rfl (l' := (lc61 p1 p2 p3 p4 sn cn ta tb qa qb ra rb sa sb nb ca0 ca1 cb0 cb1 b_2 b_7)) rfl ?_
    refine XS.iload X_11.here hx rfl (hb hby at_350) rfl ?_
    refine XS.iload X_11.here hx rfl (hb hby at_352) rfl ?_
    refine XS.icmpYes X_11.here hx rfl (pc0 := 354) (pc' := 387) rfl (hb hby at_354) rfl (by decide) (by decide) (by decide) ?_
    refine XS.iconst X_11.here hx rfl (hb hby at_387) ?_
    refine XS.istore X_11.here hx rfl (hb hby at_388) rfl (l' := (lc62 p1 p2 p3 p4 sn cn ta tb qa qb ra rb sa sb nb ca0 ca1 cb0 cb1 b_2 b_7)) rfl ?_
    refine XS.iload X_11.here hx rfl (hb hby at_390) rfl ?_
    refine XS.ifYes X_11.here hx rfl (pc0 := 392) (pc' := 426) rfl (hb hby at_392) rfl (by decide) (by decide) (by decide) ?_
    refine XS.iconst X_11.here hx rfl (hb hby at_426) ?_
    refine XS.istore X_11.here hx rfl (hb hby at_427) rfl (l' := (lc63 p1 p2 p3 p4 sn cn ta tb qa qb ra rb sa sb nb ca0 ca1 cb0 cb1 b_2 b_7)) rfl ?_
    refine XS.aload X_11.here hx rfl (hb hby at_429) rfl rfl ?_
    refine XS.aload X_11.here hx rfl (hb hby at_431) rfl rfl ?_
    show oS pP eE below T_11 (mkF mM 433 (lc63 p1 p2 p3 p4 sn cn ta tb qa qb ra rb sa sb nb ca0 ca1 cb0 cb1 b_2 b_7) [(.ref b_7), (.ref b_2)]) _
    refine st_12.trans ?_
    show oS pP eE below T_12 (mkF mM 436 (lc63 p1 p2 p3 p4 sn cn ta tb qa qb ra rb sa sb nb ca0 ca1 cb0 cb1 b_2 b_7) [(.int (own_sd (own_nz (0 : Int32)) p1 nb (own_ty ta t0 t1 t2 t3 t4 t5 t6 t7 t8) (own_ty tb t0 t1 t2 t3 t4 t5 t6 t7 t8) (nar .boolean qa) (nar .boolean qb) (nar .boolean ra) (nar .boolean rb)))]) _
    refine XS.iload X_12.here hx rfl (hb hby at_436) rfl ?_
    refine XS.icmpNo X_12.here hx rfl (hb hby at_438) rfl (XT.ii_ne_f hfin) ?_
    refine XS.iconst X_12.here hx rfl (hb hby at_441) ?_
    refine XS.goto X_12.here hx rfl (pc0 := 442) (pc' := 446) rfl (hb hby at_442) (by decide) (by decide) ?_
    show oS pP eE below T_12 (mkF mM 446 (lc63 p1 p2 p3 p4 sn cn ta tb qa qb ra rb sa sb nb ca0 ca1 cb0 cb1 b_2 b_7) [(.int (1 : Int32))]) _
    exact retN X_12 hx (t := .boolean) Bd.returns (by simp) (hb hby at_446) hr
  · show Q_law01 Z p1 p2 p3 p4 sn cn qa qb ra rb ta sa sb ca0 ca1 tb nb cb0 cb1 t0 t1 t2 t3 t4 t5 t6 t7 t8 es0 es1 es2 es3 cs h0 n0 _ T_12.heap _
    exact ⟨rfl, N_12⟩
abbrev lc64 (p1 : Int32) (p2 : Int32) (p3 : Int64) (p4 : Int64) (sn : Int32) (cn : Int32) (ta : Int32) (tb : Int32) (qa : Int32) (qb : Int32) (ra : Int32) (rb : Int32) (sa : Int32) (sb : Int32) (nb : Int32) (ca0 : Int32) (ca1 : Int32) (cb0 : Int32) (cb1 : Int32) : Array Slot := #[.val (.int p1), .val (.int p2), .val (.long p3), .second, .val (.long p4), .second, .val (.int sn), .val (.int cn), .val (.int ta), .val (.int tb), .val (.int qa), .val (.int qb), .val (.int ra), .val (.int rb), .val (.int sa), .val (.int sb), .val (.int nb), .val (.int ca0), .val (.int ca1), .val (.int cb0), .val (.int cb1), .val (.int (0 : Int32)), .val (.int (2 : Int32)), .unset, .unset, .unset, .unset]
abbrev lc65 (p1 : Int32) (p2 : Int32) (p3 : Int64) (p4 : Int64) (sn : Int32) (cn : Int32) (ta : Int32) (tb : Int32) (qa : Int32) (qb : Int32) (ra : Int32) (rb : Int32) (sa : Int32) (sb : Int32) (nb : Int32) (ca0 : Int32) (ca1 : Int32) (cb0 : Int32) (cb1 : Int32) (b_2 : Addr) : Array Slot := #[.val (.int p1), .val (.int p2), .val (.long p3), .second, .val (.long p4), .second, .val (.int sn), .val (.int cn), .val (.int ta), .val (.int tb), .val (.int qa), .val (.int qb), .val (.int ra), .val (.int rb), .val (.int sa), .val (.int sb), .val (.int nb), .val (.int ca0), .val (.int ca1), .val (.int cb0), .val (.int cb1), .val (.int (0 : Int32)), .val (.int (2 : Int32)), .val (.ref b_2), .unset, .unset, .unset]
abbrev lc66 (p1 : Int32) (p2 : Int32) (p3 : Int64) (p4 : Int64) (sn : Int32) (cn : Int32) (ta : Int32) (tb : Int32) (qa : Int32) (qb : Int32) (ra : Int32) (rb : Int32) (sa : Int32) (sb : Int32) (nb : Int32) (ca0 : Int32) (ca1 : Int32) (cb0 : Int32) (cb1 : Int32) (b_2 : Addr) (b_7 : Addr) : Array Slot := #[.val (.int p1), .val (.int p2), .val (.long p3), .second, .val (.long p4), .second, .val (.int sn), .val (.int cn), .val (.int ta), .val (.int tb), .val (.int qa), .val (.int qb), .val (.int ra), .val (.int rb), .val (.int sa), .val (.int sb), .val (.int nb), .val (.int ca0), .val (.int ca1), .val (.int cb0), .val (.int cb1), .val (.int (0 : Int32)), .val (.int (2 : Int32)), .val (.ref b_2), .val (.ref b_7), .unset, .unset]
abbrev lc67 (p1 : Int32) (p2 : Int32) (p3 : Int64) (p4 : Int64) (sn : Int32) (cn : Int32) (ta : Int32) (tb : Int32) (qa : Int32) (qb : Int32) (ra : Int32) (rb : Int32) (sa : Int32) (sb : Int32) (nb : Int32) (ca0 : Int32) (ca1 : Int32) (cb0 : Int32) (cb1 : Int32) (b_2 : Addr) (b_7 : Addr) : Array Slot := #[.val (.int p1), .val (.int p2), .val (.long p3), .second, .val (.long p4), .second, .val (.int sn), .val (.int cn), .val (.int ta), .val (.int tb), .val (.int qa), .val (.int qb), .val (.int ra), .val (.int rb), .val (.int sa), .val (.int sb), .val (.int nb), .val (.int ca0), .val (.int ca1), .val (.int cb0), .val (.int cb1), .val (.int (0 : Int32)), .val (.int (2 : Int32)), .val (.ref b_2), .val (.ref b_7), .val (.int (0 : Int32)), .unset]
abbrev lc68 (p1 : Int32) (p2 : Int32) (p3 : Int64) (p4 : Int64) (sn : Int32) (cn : Int32) (ta : Int32) (tb : Int32) (qa : Int32) (qb : Int32) (ra : Int32) (rb : Int32) (sa : Int32) (sb : Int32) (nb : Int32) (ca0 : Int32) (ca1 : Int32) (cb0 : Int32) (cb1 : Int32) (b_2 : Addr) (b_7 : Addr) : Array Slot := #[.val (.int p1), .val (.int p2), .val (.long p3), .second, .val (.long p4), .second, .val (.int sn), .val (.int cn), .val (.int ta), .val (.int tb), .val (.int qa), .val (.int qb), .val (.int ra), .val (.int rb), .val (.int sa), .val (.int sb), .val (.int nb), .val (.int ca0), .val (.int ca1), .val (.int cb0), .val (.int cb1), .val (.int (0 : Int32)), .val (.int (2 : Int32)), .val (.ref b_2), .val (.ref b_7), .val (.int (0 : Int32)), .val (.int (0 : Int32))]
theorem ef_law02 (mM : MethodId) (x0 : Int32) (x1 : Int32) (x2 : Int64) (x3 : Int64) : entryFrame mM #[(.int x0), (.int x1), (.long x2), (.long x3)] maxLocals = mkF mM 0 #[.val (.int x0), .val (.int x1), .val (.long x2), .second, .val (.long x3), .second, .unset, .unset, .unset, .unset, .unset, .unset, .unset, .unset, .unset, .unset, .unset, .unset, .unset, .unset, .unset, .unset, .unset, .unset, .unset, .unset, .unset] [] := by first | (simp [entryFrame, mkF, argsToLocals, Value.category, maxLocals]; done) | rfl
def Q_law02 (Z : State) (p1 : Int32) (p2 : Int32) (p3 : Int64) (p4 : Int64) (sn : Int32) (cn : Int32) (qa : Int32) (qb : Int32) (ra : Int32) (rb : Int32) (ta : Int32) (sa : Int32) (sb : Int32) (ca0 : Int32) (ca1 : Int32) (tb : Int32) (nb : Int32) (cb0 : Int32) (cb1 : Int32) (t0 : Addr) (t1 : Addr) (t2 : Addr) (t3 : Addr) (t4 : Addr) (t5 : Addr) (t6 : Addr) (t7 : Addr) (t8 : Addr) (es0 : Addr) (es1 : Addr) (es2 : Addr) (es3 : Addr) (cs : Int32) (h0 : Heap) (n0 : Nat) (v_ : Option Value) (h_ : Heap) (L_ : List Loc) : Prop := v_ = some (.int (1 : Int32)) ∧ Fr n0 L_
set_option maxRecDepth 65536 in
set_option maxHeartbeats 40000000 in
theorem rm_law02 (l : Launch) (Z : State) (a0 : Array Value) (hw : ∀ d ∈ tables_1, d.before a0 Z = true) (ws : List Jvm.Cond) (p1 : Int32) (p2 : Int32) (p3 : Int64) (p4 : Int64) (sn : Int32) (cn : Int32) (qa : Int32) (qb : Int32) (ra : Int32) (rb : Int32) (ta : Int32) (sa : Int32) (sb : Int32) (ca0 : Int32) (ca1 : Int32) (tb : Int32) (nb : Int32) (cb0 : Int32) (cb1 : Int32) (t0 : Addr) (t1 : Addr) (t2 : Addr) (t3 : Addr) (t4 : Addr) (t5 : Addr) (t6 : Addr) (t7 : Addr) (t8 : Addr) (es0 : Addr) (es1 : Addr) (es2 : Addr) (es3 : Addr) (cs : Int32) (h0 : Heap) (n0 : Nat) (Z0 : n0 ≤ h0.size) (hEQ : own_eqs p1 p2 p3 p4 sn cn qa qb ra rb ta sa sb ca0 ca1 (0 : Int32) (2 : Int32) tb nb cb0 cb1) (S_String_COMPACT_STRINGS : Sta Z h0 "java/lang/String" "COMPACT_STRINGS" "Z" (.int cs)) (hcs : ¬ cs = 0) (S_FieldType_STRING : Sta Z h0 "com/example/rolling_rung/rollingrung/schema/FieldType" "STRING" "Lcom/example/rolling_rung/rollingrung/schema/FieldType;" (.ref t0)) (S_FieldType_BYTES : Sta Z h0 "com/example/rolling_rung/rollingrung/schema/FieldType" "BYTES" "Lcom/example/rolling_rung/rollingrung/schema/FieldType;" (.ref t1)) (S_FieldType_BOOL : Sta Z h0 "com/example/rolling_rung/rollingrung/schema/FieldType" "BOOL" "Lcom/example/rolling_rung/rollingrung/schema/FieldType;" (.ref t2)) (S_FieldType_INT32 : Sta Z h0 "com/example/rolling_rung/rollingrung/schema/FieldType" "INT32" "Lcom/example/rolling_rung/rollingrung/schema/FieldType;" (.ref t3)) (S_FieldType_INT64 : Sta Z h0 "com/example/rolling_rung/rollingrung/schema/FieldType" "INT64" "Lcom/example/rolling_rung/rollingrung/schema/FieldType;" (.ref t4)) (S_FieldType_SINT32 : Sta Z h0 "com/example/rolling_rung/rollingrung/schema/FieldType" "SINT32" "Lcom/example/rolling_rung/rollingrung/schema/FieldType;" (.ref t5)) (S_FieldType_SINT64 : Sta Z h0 "com/example/rolling_rung/rollingrung/schema/FieldType" "SINT64" "Lcom/example/rolling_rung/rollingrung/schema/FieldType;" (.ref t6)) (S_FieldType_DOUBLE : Sta Z h0 "com/example/rolling_rung/rollingrung/schema/FieldType" "DOUBLE" "Lcom/example/rolling_rung/rollingrung/schema/FieldType;" (.ref t7)) (S_FieldType_FLOAT : Sta Z h0 "com/example/rolling_rung/rollingrung/schema/FieldType" "FLOAT" "Lcom/example/rolling_rung/rollingrung/schema/FieldType;" (.ref t8)) (S_ElementState_ABSENT : Sta Z h0 "com/example/rolling_rung/rollingrung/schema/ElementState" "ABSENT" "Lcom/example/rolling_rung/rollingrung/schema/ElementState;" (.ref es0)) (S_ElementState_DELETE_ONLY : Sta Z h0 "com/example/rolling_rung/rollingrung/schema/ElementState" "DELETE_ONLY" "Lcom/example/rolling_rung/rollingrung/schema/ElementState;" (.ref es1)) (S_ElementState_WRITE_ONLY : Sta Z h0 "com/example/rolling_rung/rollingrung/schema/ElementState" "WRITE_ONLY" "Lcom/example/rolling_rung/rollingrung/schema/ElementState;" (.ref es2)) (S_ElementState_PUBLIC : Sta Z h0 "com/example/rolling_rung/rollingrung/schema/ElementState" "PUBLIC" "Lcom/example/rolling_rung/rollingrung/schema/ElementState;" (.ref es3)) (hq_ca0 : own_ch ca0) (hq_ca1 : own_ch ca1) (hq_cb0 : own_ch cb0) (hq_cb1 : own_ch cb1) (hfin : (own_sd (own_nz (0 : Int32)) p1 nb (own_ty ta t0 t1 t2 t3 t4 t5 t6 t7 t8) (own_ty tb t0 t1 t2 t3 t4 t5 t6 t7 t8) (nar .boolean qa) (nar .boolean qb) (nar .boolean ra) (nar .boolean rb)) = (0 : Int32)) :
    MetFree l x (head1 (Jvm.Cond.code x code maxLocals ret :: ws) room_1) (fun aa_ U_ => aa_ = #[(.int p1), (.int p2), (.long p3), (.long p4)] ∧ Z.Warmed39 U_.vm ∧ U_.heap = h0 ∧ CHv Z own_EL U_.vm h0) (fun _ _ _ _ _ => True) (fun _ U_ o_ U'_ => ∃ v_ L_, o_ = .returned v_ ∧ Q_law02 Z p1 p2 p3 p4 sn cn qa qb ra rb ta sa sb ca0 ca1 tb nb cb0 cb1 t0 t1 t2 t3 t4 t5 t6 t7 t8 es0 es1 es2 es3 cs h0 n0 v_ U'_.heap L_ ∧ ReturnedEndW U_ o_ U'_ L_ 23 160) := by
  refine MetFree.of_bodySF (plainFor_of_name pn_1) hisR ?_
  intro pP eE sS mM argsA below meth cC s₁ Bd hml0 hP hK
  obtain ⟨rfl, hZ, hh, hCH⟩ := hP
  have hx := Bd.exec
  have hby := Bd.bytes
  have hml : cC.maxLocals = 27 := hml0
  have hown : sS.vm.findClass "com/example/rolling_rung/rollingrung/schema/FieldSameDefinitionPinLaw" = some mM.cls := findClass_of_methodNamed Bd.named
  have hnm := (name_of_methodNamed Bd.named Bd.method).1
  have X0 : Stand pP l eE room_1 (sS.setVm sS.vm) mM #[(.int p1), (.int p2), (.long p3), (.long p4)] below meth cC s₁ [] 0 0 := Stand.of_body Bd
  have e0 : s₁.heap = h0 := by rw [← hh, Bd.state]; rfl
  have N0 := Fr.nil n0
  have pre0 : ∀ t_, Steps pP.tables eE below (s₁.setTop (mkF mM 0 #[.val (.int p1), .val (.int p2), .val (.long p3), .second, .val (.long p4), .second, .unset, .unset, .unset, .unset, .unset, .unset, .unset, .unset, .unset, .unset, .unset, .unset, .unset, .unset, .unset, .unset, .unset, .unset, .unset, .unset, .unset] [])) t_ → Steps pP.tables eE below (s₁.setTop (entryFrame mM #[(.int p1), (.int p2), (.long p3), (.long p4)] maxLocals)) t_ := fun t_ k_ => castTop (ef_law02 mM p1 p2 p3 p4) k_
  have hZ : Z.Warmed39 (sS.setVm sS.vm).vm := hZ
  have hown : (sS.setVm sS.vm).vm.findClass "com/example/rolling_rung/rollingrung/schema/FieldSameDefinitionPinLaw" = some mM.cls := hown
  have hS0 : sS.Since sS.vm 0 := (State.WarmedH.refl sS).since 0
  have hk0 : 0 ≤ h0.size := Nat.zero_le _
  have CR0 := CHr.refl hCH
  obtain ⟨T_1, h_1, L_1, X_1, e_1, N_1, Kc_1, st_1⟩ := pc_pre p1 p2 p3 p4 sn cn qa qb ra rb ta sa sb ca0 ca1 (0 : Int32) (2 : Int32) tb nb cb0 cb1 X0 hx hZ hw hby hml hown e0 N0 Z0 hEQ
  have Z_1 : n0 ≤ h_1.size := (Nat.le_trans Z0 Kc_1.1)
  have K_1 : Keep h0 h_1 [] := (Keep.refl h0 []).trans Kc_1 all0
  have hk_1 : _ ≤ h_1.size := Nat.le_trans hk0 Kc_1.1
  have Ca_1 := CHr.keep Kc_1 all0 CR0.1
  have CR_1 := CR0.trans Ca_1
  obtain ⟨T_2, h_2, X_2, e_2, E_2, A_2, D_2, -, st_2⟩ := newO X_1 hx hZ hown (ow hw 3 rfl) (ow hw 4 rfl) (ow hw 5 rfl) e_1 (g := (mkF mM 283 (lc64 p1 p2 p3 p4 sn cn ta tb qa qb ra rb sa sb nb ca0 ca1 cb0 cb1) [])) rfl (hb hby at_283) (by decide) (by decide)
  obtain ⟨b_2, g_2⟩ : ∃ z, z = h_1.size := ⟨_, rfl⟩
  rw [← g_2] at A_2 D_2 st_2
  have g_b_2 : n0 ≤ b_2 := Nat.le_trans Z_1 (Nat.le_of_eq g_2.symm)
  have sz_b_2 : h0.size ≤ b_2 := Nat.le_trans K_1.1 (Nat.le_of_eq g_2.symm)
  have Z_2 : n0 ≤ h_2.size := (Nat.le_trans Z_1 E_2.1)
  have K_2 : Keep h0 h_2 [] := K_1.ext E_2
  have hk_2 : _ ≤ h_2.size := Nat.le_trans hk_1 E_2.1
  have Ca_2 := CHr.ext E_2 CR_1.1
  have CR_2 := CR_1.trans Ca_2
  have F_name_b_2__2 : Fld Z h_2 b_2 "com/example/rolling_rung/rollingrung/schema/Field" "name" "Ljava/lang/String;" .null := D_2 (Or.inr (ow hw 61 rfl)) (ty := (.object "java/lang/String")) (by decide)
  have F_number_b_2__2 : Fld Z h_2 b_2 "com/example/rolling_rung/rollingrung/schema/Field" "number" "I" (.int (0 : Int32)) := D_2 (Or.inr (ow hw 63 rfl)) (ty := .int) (by decide)
  have F_type_b_2__2 : Fld Z h_2 b_2 "com/example/rolling_rung/rollingrung/schema/Field" "type" "Lcom/example/rolling_rung/rollingrung/schema/FieldType;" .null := D_2 (Or.inr (ow hw 65 rfl)) (ty := (.object "com/example/rolling_rung/rollingrung/schema/FieldType")) (by decide)
  have F_required_b_2__2 : Fld Z h_2 b_2 "com/example/rolling_rung/rollingrung/schema/Field" "required" "Z" (.int (0 : Int32)) := D_2 (Or.inr (ow hw 67 rfl)) (ty := .boolean) (by decide)
  have F_repeated_b_2__2 : Fld Z h_2 b_2 "com/example/rolling_rung/rollingrung/schema/Field" "repeated" "Z" (.int (0 : Int32)) := D_2 (Or.inr (ow hw 69 rfl)) (ty := .boolean) (by decide)
  have F_state_b_2__2 : Fld Z h_2 b_2 "com/example/rolling_rung/rollingrung/schema/Field" "state" "Lcom/example/rolling_rung/rollingrung/schema/ElementState;" .null := D_2 (Or.inr (ow hw 71 rfl)) (ty := (.object "com/example/rolling_rung/rollingrung/schema/ElementState")) (by decide)
  obtain ⟨_, _, ⟨T_3, L_3, k_3, n_3⟩, -, Xc_3, hSc_3, hgr_3, ⟨Lc_3, hQ_3, l_3, y_3, z_3, CHc_3⟩, st_3⟩ := callSS X_2 hx (y := MN9) hown (mvT hZ (ow hw 6 rfl)) (mvT hZ (ow hw 7 rfl)) (mvT hZ (ow hw 8 rfl)) (mvT hZ (ow hw 9 rfl)) (by decide) (backOfSH (W := 2) (rm_mk0 l Z a0 hw [] ca0 ca1 h_2 n0 Z_2 ) hZ (ow hw 9 rfl) (ow hw 8 rfl) (by decide) (by decide) (own_EW hw) CR_2.1) (g := (mkF mM 293 (lc64 p1 p2 p3 p4 sn cn ta tb qa qb ra rb sa sb nb ca0 ca1 cb0 cb1) [(.int ca1), (.int ca0), (.int (0 : Int32)), (.ref b_2), (.ref b_2)])) rfl (by rw [hml]; rfl) (argsL := [(.int (0 : Int32)), (.int ca0), (.int ca1)]) (rest := [(.ref b_2), (.ref b_2)]) (lenOf pd_9 rfl) rfl (by show 2 * 0 + _ ≤ _; exact Nat.le_of_eq rfl) (hb hby at_293) (fun _ _ => ⟨rfl, e_2, (by decide : 1 + 6 ≤ _), (by decide : 6 + 12 ≤ _)⟩)
  dsimp only [Pt.U, Pt.locs, Pt.cells, Pt.slots] at Xc_3 hSc_3 hgr_3 l_3 y_3 z_3 st_3 hQ_3 CHc_3
  subst l_3 y_3 z_3
  obtain ⟨X_3, hS_3, hZ_3, hown_3⟩ := rebS hS0 (show _ ≤ T_2.heap.size by rw [e_2]; exact hk_2) Xc_3 hSc_3 hgr_3 hZ hown
  obtain ⟨g__3, ⟨d__3, ⟨kd__3, ⟨rfl, N_3q, Kc_3, pfsz_g_3, pfE_g_3, pfF_value_g_3, pfF_coder_g_3, pfV_d_3⟩⟩⟩⟩ := hQ_3
  have Z_3 : n0 ≤ T_3.heap.size := (Nat.le_trans Z_2 Kc_3.1)
  have K_3 : Keep h0 T_3.heap [] := K_2.trans Kc_3 all0
  have Ca_3 := CHc_3
  have CR_3 := CR_2.trans Ca_3
  have hk_3 : _ ≤ T_3.heap.size := Nat.le_refl _
  have sz_g__3 : h0.size ≤ g__3 := Nat.le_trans K_2.1 pfsz_g_3
  have g_g__3 : n0 ≤ g__3 := Nat.le_trans Z_2 pfsz_g_3
  have N_3 := Fr.app N_1 N_3q
  have St_3_3 := (own_sta_keep ((own_sta_keep S_FieldType_STRING Kc_1 all0).ext E_2) Kc_3 all0)
  have St_3_4 := (own_sta_keep ((own_sta_keep S_FieldType_BYTES Kc_1 all0).ext E_2) Kc_3 all0)
  have St_3_5 := (own_sta_keep ((own_sta_keep S_FieldType_BOOL Kc_1 all0).ext E_2) Kc_3 all0)
  have St_3_6 := (own_sta_keep ((own_sta_keep S_FieldType_INT32 Kc_1 all0).ext E_2) Kc_3 all0)
  have St_3_7 := (own_sta_keep ((own_sta_keep S_FieldType_INT64 Kc_1 all0).ext E_2) Kc_3 all0)
  have St_3_8 := (own_sta_keep ((own_sta_keep S_FieldType_SINT32 Kc_1 all0).ext E_2) Kc_3 all0)
  have St_3_9 := (own_sta_keep ((own_sta_keep S_FieldType_SINT64 Kc_1 all0).ext E_2) Kc_3 all0)
  have St_3_10 := (own_sta_keep ((own_sta_keep S_FieldType_DOUBLE Kc_1 all0).ext E_2) Kc_3 all0)
  have St_3_11 := (own_sta_keep ((own_sta_keep S_FieldType_FLOAT Kc_1 all0).ext E_2) Kc_3 all0)
  obtain ⟨_, _, ⟨T_4, L_4, k_4, n_4⟩, -, X_4, ⟨Lc_4, hQ_4, l_4, y_4, z_4⟩, st_4⟩ := Jvm.LawKit.callS X_3 hx (y := MN10) hown_3 (mvT hZ_3 (ow hw 32 rfl)) (mvT hZ_3 (ow hw 33 rfl)) (mvT hZ_3 (ow hw 8 rfl)) (mvT hZ_3 (ow hw 34 rfl)) (by decide) (backOf (W := 4) (rm_typ l Z a0 hw [] ta t0 t1 t2 t3 t4 t5 t6 t7 t8 T_3.heap n0 Z_3 St_3_3 St_3_4 St_3_5 St_3_6 St_3_7 St_3_8 St_3_9 St_3_10 St_3_11) hZ_3 (ow hw 34 rfl) (ow hw 8 rfl) (by decide) (by decide)) (g := (mkF mM 299 (lc64 p1 p2 p3 p4 sn cn ta tb qa qb ra rb sa sb nb ca0 ca1 cb0 cb1) [(.int ta), (.int p1), (.ref g__3), (.ref b_2), (.ref b_2)])) rfl (by rw [hml]; rfl) (argsL := [(.int ta)]) (rest := [(.int p1), (.ref g__3), (.ref b_2), (.ref b_2)]) (lenOf pd_10 rfl) rfl (by show 2 * 0 + _ ≤ _; exact Nat.le_of_eq rfl) (hb hby at_299) (fun _ _ => ⟨rfl, rfl, (by decide : 7 + 0 ≤ _), (by decide : 18 + 0 ≤ _)⟩)
  dsimp only [Pt.U, Pt.locs, Pt.cells, Pt.slots] at X_4 l_4 y_4 z_4 st_4 hQ_4
  subst l_4 y_4 z_4
  obtain ⟨rfl, N_4q, eh_4⟩ := hQ_4
  have N_4 := Fr.app N_3 N_4q
  have St_3_12 := (own_sta_keep ((own_sta_keep S_ElementState_ABSENT Kc_1 all0).ext E_2) Kc_3 all0)
  have St_3_13 := (own_sta_keep ((own_sta_keep S_ElementState_DELETE_ONLY Kc_1 all0).ext E_2) Kc_3 all0)
  have St_3_14 := (own_sta_keep ((own_sta_keep S_ElementState_WRITE_ONLY Kc_1 all0).ext E_2) Kc_3 all0)
  have St_3_15 := (own_sta_keep ((own_sta_keep S_ElementState_PUBLIC Kc_1 all0).ext E_2) Kc_3 all0)
  obtain ⟨_, _, ⟨T_5, L_5, k_5, n_5⟩, -, X_5, ⟨Lc_5, hQ_5, l_5, y_5, z_5⟩, st_5⟩ := Jvm.LawKit.callS X_4 hx (y := MN11) hown_3 (mvT hZ_3 (ow hw 38 rfl)) (mvT hZ_3 (ow hw 39 rfl)) (mvT hZ_3 (ow hw 8 rfl)) (mvT hZ_3 (ow hw 40 rfl)) (by decide) (backOf (W := 7) (rm_sta l Z a0 hw [] sa es0 es1 es2 es3 T_3.heap n0 Z_3 St_3_12 St_3_13 St_3_14 St_3_15) hZ_3 (ow hw 40 rfl) (ow hw 8 rfl) (by decide) (by decide)) (g := (mkF mM 308 (lc64 p1 p2 p3 p4 sn cn ta tb qa qb ra rb sa sb nb ca0 ca1 cb0 cb1) [(.int sa), (.int ra), (.int qa), (.ref (own_ty ta t0 t1 t2 t3 t4 t5 t6 t7 t8)), (.int p1), (.ref g__3), (.ref b_2), (.ref b_2)])) rfl (by rw [hml]; rfl) (argsL := [(.int sa)]) (rest := [(.int ra), (.int qa), (.ref (own_ty ta t0 t1 t2 t3 t4 t5 t6 t7 t8)), (.int p1), (.ref g__3), (.ref b_2), (.ref b_2)]) (lenOf pd_11 rfl) rfl (by show 2 * 0 + _ ≤ _; exact Nat.le_of_eq rfl) (hb hby at_308) (fun _ _ => ⟨rfl, eh_4, (by decide : 7 + 0 ≤ _), (by decide : 18 + 0 ≤ _)⟩)
  dsimp only [Pt.U, Pt.locs, Pt.cells, Pt.slots] at X_5 l_5 y_5 z_5 st_5 hQ_5
  subst l_5 y_5 z_5
  obtain ⟨rfl, N_5q, eh_5⟩ := hQ_5
  have N_5 := Fr.app N_4 N_5q
  obtain ⟨_, _, ⟨T_6, L_6, k_6, n_6⟩, -, Xc_6, hSc_6, hgr_6, ⟨Lc_6, hQ_6, l_6, y_6, z_6, CHc_6⟩, st_6⟩ := X_5.specialBackS hx (y := MN12) rfl hown_3 (mvT hZ_3 (ow hw 44 rfl)) (mvT hZ_3 (ow hw 45 rfl)) (mvT hZ_3 (ow hw 46 rfl)) (by decide) (backOfSH (W := 1) (rm_fini l Z a0 hw [] b_2 g__3 p1 (own_ty ta t0 t1 t2 t3 t4 t5 t6 t7 t8) qa ra (own_st sa es0 es1 es2 es3) T_3.heap n0 Z_3 (F_name_b_2__2.keep Kc_3 nin0) (F_number_b_2__2.keep Kc_3 nin0) (F_type_b_2__2.keep Kc_3 nin0) (F_required_b_2__2.keep Kc_3 nin0) (F_repeated_b_2__2.keep Kc_3 nin0) (F_state_b_2__2.keep Kc_3 nin0) (A_2.keep Kc_3) g_b_2) hZ_3 (ow hw 46 rfl) (ow hw 5 rfl) (by decide) (by decide) (own_EW hw) CR_3.1) (g := (mkF mM 311 (lc64 p1 p2 p3 p4 sn cn ta tb qa qb ra rb sa sb nb ca0 ca1 cb0 cb1) [(.ref (own_st sa es0 es1 es2 es3)), (.int ra), (.int qa), (.ref (own_ty ta t0 t1 t2 t3 t4 t5 t6 t7 t8)), (.int p1), (.ref g__3), (.ref b_2), (.ref b_2)])) rfl (by rw [hml]; rfl) (Steps.refl _) (a := b_2) (argsL := [(.ref g__3), (.int p1), (.ref (own_ty ta t0 t1 t2 t3 t4 t5 t6 t7 t8)), (.int qa), (.int ra), (.ref (own_st sa es0 es1 es2 es3))]) (rest := [(.ref b_2)]) (lenOf pd_12 rfl) rfl (by show 2 * 0 + _ ≤ _; exact Nat.le_of_eq rfl) (hb hby at_311) (fun _ _ => ⟨rfl, eh_5, (by decide : 7 + 6 ≤ _), (by decide : 18 + 64 ≤ _)⟩)
  dsimp only [Pt.U, Pt.locs, Pt.cells, Pt.slots] at Xc_6 hSc_6 hgr_6 l_6 y_6 z_6 st_6 hQ_6 CHc_6
  subst l_6 y_6 z_6
  obtain ⟨X_6, hS_6, hZ_6, hown_6⟩ := rebS hS_3 (show _ ≤ T_5.heap.size by rw [eh_5]; exact hk_3) Xc_6 hSc_6 hgr_6 hZ_3 hown_3
  obtain ⟨rfl, N_6q, Kc_6, pfF_name_a_6, pfF_number_a_6, pfF_type_a_6, pfF_required_a_6, pfF_repeated_a_6, pfF_state_a_6, pfE_a_6⟩ := hQ_6
  have Z_6 : n0 ≤ T_6.heap.size := (Nat.le_trans Z_3 Kc_6.1)
  have K_6 : Keep h0 T_6.heap [] := K_3.trans Kc_6 (allS (Or.inr sz_b_2) all0)
  have Ca_6 := CHc_6
  have CR_6 := CR_3.trans Ca_6
  have hk_6 : _ ≤ T_6.heap.size := Nat.le_refl _
  have N_6 := Fr.app N_5 N_6q
  obtain ⟨T_7, h_7, X_7, e_7, E_7, A_7, D_7, -, st_7⟩ := newO X_6 hx hZ_6 hown_6 (ow hw 3 rfl) (ow hw 4 rfl) (ow hw 5 rfl) rfl (g := (mkF mM 316 (lc65 p1 p2 p3 p4 sn cn ta tb qa qb ra rb sa sb nb ca0 ca1 cb0 cb1 b_2) [])) rfl (hb hby at_316) (by decide) (by decide)
  obtain ⟨b_7, g_7⟩ : ∃ z, z = T_6.heap.size := ⟨_, rfl⟩
  rw [← g_7] at A_7 D_7 st_7
  have g_b_7 : n0 ≤ b_7 := Nat.le_trans Z_6 (Nat.le_of_eq g_7.symm)
  have sz_b_7 : h0.size ≤ b_7 := Nat.le_trans K_6.1 (Nat.le_of_eq g_7.symm)
  have Z_7 : n0 ≤ h_7.size := (Nat.le_trans Z_6 E_7.1)
  have K_7 : Keep h0 h_7 [] := K_6.ext E_7
  have hk_7 : _ ≤ h_7.size := Nat.le_trans hk_6 E_7.1
  have Ca_7 := CHr.ext E_7 CR_6.1
  have CR_7 := CR_6.trans Ca_7
  have F_name_b_7__7 : Fld Z h_7 b_7 "com/example/rolling_rung/rollingrung/schema/Field" "name" "Ljava/lang/String;" .null := D_7 (Or.inr (ow hw 61 rfl)) (ty := (.object "java/lang/String")) (by decide)
  have F_number_b_7__7 : Fld Z h_7 b_7 "com/example/rolling_rung/rollingrung/schema/Field" "number" "I" (.int (0 : Int32)) := D_7 (Or.inr (ow hw 63 rfl)) (ty := .int) (by decide)
  have F_type_b_7__7 : Fld Z h_7 b_7 "com/example/rolling_rung/rollingrung/schema/Field" "type" "Lcom/example/rolling_rung/rollingrung/schema/FieldType;" .null := D_7 (Or.inr (ow hw 65 rfl)) (ty := (.object "com/example/rolling_rung/rollingrung/schema/FieldType")) (by decide)
  have F_required_b_7__7 : Fld Z h_7 b_7 "com/example/rolling_rung/rollingrung/schema/Field" "required" "Z" (.int (0 : Int32)) := D_7 (Or.inr (ow hw 67 rfl)) (ty := .boolean) (by decide)
  have F_repeated_b_7__7 : Fld Z h_7 b_7 "com/example/rolling_rung/rollingrung/schema/Field" "repeated" "Z" (.int (0 : Int32)) := D_7 (Or.inr (ow hw 69 rfl)) (ty := .boolean) (by decide)
  have F_state_b_7__7 : Fld Z h_7 b_7 "com/example/rolling_rung/rollingrung/schema/Field" "state" "Lcom/example/rolling_rung/rollingrung/schema/ElementState;" .null := D_7 (Or.inr (ow hw 71 rfl)) (ty := (.object "com/example/rolling_rung/rollingrung/schema/ElementState")) (by decide)
  have St_5_1 := ((own_sta_keep (own_sta_keep ((own_sta_keep S_String_COMPACT_STRINGS Kc_1 all0).ext E_2) Kc_3 all0) Kc_6 (allS (own_exa_ns (A_2.keep Kc_3)) all0)).ext E_7)
  obtain ⟨_, _, ⟨T_8, L_8, k_8, n_8⟩, -, Xc_8, hSc_8, hgr_8, ⟨Lc_8, hQ_8, l_8, y_8, z_8, CHc_8⟩, st_8⟩ := callSS X_7 hx (y := MN9) hown_6 (mvT hZ_6 (ow hw 6 rfl)) (mvT hZ_6 (ow hw 7 rfl)) (mvT hZ_6 (ow hw 8 rfl)) (mvT hZ_6 (ow hw 9 rfl)) (by decide) (backOfSH (W := 2) (rm_mk2 l Z a0 hw [] cs cb0 cb1 h_7 n0 Z_7 St_5_1 hcs hq_cb0 hq_cb1) hZ_6 (ow hw 9 rfl) (ow hw 8 rfl) (by decide) (by decide) (own_EW hw) CR_7.1) (g := (mkF mM 326 (lc65 p1 p2 p3 p4 sn cn ta tb qa qb ra rb sa sb nb ca0 ca1 cb0 cb1 b_2) [(.int cb1), (.int cb0), (.int (2 : Int32)), (.ref b_7), (.ref b_7)])) rfl (by rw [hml]; rfl) (argsL := [(.int (2 : Int32)), (.int cb0), (.int cb1)]) (rest := [(.ref b_7), (.ref b_7)]) (lenOf pd_9 rfl) rfl (by show 2 * 0 + _ ≤ _; exact Nat.le_of_eq rfl) (hb hby at_326) (fun _ _ => ⟨rfl, e_7, (by decide : 14 + 3 ≤ _), (by decide : 88 + 8 ≤ _)⟩)
  dsimp only [Pt.U, Pt.locs, Pt.cells, Pt.slots] at Xc_8 hSc_8 hgr_8 l_8 y_8 z_8 st_8 hQ_8 CHc_8
  subst l_8 y_8 z_8
  obtain ⟨X_8, hS_8, hZ_8, hown_8⟩ := rebS hS_6 (show _ ≤ T_7.heap.size by rw [e_7]; exact hk_7) Xc_8 hSc_8 hgr_8 hZ_6 hown_6
  obtain ⟨g__8, ⟨d__8, ⟨kd__8, ⟨rfl, N_8q, Kc_8, pfsz_g_8, pfsz_d_8, pfE_g_8, pfF_value_g_8, pfF_coder_g_8, pfV_d_8⟩⟩⟩⟩ := hQ_8
  have Z_8 : n0 ≤ T_8.heap.size := (Nat.le_trans Z_7 Kc_8.1)
  have K_8 : Keep h0 T_8.heap [] := K_7.trans Kc_8 all0
  have Ca_8 := CHc_8
  have CR_8 := CR_7.trans Ca_8
  have hk_8 : _ ≤ T_8.heap.size := Nat.le_refl _
  have sz_g__8 : h0.size ≤ g__8 := Nat.le_trans K_7.1 pfsz_g_8
  have g_g__8 : n0 ≤ g__8 := Nat.le_trans Z_7 pfsz_g_8
  have sz_d__8 : h0.size ≤ d__8 := Nat.le_trans K_7.1 pfsz_d_8
  have g_d__8 : n0 ≤ d__8 := Nat.le_trans Z_7 pfsz_d_8
  have N_8 := Fr.app N_6 N_8q
  have St_6_3 := (own_sta_keep ((own_sta_keep St_3_3 Kc_6 (allS (own_exa_ns (A_2.keep Kc_3)) all0)).ext E_7) Kc_8 all0)
  have St_6_4 := (own_sta_keep ((own_sta_keep St_3_4 Kc_6 (allS (own_exa_ns (A_2.keep Kc_3)) all0)).ext E_7) Kc_8 all0)
  have St_6_5 := (own_sta_keep ((own_sta_keep St_3_5 Kc_6 (allS (own_exa_ns (A_2.keep Kc_3)) all0)).ext E_7) Kc_8 all0)
  have St_6_6 := (own_sta_keep ((own_sta_keep St_3_6 Kc_6 (allS (own_exa_ns (A_2.keep Kc_3)) all0)).ext E_7) Kc_8 all0)
  have St_6_7 := (own_sta_keep ((own_sta_keep St_3_7 Kc_6 (allS (own_exa_ns (A_2.keep Kc_3)) all0)).ext E_7) Kc_8 all0)
  have St_6_8 := (own_sta_keep ((own_sta_keep St_3_8 Kc_6 (allS (own_exa_ns (A_2.keep Kc_3)) all0)).ext E_7) Kc_8 all0)
  have St_6_9 := (own_sta_keep ((own_sta_keep St_3_9 Kc_6 (allS (own_exa_ns (A_2.keep Kc_3)) all0)).ext E_7) Kc_8 all0)
  have St_6_10 := (own_sta_keep ((own_sta_keep St_3_10 Kc_6 (allS (own_exa_ns (A_2.keep Kc_3)) all0)).ext E_7) Kc_8 all0)
  have St_6_11 := (own_sta_keep ((own_sta_keep St_3_11 Kc_6 (allS (own_exa_ns (A_2.keep Kc_3)) all0)).ext E_7) Kc_8 all0)
  obtain ⟨_, _, ⟨T_9, L_9, k_9, n_9⟩, -, X_9, ⟨Lc_9, hQ_9, l_9, y_9, z_9⟩, st_9⟩ := Jvm.LawKit.callS X_8 hx (y := MN10) hown_8 (mvT hZ_8 (ow hw 32 rfl)) (mvT hZ_8 (ow hw 33 rfl)) (mvT hZ_8 (ow hw 8 rfl)) (mvT hZ_8 (ow hw 34 rfl)) (by decide) (backOf (W := 4) (rm_typ l Z a0 hw [] tb t0 t1 t2 t3 t4 t5 t6 t7 t8 T_8.heap n0 Z_8 St_6_3 St_6_4 St_6_5 St_6_6 St_6_7 St_6_8 St_6_9 St_6_10 St_6_11) hZ_8 (ow hw 34 rfl) (ow hw 8 rfl) (by decide) (by decide)) (g := (mkF mM 333 (lc65 p1 p2 p3 p4 sn cn ta tb qa qb ra rb sa sb nb ca0 ca1 cb0 cb1 b_2) [(.int tb), (.int nb), (.ref g__8), (.ref b_7), (.ref b_7)])) rfl (by rw [hml]; rfl) (argsL := [(.int tb)]) (rest := [(.int nb), (.ref g__8), (.ref b_7), (.ref b_7)]) (lenOf pd_10 rfl) rfl (by show 2 * 0 + _ ≤ _; exact Nat.le_of_eq rfl) (hb hby at_333) (fun _ _ => ⟨rfl, rfl, (by decide : 17 + 0 ≤ _), (by decide : 96 + 0 ≤ _)⟩)
  dsimp only [Pt.U, Pt.locs, Pt.cells, Pt.slots] at X_9 l_9 y_9 z_9 st_9 hQ_9
  subst l_9 y_9 z_9
  obtain ⟨rfl, N_9q, eh_9⟩ := hQ_9
  have N_9 := Fr.app N_8 N_9q
  have St_6_12 := (own_sta_keep ((own_sta_keep St_3_12 Kc_6 (allS (own_exa_ns (A_2.keep Kc_3)) all0)).ext E_7) Kc_8 all0)
  have St_6_13 := (own_sta_keep ((own_sta_keep St_3_13 Kc_6 (allS (own_exa_ns (A_2.keep Kc_3)) all0)).ext E_7) Kc_8 all0)
  have St_6_14 := (own_sta_keep ((own_sta_keep St_3_14 Kc_6 (allS (own_exa_ns (A_2.keep Kc_3)) all0)).ext E_7) Kc_8 all0)
  have St_6_15 := (own_sta_keep ((own_sta_keep St_3_15 Kc_6 (allS (own_exa_ns (A_2.keep Kc_3)) all0)).ext E_7) Kc_8 all0)
  obtain ⟨_, _, ⟨T_10, L_10, k_10, n_10⟩, -, X_10, ⟨Lc_10, hQ_10, l_10, y_10, z_10⟩, st_10⟩ := Jvm.LawKit.callS X_9 hx (y := MN11) hown_8 (mvT hZ_8 (ow hw 38 rfl)) (mvT hZ_8 (ow hw 39 rfl)) (mvT hZ_8 (ow hw 8 rfl)) (mvT hZ_8 (ow hw 40 rfl)) (by decide) (backOf (W := 7) (rm_sta l Z a0 hw [] sb es0 es1 es2 es3 T_8.heap n0 Z_8 St_6_12 St_6_13 St_6_14 St_6_15) hZ_8 (ow hw 40 rfl) (ow hw 8 rfl) (by decide) (by decide)) (g := (mkF mM 342 (lc65 p1 p2 p3 p4 sn cn ta tb qa qb ra rb sa sb nb ca0 ca1 cb0 cb1 b_2) [(.int sb), (.int rb), (.int qb), (.ref (own_ty tb t0 t1 t2 t3 t4 t5 t6 t7 t8)), (.int nb), (.ref g__8), (.ref b_7), (.ref b_7)])) rfl (by rw [hml]; rfl) (argsL := [(.int sb)]) (rest := [(.int rb), (.int qb), (.ref (own_ty tb t0 t1 t2 t3 t4 t5 t6 t7 t8)), (.int nb), (.ref g__8), (.ref b_7), (.ref b_7)]) (lenOf pd_11 rfl) rfl (by show 2 * 0 + _ ≤ _; exact Nat.le_of_eq rfl) (hb hby at_342) (fun _ _ => ⟨rfl, eh_9, (by decide : 17 + 0 ≤ _), (by decide : 96 + 0 ≤ _)⟩)
  dsimp only [Pt.U, Pt.locs, Pt.cells, Pt.slots] at X_10 l_10 y_10 z_10 st_10 hQ_10
  subst l_10 y_10 z_10
  obtain ⟨rfl, N_10q, eh_10⟩ := hQ_10
  have N_10 := Fr.app N_9 N_10q
  obtain ⟨_, _, ⟨T_11, L_11, k_11, n_11⟩, -, Xc_11, hSc_11, hgr_11, ⟨Lc_11, hQ_11, l_11, y_11, z_11, CHc_11⟩, st_11⟩ := X_10.specialBackS hx (y := MN12) rfl hown_8 (mvT hZ_8 (ow hw 44 rfl)) (mvT hZ_8 (ow hw 45 rfl)) (mvT hZ_8 (ow hw 46 rfl)) (by decide) (backOfSH (W := 1) (rm_fini l Z a0 hw [] b_7 g__8 nb (own_ty tb t0 t1 t2 t3 t4 t5 t6 t7 t8) qb rb (own_st sb es0 es1 es2 es3) T_8.heap n0 Z_8 (F_name_b_7__7.keep Kc_8 nin0) (F_number_b_7__7.keep Kc_8 nin0) (F_type_b_7__7.keep Kc_8 nin0) (F_required_b_7__7.keep Kc_8 nin0) (F_repeated_b_7__7.keep Kc_8 nin0) (F_state_b_7__7.keep Kc_8 nin0) (A_7.keep Kc_8) g_b_7) hZ_8 (ow hw 46 rfl) (ow hw 5 rfl) (by decide) (by decide) (own_EW hw) CR_8.1) (g := (mkF mM 345 (lc65 p1 p2 p3 p4 sn cn ta tb qa qb ra rb sa sb nb ca0 ca1 cb0 cb1 b_2) [(.ref (own_st sb es0 es1 es2 es3)), (.int rb), (.int qb), (.ref (own_ty tb t0 t1 t2 t3 t4 t5 t6 t7 t8)), (.int nb), (.ref g__8), (.ref b_7), (.ref b_7)])) rfl (by rw [hml]; rfl) (Steps.refl _) (a := b_7) (argsL := [(.ref g__8), (.int nb), (.ref (own_ty tb t0 t1 t2 t3 t4 t5 t6 t7 t8)), (.int qb), (.int rb), (.ref (own_st sb es0 es1 es2 es3))]) (rest := [(.ref b_7)]) (lenOf pd_12 rfl) rfl (by show 2 * 0 + _ ≤ _; exact Nat.le_of_eq rfl) (hb hby at_345) (fun _ _ => ⟨rfl, eh_10, (by decide : 17 + 6 ≤ _), (by decide : 96 + 64 ≤ _)⟩)
  dsimp only [Pt.U, Pt.locs, Pt.cells, Pt.slots] at Xc_11 hSc_11 hgr_11 l_11 y_11 z_11 st_11 hQ_11 CHc_11
  subst l_11 y_11 z_11
  obtain ⟨X_11, hS_11, hZ_11, hown_11⟩ := rebS hS_8 (show _ ≤ T_10.heap.size by rw [eh_10]; exact hk_8) Xc_11 hSc_11 hgr_11 hZ_8 hown_8
  obtain ⟨rfl, N_11q, Kc_11, pfF_name_a_11, pfF_number_a_11, pfF_type_a_11, pfF_required_a_11, pfF_repeated_a_11, pfF_state_a_11, pfE_a_11⟩ := hQ_11
  have Z_11 : n0 ≤ T_11.heap.size := (Nat.le_trans Z_8 Kc_11.1)
  have K_11 : Keep h0 T_11.heap [] := K_8.trans Kc_11 (allS (Or.inr sz_b_7) all0)
  have Ca_11 := CHc_11
  have CR_11 := CR_8.trans Ca_11
  have hk_11 : _ ≤ T_11.heap.size := Nat.le_refl _
  have N_11 := Fr.app N_10 N_11q
  have St_7_1 := (own_sta_keep (own_sta_keep St_5_1 Kc_8 all0) Kc_11 (allS (own_exa_ns (A_7.keep Kc_8)) all0))
  obtain ⟨cq_12, kq_12, q_12a, q_12b, q_12c⟩ := isOf hZ_11 rfl (((pfE_a_6.ext E_7).keep Kc_8).keep Kc_11)
  obtain ⟨_, _, ⟨T_12, L_12, k_12, n_12⟩, -, X_12, ⟨Lc_12, hQ_12, l_12, y_12, z_12⟩, st_12⟩ := X_11.virtualBack hx (y := MN13) (z := MN13) hown_11 (mvT hZ_11 (ow hw 76 rfl)) (mvT hZ_11 (ow hw 77 rfl)) (notFace_of_selects (args := #[]) (mvT hZ_11 (ow hw 79 rfl))) (mvT hZ_11 (ow hw 79 rfl)) (mvT hZ_11 (ow hw 78 rfl)) (by decide) (backOf (W := 0) (rm_sd l Z a0 hw [] b_2 b_7 g__3 g__8 p1 (own_ty ta t0 t1 t2 t3 t4 t5 t6 t7 t8) (nar .boolean qa) (nar .boolean ra) nb (own_ty tb t0 t1 t2 t3 t4 t5 t6 t7 t8) (nar .boolean qb) (nar .boolean rb) d__3 d__8 (0 : Int32) cs T_11.heap n0 Z_11 (((pfF_name_a_6.ext E_7).keep Kc_8 nin0).keep Kc_11 (ninS (Nat.ne_of_lt (Nat.lt_of_lt_of_le pfE_a_6.lt (Nat.le_of_eq g_7.symm))) nin0)) (((pfF_number_a_6.ext E_7).keep Kc_8 nin0).keep Kc_11 (ninS (Nat.ne_of_lt (Nat.lt_of_lt_of_le pfE_a_6.lt (Nat.le_of_eq g_7.symm))) nin0)) (((pfF_type_a_6.ext E_7).keep Kc_8 nin0).keep Kc_11 (ninS (Nat.ne_of_lt (Nat.lt_of_lt_of_le pfE_a_6.lt (Nat.le_of_eq g_7.symm))) nin0)) (((pfF_required_a_6.ext E_7).keep Kc_8 nin0).keep Kc_11 (ninS (Nat.ne_of_lt (Nat.lt_of_lt_of_le pfE_a_6.lt (Nat.le_of_eq g_7.symm))) nin0)) (((pfF_repeated_a_6.ext E_7).keep Kc_8 nin0).keep Kc_11 (ninS (Nat.ne_of_lt (Nat.lt_of_lt_of_le pfE_a_6.lt (Nat.le_of_eq g_7.symm))) nin0)) pfF_name_a_11 pfF_number_a_11 pfF_type_a_11 pfF_required_a_11 pfF_repeated_a_11 ((((pfF_value_g_3.keep Kc_6 (ninS (Ne.symm (Nat.ne_of_lt (Nat.lt_of_lt_of_le A_2.lt pfsz_g_3))) nin0)).ext E_7).keep Kc_8 nin0).keep Kc_11 (ninS (Nat.ne_of_lt (Nat.lt_of_lt_of_le (pfE_g_3.keep Kc_6).lt (Nat.le_of_eq g_7.symm))) nin0)) ((((pfF_coder_g_3.keep Kc_6 (ninS (Ne.symm (Nat.ne_of_lt (Nat.lt_of_lt_of_le A_2.lt pfsz_g_3))) nin0)).ext E_7).keep Kc_8 nin0).keep Kc_11 (ninS (Nat.ne_of_lt (Nat.lt_of_lt_of_le (pfE_g_3.keep Kc_6).lt (Nat.le_of_eq g_7.symm))) nin0)) ((((pfE_g_3.keep Kc_6).ext E_7).keep Kc_8).keep Kc_11) (pfF_value_g_8.keep Kc_11 (ninS (Ne.symm (Nat.ne_of_lt (Nat.lt_of_lt_of_le A_7.lt pfsz_g_8))) nin0)) (pfF_coder_g_8.keep Kc_11 (ninS (Ne.symm (Nat.ne_of_lt (Nat.lt_of_lt_of_le A_7.lt pfsz_g_8))) nin0)) (pfE_g_8.keep Kc_11) St_7_1 hcs (rm_leq02 l Z a0 hw [] d__3 kd__3 d__8 kd__8 (nar .byte ((nar .char cb0).toInt8.toInt32)) (nar .byte ((nar .char cb1).toInt8.toInt32)) T_11.heap n0 Z_11 ((((pfV_d_3.keep Kc_6 (ninS (Ne.symm (Exa.neArv (A_2.keep Kc_3) pfV_d_3 (ow hw 4 rfl))) nin0)).ext E_7).keep Kc_8 nin0).keep Kc_11 (ninS (Nat.ne_of_lt (Nat.lt_of_lt_of_le (pfV_d_3.keep Kc_6 (ninS (Ne.symm (Exa.neArv (A_2.keep Kc_3) pfV_d_3 (ow hw 4 rfl))) nin0)).lt (Nat.le_of_eq g_7.symm))) nin0)) (pfV_d_8.keep Kc_11 (ninS (Ne.symm (Nat.ne_of_lt (Nat.lt_of_lt_of_le A_7.lt pfsz_d_8))) nin0))) (Nat.ne_of_lt (Nat.lt_of_lt_of_le ((pfE_g_3.keep Kc_6).ext E_7).lt pfsz_g_8))) hZ_11 (ow hw 80 rfl) (ow hw 5 rfl) (by decide) (by decide)) q_12a q_12c (g := (mkF mM 433 (lc68 p1 p2 p3 p4 sn cn ta tb qa qb ra rb sa sb nb ca0 ca1 cb0 cb1 b_2 b_7) [(.ref b_7), (.ref b_2)])) rfl (by rw [hml]; rfl) (Steps.refl _) (argsL := [(.ref b_7)]) (rest := []) (lenOf pd_13 rfl) rfl (by show 2 * 0 + _ ≤ _; exact Nat.le_of_eq rfl) (hb hby at_433) (fun _ _ => ⟨rfl, rfl, (by decide : 23 + 0 ≤ _), (by decide : 160 + 0 ≤ _)⟩)
  dsimp only [Pt.U, Pt.locs, Pt.cells, Pt.slots] at X_12 l_12 y_12 z_12 st_12 hQ_12
  subst l_12 y_12 z_12
  obtain ⟨rfl, N_12q, eh_12⟩ := hQ_12
  have N_12 := Fr.app N_11 N_12q
  obtain ⟨fs, hr, hrun, hended, hRE⟩ := X_12.leaveW hS_11 (show _ ≤ T_12.heap.size by rw [eh_12]; exact hk_11) (v := some (.int (1 : Int32))) (fun h => by rw [Bd.returns] at h; cases h)
  refine ⟨_, _, pre0 _ ?_, hrun, hended, _, _, rfl, ?_, ⟨_, rfl⟩, hRE.2.1, hRE.2.2.1, hRE.2.2.2.mono (by decide) (by decide)⟩
  · show oS pP eE below s₁ (mkF mM 0 (lc36 p1 p2 p3 p4) []) _
    refine st_1 _ ?_
    show oS pP eE below T_1 (mkF mM 283 (lc64 p1 p2 p3 p4 sn cn ta tb qa qb ra rb sa sb nb ca0 ca1 cb0 cb1) []) _
    refine st_2 _ ?_
    show oS pP eE below T_2 (mkF mM 286 (lc64 p1 p2 p3 p4 sn cn ta tb qa qb ra rb sa sb nb ca0 ca1 cb0 cb1) [(.ref b_2)]) _
    refine XS.dup X_2.here hx rfl (hb hby at_286) rfl rfl ?_
    refine XS.iload X_2.here hx rfl (hb hby at_287) rfl ?_
    refine XS.iload X_2.here hx rfl (hb hby at_289) rfl ?_
    refine XS.iload X_2.here hx rfl (hb hby at_291) rfl ?_
    show oS pP eE below T_2 (mkF mM 293 (lc64 p1 p2 p3 p4 sn cn ta tb qa qb ra rb sa sb nb ca0 ca1 cb0 cb1) [(.int ca1), (.int ca0), (.int (0 : Int32)), (.ref b_2), (.ref b_2)]) _
    refine st_3.trans ?_
    show oS pP eE below T_3 (mkF mM 296 (lc64 p1 p2 p3 p4 sn cn ta tb qa qb ra rb sa sb nb ca0 ca1 cb0 cb1) [(.ref g__3), (.ref b_2), (.ref b_2)]) _
    refine XS.iloadN X_3.here hx rfl (hb hby at_296) rfl ?_
    refine XS.iload X_3.here hx rfl (hb hby at_297) rfl ?_
    show oS pP eE below T_3 (mkF mM 299 (lc64 p1 p2 p3 p4 sn cn ta tb qa qb ra rb sa sb nb ca0 ca1 cb0 cb1) [(.int ta), (.int p1), (.ref g__3), (.ref b_2), (.ref b_2)]) _
    refine st_4 _ ?_
    show oS pP eE below T_4 (mkF mM 302 (lc64 p1 p2 p3 p4 sn cn ta tb qa qb ra rb sa sb nb ca0 ca1 cb0 cb1) [(.ref (own_ty ta t0 t1 t2 t3 t4 t5 t6 t7 t8)), (.int p1), (.ref g__3), (.ref b_2), (.ref b_2)]) _
    refine XS.iload X_4.here hx rfl (hb hby at_302) rfl ?_
    refine XS.iload X_4.here hx rfl (hb hby at_304) rfl ?_
    refine XS.iload X_4.here hx rfl (hb hby at_306) rfl ?_
    show oS pP eE below T_4 (mkF mM 308 (lc64 p1 p2 p3 p4 sn cn ta tb qa qb ra rb sa sb nb ca0 ca1 cb0 cb1) [(.int sa), (.int ra), (.int qa), (.ref (own_ty ta t0 t1 t2 t3 t4 t5 t6 t7 t8)), (.int p1), (.ref g__3), (.ref b_2), (.ref b_2)]) _
    refine st_5 _ ?_
    show oS pP eE below T_5 (mkF mM 311 (lc64 p1 p2 p3 p4 sn cn ta tb qa qb ra rb sa sb nb ca0 ca1 cb0 cb1) [(.ref (own_st sa es0 es1 es2 es3)), (.int ra), (.int qa), (.ref (own_ty ta t0 t1 t2 t3 t4 t5 t6 t7 t8)), (.int p1), (.ref g__3), (.ref b_2), (.ref b_2)]) _
    refine st_6.trans ?_
    show oS pP eE below T_6 (mkF mM 314 (lc64 p1 p2 p3 p4 sn cn ta tb qa qb ra rb sa sb nb ca0 ca1 cb0 cb1) [(.ref b_2)]) _
    refine XS.astore X_6.here hx rfl (hb hby at_314) rfl rfl (l' := (lc65 p1 p2 p3 p4 sn cn ta tb qa qb ra rb sa sb nb ca0 ca1 cb0 cb1 b_2)) rfl ?_
    show oS pP eE below T_6 (mkF mM 316 (lc65 p1 p2 p3 p4 sn cn ta tb qa qb ra rb sa sb nb ca0 ca1 cb0 cb1 b_2) []) _
    refine st_7 _ ?_
    show oS pP eE below T_7 (mkF mM 319 (lc65 p1 p2 p3 p4 sn cn ta tb qa qb ra rb sa sb nb ca0 ca1 cb0 cb1 b_2) [(.ref b_7)]) _
    refine XS.dup X_7.here hx rfl (hb hby at_319) rfl rfl ?_
    refine XS.iload X_7.here hx rfl (hb hby at_320) rfl ?_
    refine XS.iload X_7.here hx rfl (hb hby at_322) rfl ?_
    refine XS.iload X_7.here hx rfl (hb hby at_324) rfl ?_
    show oS pP eE below T_7 (mkF mM 326 (lc65 p1 p2 p3 p4 sn cn ta tb qa qb ra rb sa sb nb ca0 ca1 cb0 cb1 b_2) [(.int cb1), (.int cb0), (.int (2 : Int32)), (.ref b_7), (.ref b_7)]) _
    refine st_8.trans ?_
    show oS pP eE below T_8 (mkF mM 329 (lc65 p1 p2 p3 p4 sn cn ta tb qa qb ra rb sa sb nb ca0 ca1 cb0 cb1 b_2) [(.ref g__8), (.ref b_7), (.ref b_7)]) _
    refine XS.iload X_8.here hx rfl (hb hby at_329) rfl ?_
    refine XS.iload X_8.here hx rfl (hb hby at_331) rfl ?_
    show oS pP eE below T_8 (mkF mM 333 (lc65 p1 p2 p3 p4 sn cn ta tb qa qb ra rb sa sb nb ca0 ca1 cb0 cb1 b_2) [(.int tb), (.int nb), (.ref g__8), (.ref b_7), (.ref b_7)]) _
    refine st_9 _ ?_
    show oS pP eE below T_9 (mkF mM 336 (lc65 p1 p2 p3 p4 sn cn ta tb qa qb ra rb sa sb nb ca0 ca1 cb0 cb1 b_2) [(.ref (own_ty tb t0 t1 t2 t3 t4 t5 t6 t7 t8)), (.int nb), (.ref g__8), (.ref b_7), (.ref b_7)]) _
    refine XS.iload X_9.here hx rfl (hb hby at_336) rfl ?_
    refine XS.iload X_9.here hx rfl (hb hby at_338) rfl ?_
    refine XS.iload X_9.here hx rfl (hb hby at_340) rfl ?_
    show oS pP eE below T_9 (mkF mM 342 (lc65 p1 p2 p3 p4 sn cn ta tb qa qb ra rb sa sb nb ca0 ca1 cb0 cb1 b_2) [(.int sb), (.int rb), (.int qb), (.ref (own_ty tb t0 t1 t2 t3 t4 t5 t6 t7 t8)), (.int nb), (.ref g__8), (.ref b_7), (.ref b_7)]) _
    refine st_10 _ ?_
    show oS pP eE below T_10 (mkF mM 345 (lc65 p1 p2 p3 p4 sn cn ta tb qa qb ra rb sa sb nb ca0 ca1 cb0 cb1 b_2) [(.ref (own_st sb es0 es1 es2 es3)), (.int rb), (.int qb), (.ref (own_ty tb t0 t1 t2 t3 t4 t5 t6 t7 t8)), (.int nb), (.ref g__8), (.ref b_7), (.ref b_7)]) _
    refine st_11.trans ?_
    show oS pP eE below T_11 (mkF mM 348 (lc65 p1 p2 p3 p4 sn cn ta tb qa qb ra rb sa sb nb ca0 ca1 cb0 cb1 b_2) [(.ref b_7)]) _
    refine XS.astore X_11.here hx rfl (hb hby at_348) rfl rfl (l' := (lc66 p1 p2 p3 p4 sn cn ta tb qa qb ra rb sa sb nb ca0 ca1 cb0 cb1 b_2 b_7)) rfl ?_
    refine XS.iload X_11.here hx rfl (hb hby at_350) rfl ?_
    refine XS.iload X_11.here hx rfl (hb hby at_352) rfl ?_
    refine XS.icmpYes X_11.here hx rfl (pc0 := 354) (pc' := 387) rfl (hb hby at_354) rfl (by decide) (by decide) (by decide) ?_
    refine XS.iconst X_11.here hx rfl (hb hby at_387) ?_
    refine XS.istore X_11.here hx rfl (hb hby at_388) rfl (l' := (lc67 p1 p2 p3 p4 sn cn ta tb qa qb ra rb sa sb nb ca0 ca1 cb0 cb1 b_2 b_7)) rfl ?_
    refine XS.iload X_11.here hx rfl (hb hby at_390) rfl ?_
    refine XS.ifYes X_11.here hx rfl (pc0 := 392) (pc' := 426) rfl (hb hby at_392) rfl (by decide) (by decide) (by decide) ?_
    refine XS.iconst X_11.here hx rfl (hb hby at_426) ?_
    refine XS.istore X_11.here hx rfl (hb hby at_427) rfl (l' := (lc68 p1 p2 p3 p4 sn cn ta tb qa qb ra rb sa sb nb ca0 ca1 cb0 cb1 b_2 b_7)) rfl ?_
    refine XS.aload X_11.here hx rfl (hb hby at_429) rfl rfl ?_
    refine XS.aload X_11.here hx rfl (hb hby at_431) rfl rfl ?_
    show oS pP eE below T_11 (mkF mM 433 (lc68 p1 p2 p3 p4 sn cn ta tb qa qb ra rb sa sb nb ca0 ca1 cb0 cb1 b_2 b_7) [(.ref b_7), (.ref b_2)]) _
    refine st_12.trans ?_
    show oS pP eE below T_12 (mkF mM 436 (lc68 p1 p2 p3 p4 sn cn ta tb qa qb ra rb sa sb nb ca0 ca1 cb0 cb1 b_2 b_7) [(.int (own_sd (own_nz (0 : Int32)) p1 nb (own_ty ta t0 t1 t2 t3 t4 t5 t6 t7 t8) (own_ty tb t0 t1 t2 t3 t4 t5 t6 t7 t8) (nar .boolean qa) (nar .boolean qb) (nar .boolean ra) (nar .boolean rb)))]) _
    refine XS.iload X_12.here hx rfl (hb hby at_436) rfl ?_
    refine XS.icmpNo X_12.here hx rfl (hb hby at_438) rfl (XT.ii_ne_f hfin) ?_
    refine XS.iconst X_12.here hx rfl (hb hby at_441) ?_
    refine XS.goto X_12.here hx rfl (pc0 := 442) (pc' := 446) rfl (hb hby at_442) (by decide) (by decide) ?_
    show oS pP eE below T_12 (mkF mM 446 (lc68 p1 p2 p3 p4 sn cn ta tb qa qb ra rb sa sb nb ca0 ca1 cb0 cb1 b_2 b_7) [(.int (1 : Int32))]) _
    exact retN X_12 hx (t := .boolean) Bd.returns (by simp) (hb hby at_446) hr
  · show Q_law02 Z p1 p2 p3 p4 sn cn qa qb ra rb ta sa sb ca0 ca1 tb nb cb0 cb1 t0 t1 t2 t3 t4 t5 t6 t7 t8 es0 es1 es2 es3 cs h0 n0 _ T_12.heap _
    exact ⟨rfl, N_12⟩
abbrev lc69 (p1 : Int32) (p2 : Int32) (p3 : Int64) (p4 : Int64) (sn : Int32) (cn : Int32) (ta : Int32) (tb : Int32) (qa : Int32) (qb : Int32) (ra : Int32) (rb : Int32) (sa : Int32) (sb : Int32) (nb : Int32) (ca0 : Int32) (ca1 : Int32) (cb0 : Int32) (cb1 : Int32) : Array Slot := #[.val (.int p1), .val (.int p2), .val (.long p3), .second, .val (.long p4), .second, .val (.int sn), .val (.int cn), .val (.int ta), .val (.int tb), .val (.int qa), .val (.int qb), .val (.int ra), .val (.int rb), .val (.int sa), .val (.int sb), .val (.int nb), .val (.int ca0), .val (.int ca1), .val (.int cb0), .val (.int cb1), .val (.int (1 : Int32)), .val (.int (0 : Int32)), .unset, .unset, .unset, .unset]
abbrev lc70 (p1 : Int32) (p2 : Int32) (p3 : Int64) (p4 : Int64) (sn : Int32) (cn : Int32) (ta : Int32) (tb : Int32) (qa : Int32) (qb : Int32) (ra : Int32) (rb : Int32) (sa : Int32) (sb : Int32) (nb : Int32) (ca0 : Int32) (ca1 : Int32) (cb0 : Int32) (cb1 : Int32) (b_2 : Addr) : Array Slot := #[.val (.int p1), .val (.int p2), .val (.long p3), .second, .val (.long p4), .second, .val (.int sn), .val (.int cn), .val (.int ta), .val (.int tb), .val (.int qa), .val (.int qb), .val (.int ra), .val (.int rb), .val (.int sa), .val (.int sb), .val (.int nb), .val (.int ca0), .val (.int ca1), .val (.int cb0), .val (.int cb1), .val (.int (1 : Int32)), .val (.int (0 : Int32)), .val (.ref b_2), .unset, .unset, .unset]
abbrev lc71 (p1 : Int32) (p2 : Int32) (p3 : Int64) (p4 : Int64) (sn : Int32) (cn : Int32) (ta : Int32) (tb : Int32) (qa : Int32) (qb : Int32) (ra : Int32) (rb : Int32) (sa : Int32) (sb : Int32) (nb : Int32) (ca0 : Int32) (ca1 : Int32) (cb0 : Int32) (cb1 : Int32) (b_2 : Addr) (b_7 : Addr) : Array Slot := #[.val (.int p1), .val (.int p2), .val (.long p3), .second, .val (.long p4), .second, .val (.int sn), .val (.int cn), .val (.int ta), .val (.int tb), .val (.int qa), .val (.int qb), .val (.int ra), .val (.int rb), .val (.int sa), .val (.int sb), .val (.int nb), .val (.int ca0), .val (.int ca1), .val (.int cb0), .val (.int cb1), .val (.int (1 : Int32)), .val (.int (0 : Int32)), .val (.ref b_2), .val (.ref b_7), .unset, .unset]
abbrev lc72 (p1 : Int32) (p2 : Int32) (p3 : Int64) (p4 : Int64) (sn : Int32) (cn : Int32) (ta : Int32) (tb : Int32) (qa : Int32) (qb : Int32) (ra : Int32) (rb : Int32) (sa : Int32) (sb : Int32) (nb : Int32) (ca0 : Int32) (ca1 : Int32) (cb0 : Int32) (cb1 : Int32) (b_2 : Addr) (b_7 : Addr) : Array Slot := #[.val (.int p1), .val (.int p2), .val (.long p3), .second, .val (.long p4), .second, .val (.int sn), .val (.int cn), .val (.int ta), .val (.int tb), .val (.int qa), .val (.int qb), .val (.int ra), .val (.int rb), .val (.int sa), .val (.int sb), .val (.int nb), .val (.int ca0), .val (.int ca1), .val (.int cb0), .val (.int cb1), .val (.int (1 : Int32)), .val (.int (0 : Int32)), .val (.ref b_2), .val (.ref b_7), .val (.int (0 : Int32)), .unset]
abbrev lc73 (p1 : Int32) (p2 : Int32) (p3 : Int64) (p4 : Int64) (sn : Int32) (cn : Int32) (ta : Int32) (tb : Int32) (qa : Int32) (qb : Int32) (ra : Int32) (rb : Int32) (sa : Int32) (sb : Int32) (nb : Int32) (ca0 : Int32) (ca1 : Int32) (cb0 : Int32) (cb1 : Int32) (b_2 : Addr) (b_7 : Addr) : Array Slot := #[.val (.int p1), .val (.int p2), .val (.long p3), .second, .val (.long p4), .second, .val (.int sn), .val (.int cn), .val (.int ta), .val (.int tb), .val (.int qa), .val (.int qb), .val (.int ra), .val (.int rb), .val (.int sa), .val (.int sb), .val (.int nb), .val (.int ca0), .val (.int ca1), .val (.int cb0), .val (.int cb1), .val (.int (1 : Int32)), .val (.int (0 : Int32)), .val (.ref b_2), .val (.ref b_7), .val (.int (0 : Int32)), .val (.int (0 : Int32))]
theorem ef_law10 (mM : MethodId) (x0 : Int32) (x1 : Int32) (x2 : Int64) (x3 : Int64) : entryFrame mM #[(.int x0), (.int x1), (.long x2), (.long x3)] maxLocals = mkF mM 0 #[.val (.int x0), .val (.int x1), .val (.long x2), .second, .val (.long x3), .second, .unset, .unset, .unset, .unset, .unset, .unset, .unset, .unset, .unset, .unset, .unset, .unset, .unset, .unset, .unset, .unset, .unset, .unset, .unset, .unset, .unset] [] := by first | (simp [entryFrame, mkF, argsToLocals, Value.category, maxLocals]; done) | rfl
def Q_law10 (Z : State) (p1 : Int32) (p2 : Int32) (p3 : Int64) (p4 : Int64) (sn : Int32) (cn : Int32) (qa : Int32) (qb : Int32) (ra : Int32) (rb : Int32) (ta : Int32) (sa : Int32) (sb : Int32) (ca0 : Int32) (ca1 : Int32) (tb : Int32) (nb : Int32) (cb0 : Int32) (cb1 : Int32) (t0 : Addr) (t1 : Addr) (t2 : Addr) (t3 : Addr) (t4 : Addr) (t5 : Addr) (t6 : Addr) (t7 : Addr) (t8 : Addr) (es0 : Addr) (es1 : Addr) (es2 : Addr) (es3 : Addr) (cs : Int32) (h0 : Heap) (n0 : Nat) (v_ : Option Value) (h_ : Heap) (L_ : List Loc) : Prop := v_ = some (.int (1 : Int32)) ∧ Fr n0 L_
set_option maxRecDepth 65536 in
set_option maxHeartbeats 40000000 in
theorem rm_law10 (l : Launch) (Z : State) (a0 : Array Value) (hw : ∀ d ∈ tables_1, d.before a0 Z = true) (ws : List Jvm.Cond) (p1 : Int32) (p2 : Int32) (p3 : Int64) (p4 : Int64) (sn : Int32) (cn : Int32) (qa : Int32) (qb : Int32) (ra : Int32) (rb : Int32) (ta : Int32) (sa : Int32) (sb : Int32) (ca0 : Int32) (ca1 : Int32) (tb : Int32) (nb : Int32) (cb0 : Int32) (cb1 : Int32) (t0 : Addr) (t1 : Addr) (t2 : Addr) (t3 : Addr) (t4 : Addr) (t5 : Addr) (t6 : Addr) (t7 : Addr) (t8 : Addr) (es0 : Addr) (es1 : Addr) (es2 : Addr) (es3 : Addr) (cs : Int32) (h0 : Heap) (n0 : Nat) (Z0 : n0 ≤ h0.size) (hEQ : own_eqs p1 p2 p3 p4 sn cn qa qb ra rb ta sa sb ca0 ca1 (1 : Int32) (0 : Int32) tb nb cb0 cb1) (S_String_COMPACT_STRINGS : Sta Z h0 "java/lang/String" "COMPACT_STRINGS" "Z" (.int cs)) (hcs : ¬ cs = 0) (S_FieldType_STRING : Sta Z h0 "com/example/rolling_rung/rollingrung/schema/FieldType" "STRING" "Lcom/example/rolling_rung/rollingrung/schema/FieldType;" (.ref t0)) (S_FieldType_BYTES : Sta Z h0 "com/example/rolling_rung/rollingrung/schema/FieldType" "BYTES" "Lcom/example/rolling_rung/rollingrung/schema/FieldType;" (.ref t1)) (S_FieldType_BOOL : Sta Z h0 "com/example/rolling_rung/rollingrung/schema/FieldType" "BOOL" "Lcom/example/rolling_rung/rollingrung/schema/FieldType;" (.ref t2)) (S_FieldType_INT32 : Sta Z h0 "com/example/rolling_rung/rollingrung/schema/FieldType" "INT32" "Lcom/example/rolling_rung/rollingrung/schema/FieldType;" (.ref t3)) (S_FieldType_INT64 : Sta Z h0 "com/example/rolling_rung/rollingrung/schema/FieldType" "INT64" "Lcom/example/rolling_rung/rollingrung/schema/FieldType;" (.ref t4)) (S_FieldType_SINT32 : Sta Z h0 "com/example/rolling_rung/rollingrung/schema/FieldType" "SINT32" "Lcom/example/rolling_rung/rollingrung/schema/FieldType;" (.ref t5)) (S_FieldType_SINT64 : Sta Z h0 "com/example/rolling_rung/rollingrung/schema/FieldType" "SINT64" "Lcom/example/rolling_rung/rollingrung/schema/FieldType;" (.ref t6)) (S_FieldType_DOUBLE : Sta Z h0 "com/example/rolling_rung/rollingrung/schema/FieldType" "DOUBLE" "Lcom/example/rolling_rung/rollingrung/schema/FieldType;" (.ref t7)) (S_FieldType_FLOAT : Sta Z h0 "com/example/rolling_rung/rollingrung/schema/FieldType" "FLOAT" "Lcom/example/rolling_rung/rollingrung/schema/FieldType;" (.ref t8)) (S_ElementState_ABSENT : Sta Z h0 "com/example/rolling_rung/rollingrung/schema/ElementState" "ABSENT" "Lcom/example/rolling_rung/rollingrung/schema/ElementState;" (.ref es0)) (S_ElementState_DELETE_ONLY : Sta Z h0 "com/example/rolling_rung/rollingrung/schema/ElementState" "DELETE_ONLY" "Lcom/example/rolling_rung/rollingrung/schema/ElementState;" (.ref es1)) (S_ElementState_WRITE_ONLY : Sta Z h0 "com/example/rolling_rung/rollingrung/schema/ElementState" "WRITE_ONLY" "Lcom/example/rolling_rung/rollingrung/schema/ElementState;" (.ref es2)) (S_ElementState_PUBLIC : Sta Z h0 "com/example/rolling_rung/rollingrung/schema/ElementState" "PUBLIC" "Lcom/example/rolling_rung/rollingrung/schema/ElementState;" (.ref es3)) (hq_ca0 : own_ch ca0) (hq_ca1 : own_ch ca1) (hq_cb0 : own_ch cb0) (hq_cb1 : own_ch cb1) (hfin : (own_sd (own_nz (0 : Int32)) p1 nb (own_ty ta t0 t1 t2 t3 t4 t5 t6 t7 t8) (own_ty tb t0 t1 t2 t3 t4 t5 t6 t7 t8) (nar .boolean qa) (nar .boolean qb) (nar .boolean ra) (nar .boolean rb)) = (0 : Int32)) :
    MetFree l x (head1 (Jvm.Cond.code x code maxLocals ret :: ws) room_1) (fun aa_ U_ => aa_ = #[(.int p1), (.int p2), (.long p3), (.long p4)] ∧ Z.Warmed39 U_.vm ∧ U_.heap = h0 ∧ CHv Z own_EL U_.vm h0) (fun _ _ _ _ _ => True) (fun _ U_ o_ U'_ => ∃ v_ L_, o_ = .returned v_ ∧ Q_law10 Z p1 p2 p3 p4 sn cn qa qb ra rb ta sa sb ca0 ca1 tb nb cb0 cb1 t0 t1 t2 t3 t4 t5 t6 t7 t8 es0 es1 es2 es3 cs h0 n0 v_ U'_.heap L_ ∧ ReturnedEndW U_ o_ U'_ L_ 23 158) := by
  refine MetFree.of_bodySF (plainFor_of_name pn_1) hisR ?_
  intro pP eE sS mM argsA below meth cC s₁ Bd hml0 hP hK
  obtain ⟨rfl, hZ, hh, hCH⟩ := hP
  have hx := Bd.exec
  have hby := Bd.bytes
  have hml : cC.maxLocals = 27 := hml0
  have hown : sS.vm.findClass "com/example/rolling_rung/rollingrung/schema/FieldSameDefinitionPinLaw" = some mM.cls := findClass_of_methodNamed Bd.named
  have hnm := (name_of_methodNamed Bd.named Bd.method).1
  have X0 : Stand pP l eE room_1 (sS.setVm sS.vm) mM #[(.int p1), (.int p2), (.long p3), (.long p4)] below meth cC s₁ [] 0 0 := Stand.of_body Bd
  have e0 : s₁.heap = h0 := by rw [← hh, Bd.state]; rfl
  have N0 := Fr.nil n0
  have pre0 : ∀ t_, Steps pP.tables eE below (s₁.setTop (mkF mM 0 #[.val (.int p1), .val (.int p2), .val (.long p3), .second, .val (.long p4), .second, .unset, .unset, .unset, .unset, .unset, .unset, .unset, .unset, .unset, .unset, .unset, .unset, .unset, .unset, .unset, .unset, .unset, .unset, .unset, .unset, .unset] [])) t_ → Steps pP.tables eE below (s₁.setTop (entryFrame mM #[(.int p1), (.int p2), (.long p3), (.long p4)] maxLocals)) t_ := fun t_ k_ => castTop (ef_law10 mM p1 p2 p3 p4) k_
  have hZ : Z.Warmed39 (sS.setVm sS.vm).vm := hZ
  have hown : (sS.setVm sS.vm).vm.findClass "com/example/rolling_rung/rollingrung/schema/FieldSameDefinitionPinLaw" = some mM.cls := hown
  have hS0 : sS.Since sS.vm 0 := (State.WarmedH.refl sS).since 0
  have hk0 : 0 ≤ h0.size := Nat.zero_le _
  have CR0 := CHr.refl hCH
  obtain ⟨T_1, h_1, L_1, X_1, e_1, N_1, Kc_1, st_1⟩ := pc_pre p1 p2 p3 p4 sn cn qa qb ra rb ta sa sb ca0 ca1 (1 : Int32) (0 : Int32) tb nb cb0 cb1 X0 hx hZ hw hby hml hown e0 N0 Z0 hEQ
  have Z_1 : n0 ≤ h_1.size := (Nat.le_trans Z0 Kc_1.1)
  have K_1 : Keep h0 h_1 [] := (Keep.refl h0 []).trans Kc_1 all0
  have hk_1 : _ ≤ h_1.size := Nat.le_trans hk0 Kc_1.1
  have Ca_1 := CHr.keep Kc_1 all0 CR0.1
  have CR_1 := CR0.trans Ca_1
  obtain ⟨T_2, h_2, X_2, e_2, E_2, A_2, D_2, -, st_2⟩ := newO X_1 hx hZ hown (ow hw 3 rfl) (ow hw 4 rfl) (ow hw 5 rfl) e_1 (g := (mkF mM 283 (lc69 p1 p2 p3 p4 sn cn ta tb qa qb ra rb sa sb nb ca0 ca1 cb0 cb1) [])) rfl (hb hby at_283) (by decide) (by decide)
  obtain ⟨b_2, g_2⟩ : ∃ z, z = h_1.size := ⟨_, rfl⟩
  rw [← g_2] at A_2 D_2 st_2
  have g_b_2 : n0 ≤ b_2 := Nat.le_trans Z_1 (Nat.le_of_eq g_2.symm)
  have sz_b_2 : h0.size ≤ b_2 := Nat.le_trans K_1.1 (Nat.le_of_eq g_2.symm)
  have Z_2 : n0 ≤ h_2.size := (Nat.le_trans Z_1 E_2.1)
  have K_2 : Keep h0 h_2 [] := K_1.ext E_2
  have hk_2 : _ ≤ h_2.size := Nat.le_trans hk_1 E_2.1
  have Ca_2 := CHr.ext E_2 CR_1.1
  have CR_2 := CR_1.trans Ca_2
  have F_name_b_2__2 : Fld Z h_2 b_2 "com/example/rolling_rung/rollingrung/schema/Field" "name" "Ljava/lang/String;" .null := D_2 (Or.inr (ow hw 61 rfl)) (ty := (.object "java/lang/String")) (by decide)
  have F_number_b_2__2 : Fld Z h_2 b_2 "com/example/rolling_rung/rollingrung/schema/Field" "number" "I" (.int (0 : Int32)) := D_2 (Or.inr (ow hw 63 rfl)) (ty := .int) (by decide)
  have F_type_b_2__2 : Fld Z h_2 b_2 "com/example/rolling_rung/rollingrung/schema/Field" "type" "Lcom/example/rolling_rung/rollingrung/schema/FieldType;" .null := D_2 (Or.inr (ow hw 65 rfl)) (ty := (.object "com/example/rolling_rung/rollingrung/schema/FieldType")) (by decide)
  have F_required_b_2__2 : Fld Z h_2 b_2 "com/example/rolling_rung/rollingrung/schema/Field" "required" "Z" (.int (0 : Int32)) := D_2 (Or.inr (ow hw 67 rfl)) (ty := .boolean) (by decide)
  have F_repeated_b_2__2 : Fld Z h_2 b_2 "com/example/rolling_rung/rollingrung/schema/Field" "repeated" "Z" (.int (0 : Int32)) := D_2 (Or.inr (ow hw 69 rfl)) (ty := .boolean) (by decide)
  have F_state_b_2__2 : Fld Z h_2 b_2 "com/example/rolling_rung/rollingrung/schema/Field" "state" "Lcom/example/rolling_rung/rollingrung/schema/ElementState;" .null := D_2 (Or.inr (ow hw 71 rfl)) (ty := (.object "com/example/rolling_rung/rollingrung/schema/ElementState")) (by decide)
  have St_2_1 := ((own_sta_keep S_String_COMPACT_STRINGS Kc_1 all0).ext E_2)
  obtain ⟨_, _, ⟨T_3, L_3, k_3, n_3⟩, -, Xc_3, hSc_3, hgr_3, ⟨Lc_3, hQ_3, l_3, y_3, z_3, CHc_3⟩, st_3⟩ := callSS X_2 hx (y := MN9) hown (mvT hZ (ow hw 6 rfl)) (mvT hZ (ow hw 7 rfl)) (mvT hZ (ow hw 8 rfl)) (mvT hZ (ow hw 9 rfl)) (by decide) (backOfSH (W := 2) (rm_mk1 l Z a0 hw [] cs ca0 ca1 h_2 n0 Z_2 St_2_1 hcs hq_ca0) hZ (ow hw 9 rfl) (ow hw 8 rfl) (by decide) (by decide) (own_EW hw) CR_2.1) (g := (mkF mM 293 (lc69 p1 p2 p3 p4 sn cn ta tb qa qb ra rb sa sb nb ca0 ca1 cb0 cb1) [(.int ca1), (.int ca0), (.int (1 : Int32)), (.ref b_2), (.ref b_2)])) rfl (by rw [hml]; rfl) (argsL := [(.int (1 : Int32)), (.int ca0), (.int ca1)]) (rest := [(.ref b_2), (.ref b_2)]) (lenOf pd_9 rfl) rfl (by show 2 * 0 + _ ≤ _; exact Nat.le_of_eq rfl) (hb hby at_293) (fun _ _ => ⟨rfl, e_2, (by decide : 1 + 3 ≤ _), (by decide : 6 + 6 ≤ _)⟩)
  dsimp only [Pt.U, Pt.locs, Pt.cells, Pt.slots] at Xc_3 hSc_3 hgr_3 l_3 y_3 z_3 st_3 hQ_3 CHc_3
  subst l_3 y_3 z_3
  obtain ⟨X_3, hS_3, hZ_3, hown_3⟩ := rebS hS0 (show _ ≤ T_2.heap.size by rw [e_2]; exact hk_2) Xc_3 hSc_3 hgr_3 hZ hown
  obtain ⟨g__3, ⟨d__3, ⟨kd__3, ⟨rfl, N_3q, Kc_3, pfsz_g_3, pfsz_d_3, pfE_g_3, pfF_value_g_3, pfF_coder_g_3, pfV_d_3⟩⟩⟩⟩ := hQ_3
  have Z_3 : n0 ≤ T_3.heap.size := (Nat.le_trans Z_2 Kc_3.1)
  have K_3 : Keep h0 T_3.heap [] := K_2.trans Kc_3 all0
  have Ca_3 := CHc_3
  have CR_3 := CR_2.trans Ca_3
  have hk_3 : _ ≤ T_3.heap.size := Nat.le_refl _
  have sz_g__3 : h0.size ≤ g__3 := Nat.le_trans K_2.1 pfsz_g_3
  have g_g__3 : n0 ≤ g__3 := Nat.le_trans Z_2 pfsz_g_3
  have sz_d__3 : h0.size ≤ d__3 := Nat.le_trans K_2.1 pfsz_d_3
  have g_d__3 : n0 ≤ d__3 := Nat.le_trans Z_2 pfsz_d_3
  have N_3 := Fr.app N_1 N_3q
  have St_3_3 := (own_sta_keep ((own_sta_keep S_FieldType_STRING Kc_1 all0).ext E_2) Kc_3 all0)
  have St_3_4 := (own_sta_keep ((own_sta_keep S_FieldType_BYTES Kc_1 all0).ext E_2) Kc_3 all0)
  have St_3_5 := (own_sta_keep ((own_sta_keep S_FieldType_BOOL Kc_1 all0).ext E_2) Kc_3 all0)
  have St_3_6 := (own_sta_keep ((own_sta_keep S_FieldType_INT32 Kc_1 all0).ext E_2) Kc_3 all0)
  have St_3_7 := (own_sta_keep ((own_sta_keep S_FieldType_INT64 Kc_1 all0).ext E_2) Kc_3 all0)
  have St_3_8 := (own_sta_keep ((own_sta_keep S_FieldType_SINT32 Kc_1 all0).ext E_2) Kc_3 all0)
  have St_3_9 := (own_sta_keep ((own_sta_keep S_FieldType_SINT64 Kc_1 all0).ext E_2) Kc_3 all0)
  have St_3_10 := (own_sta_keep ((own_sta_keep S_FieldType_DOUBLE Kc_1 all0).ext E_2) Kc_3 all0)
  have St_3_11 := (own_sta_keep ((own_sta_keep S_FieldType_FLOAT Kc_1 all0).ext E_2) Kc_3 all0)
  obtain ⟨_, _, ⟨T_4, L_4, k_4, n_4⟩, -, X_4, ⟨Lc_4, hQ_4, l_4, y_4, z_4⟩, st_4⟩ := Jvm.LawKit.callS X_3 hx (y := MN10) hown_3 (mvT hZ_3 (ow hw 32 rfl)) (mvT hZ_3 (ow hw 33 rfl)) (mvT hZ_3 (ow hw 8 rfl)) (mvT hZ_3 (ow hw 34 rfl)) (by decide) (backOf (W := 4) (rm_typ l Z a0 hw [] ta t0 t1 t2 t3 t4 t5 t6 t7 t8 T_3.heap n0 Z_3 St_3_3 St_3_4 St_3_5 St_3_6 St_3_7 St_3_8 St_3_9 St_3_10 St_3_11) hZ_3 (ow hw 34 rfl) (ow hw 8 rfl) (by decide) (by decide)) (g := (mkF mM 299 (lc69 p1 p2 p3 p4 sn cn ta tb qa qb ra rb sa sb nb ca0 ca1 cb0 cb1) [(.int ta), (.int p1), (.ref g__3), (.ref b_2), (.ref b_2)])) rfl (by rw [hml]; rfl) (argsL := [(.int ta)]) (rest := [(.int p1), (.ref g__3), (.ref b_2), (.ref b_2)]) (lenOf pd_10 rfl) rfl (by show 2 * 0 + _ ≤ _; exact Nat.le_of_eq rfl) (hb hby at_299) (fun _ _ => ⟨rfl, rfl, (by decide : 4 + 0 ≤ _), (by decide : 12 + 0 ≤ _)⟩)
  dsimp only [Pt.U, Pt.locs, Pt.cells, Pt.slots] at X_4 l_4 y_4 z_4 st_4 hQ_4
  subst l_4 y_4 z_4
  obtain ⟨rfl, N_4q, eh_4⟩ := hQ_4
  have N_4 := Fr.app N_3 N_4q
  have St_3_12 := (own_sta_keep ((own_sta_keep S_ElementState_ABSENT Kc_1 all0).ext E_2) Kc_3 all0)
  have St_3_13 := (own_sta_keep ((own_sta_keep S_ElementState_DELETE_ONLY Kc_1 all0).ext E_2) Kc_3 all0)
  have St_3_14 := (own_sta_keep ((own_sta_keep S_ElementState_WRITE_ONLY Kc_1 all0).ext E_2) Kc_3 all0)
  have St_3_15 := (own_sta_keep ((own_sta_keep S_ElementState_PUBLIC Kc_1 all0).ext E_2) Kc_3 all0)
  obtain ⟨_, _, ⟨T_5, L_5, k_5, n_5⟩, -, X_5, ⟨Lc_5, hQ_5, l_5, y_5, z_5⟩, st_5⟩ := Jvm.LawKit.callS X_4 hx (y := MN11) hown_3 (mvT hZ_3 (ow hw 38 rfl)) (mvT hZ_3 (ow hw 39 rfl)) (mvT hZ_3 (ow hw 8 rfl)) (mvT hZ_3 (ow hw 40 rfl)) (by decide) (backOf (W := 7) (rm_sta l Z a0 hw [] sa es0 es1 es2 es3 T_3.heap n0 Z_3 St_3_12 St_3_13 St_3_14 St_3_15) hZ_3 (ow hw 40 rfl) (ow hw 8 rfl) (by decide) (by decide)) (g := (mkF mM 308 (lc69 p1 p2 p3 p4 sn cn ta tb qa qb ra rb sa sb nb ca0 ca1 cb0 cb1) [(.int sa), (.int ra), (.int qa), (.ref (own_ty ta t0 t1 t2 t3 t4 t5 t6 t7 t8)), (.int p1), (.ref g__3), (.ref b_2), (.ref b_2)])) rfl (by rw [hml]; rfl) (argsL := [(.int sa)]) (rest := [(.int ra), (.int qa), (.ref (own_ty ta t0 t1 t2 t3 t4 t5 t6 t7 t8)), (.int p1), (.ref g__3), (.ref b_2), (.ref b_2)]) (lenOf pd_11 rfl) rfl (by show 2 * 0 + _ ≤ _; exact Nat.le_of_eq rfl) (hb hby at_308) (fun _ _ => ⟨rfl, eh_4, (by decide : 4 + 0 ≤ _), (by decide : 12 + 0 ≤ _)⟩)
  dsimp only [Pt.U, Pt.locs, Pt.cells, Pt.slots] at X_5 l_5 y_5 z_5 st_5 hQ_5
  subst l_5 y_5 z_5
  obtain ⟨rfl, N_5q, eh_5⟩ := hQ_5
  have N_5 := Fr.app N_4 N_5q
  obtain ⟨_, _, ⟨T_6, L_6, k_6, n_6⟩, -, Xc_6, hSc_6, hgr_6, ⟨Lc_6, hQ_6, l_6, y_6, z_6, CHc_6⟩, st_6⟩ := X_5.specialBackS hx (y := MN12) rfl hown_3 (mvT hZ_3 (ow hw 44 rfl)) (mvT hZ_3 (ow hw 45 rfl)) (mvT hZ_3 (ow hw 46 rfl)) (by decide) (backOfSH (W := 1) (rm_fini l Z a0 hw [] b_2 g__3 p1 (own_ty ta t0 t1 t2 t3 t4 t5 t6 t7 t8) qa ra (own_st sa es0 es1 es2 es3) T_3.heap n0 Z_3 (F_name_b_2__2.keep Kc_3 nin0) (F_number_b_2__2.keep Kc_3 nin0) (F_type_b_2__2.keep Kc_3 nin0) (F_required_b_2__2.keep Kc_3 nin0) (F_repeated_b_2__2.keep Kc_3 nin0) (F_state_b_2__2.keep Kc_3 nin0) (A_2.keep Kc_3) g_b_2) hZ_3 (ow hw 46 rfl) (ow hw 5 rfl) (by decide) (by decide) (own_EW hw) CR_3.1) (g := (mkF mM 311 (lc69 p1 p2 p3 p4 sn cn ta tb qa qb ra rb sa sb nb ca0 ca1 cb0 cb1) [(.ref (own_st sa es0 es1 es2 es3)), (.int ra), (.int qa), (.ref (own_ty ta t0 t1 t2 t3 t4 t5 t6 t7 t8)), (.int p1), (.ref g__3), (.ref b_2), (.ref b_2)])) rfl (by rw [hml]; rfl) (Steps.refl _) (a := b_2) (argsL := [(.ref g__3), (.int p1), (.ref (own_ty ta t0 t1 t2 t3 t4 t5 t6 t7 t8)), (.int qa), (.int ra), (.ref (own_st sa es0 es1 es2 es3))]) (rest := [(.ref b_2)]) (lenOf pd_12 rfl) rfl (by show 2 * 0 + _ ≤ _; exact Nat.le_of_eq rfl) (hb hby at_311) (fun _ _ => ⟨rfl, eh_5, (by decide : 4 + 6 ≤ _), (by decide : 12 + 64 ≤ _)⟩)
  dsimp only [Pt.U, Pt.locs, Pt.cells, Pt.slots] at Xc_6 hSc_6 hgr_6 l_6 y_6 z_6 st_6 hQ_6 CHc_6
  subst l_6 y_6 z_6
  obtain ⟨X_6, hS_6, hZ_6, hown_6⟩ := rebS hS_3 (show _ ≤ T_5.heap.size by rw [eh_5]; exact hk_3) Xc_6 hSc_6 hgr_6 hZ_3 hown_3
  obtain ⟨rfl, N_6q, Kc_6, pfF_name_a_6, pfF_number_a_6, pfF_type_a_6, pfF_required_a_6, pfF_repeated_a_6, pfF_state_a_6, pfE_a_6⟩ := hQ_6
  have Z_6 : n0 ≤ T_6.heap.size := (Nat.le_trans Z_3 Kc_6.1)
  have K_6 : Keep h0 T_6.heap [] := K_3.trans Kc_6 (allS (Or.inr sz_b_2) all0)
  have Ca_6 := CHc_6
  have CR_6 := CR_3.trans Ca_6
  have hk_6 : _ ≤ T_6.heap.size := Nat.le_refl _
  have N_6 := Fr.app N_5 N_6q
  obtain ⟨T_7, h_7, X_7, e_7, E_7, A_7, D_7, -, st_7⟩ := newO X_6 hx hZ_6 hown_6 (ow hw 3 rfl) (ow hw 4 rfl) (ow hw 5 rfl) rfl (g := (mkF mM 316 (lc70 p1 p2 p3 p4 sn cn ta tb qa qb ra rb sa sb nb ca0 ca1 cb0 cb1 b_2) [])) rfl (hb hby at_316) (by decide) (by decide)
  obtain ⟨b_7, g_7⟩ : ∃ z, z = T_6.heap.size := ⟨_, rfl⟩
  rw [← g_7] at A_7 D_7 st_7
  have g_b_7 : n0 ≤ b_7 := Nat.le_trans Z_6 (Nat.le_of_eq g_7.symm)
  have sz_b_7 : h0.size ≤ b_7 := Nat.le_trans K_6.1 (Nat.le_of_eq g_7.symm)
  have Z_7 : n0 ≤ h_7.size := (Nat.le_trans Z_6 E_7.1)
  have K_7 : Keep h0 h_7 [] := K_6.ext E_7
  have hk_7 : _ ≤ h_7.size := Nat.le_trans hk_6 E_7.1
  have Ca_7 := CHr.ext E_7 CR_6.1
  have CR_7 := CR_6.trans Ca_7
  have F_name_b_7__7 : Fld Z h_7 b_7 "com/example/rolling_rung/rollingrung/schema/Field" "name" "Ljava/lang/String;" .null := D_7 (Or.inr (ow hw 61 rfl)) (ty := (.object "java/lang/String")) (by decide)
  have F_number_b_7__7 : Fld Z h_7 b_7 "com/example/rolling_rung/rollingrung/schema/Field" "number" "I" (.int (0 : Int32)) := D_7 (Or.inr (ow hw 63 rfl)) (ty := .int) (by decide)
  have F_type_b_7__7 : Fld Z h_7 b_7 "com/example/rolling_rung/rollingrung/schema/Field" "type" "Lcom/example/rolling_rung/rollingrung/schema/FieldType;" .null := D_7 (Or.inr (ow hw 65 rfl)) (ty := (.object "com/example/rolling_rung/rollingrung/schema/FieldType")) (by decide)
  have F_required_b_7__7 : Fld Z h_7 b_7 "com/example/rolling_rung/rollingrung/schema/Field" "required" "Z" (.int (0 : Int32)) := D_7 (Or.inr (ow hw 67 rfl)) (ty := .boolean) (by decide)
  have F_repeated_b_7__7 : Fld Z h_7 b_7 "com/example/rolling_rung/rollingrung/schema/Field" "repeated" "Z" (.int (0 : Int32)) := D_7 (Or.inr (ow hw 69 rfl)) (ty := .boolean) (by decide)
  have F_state_b_7__7 : Fld Z h_7 b_7 "com/example/rolling_rung/rollingrung/schema/Field" "state" "Lcom/example/rolling_rung/rollingrung/schema/ElementState;" .null := D_7 (Or.inr (ow hw 71 rfl)) (ty := (.object "com/example/rolling_rung/rollingrung/schema/ElementState")) (by decide)
  obtain ⟨_, _, ⟨T_8, L_8, k_8, n_8⟩, -, Xc_8, hSc_8, hgr_8, ⟨Lc_8, hQ_8, l_8, y_8, z_8, CHc_8⟩, st_8⟩ := callSS X_7 hx (y := MN9) hown_6 (mvT hZ_6 (ow hw 6 rfl)) (mvT hZ_6 (ow hw 7 rfl)) (mvT hZ_6 (ow hw 8 rfl)) (mvT hZ_6 (ow hw 9 rfl)) (by decide) (backOfSH (W := 2) (rm_mk0 l Z a0 hw [] cb0 cb1 h_7 n0 Z_7 ) hZ_6 (ow hw 9 rfl) (ow hw 8 rfl) (by decide) (by decide) (own_EW hw) CR_7.1) (g := (mkF mM 326 (lc70 p1 p2 p3 p4 sn cn ta tb qa qb ra rb sa sb nb ca0 ca1 cb0 cb1 b_2) [(.int cb1), (.int cb0), (.int (0 : Int32)), (.ref b_7), (.ref b_7)])) rfl (by rw [hml]; rfl) (argsL := [(.int (0 : Int32)), (.int cb0), (.int cb1)]) (rest := [(.ref b_7), (.ref b_7)]) (lenOf pd_9 rfl) rfl (by show 2 * 0 + _ ≤ _; exact Nat.le_of_eq rfl) (hb hby at_326) (fun _ _ => ⟨rfl, e_7, (by decide : 11 + 6 ≤ _), (by decide : 82 + 12 ≤ _)⟩)
  dsimp only [Pt.U, Pt.locs, Pt.cells, Pt.slots] at Xc_8 hSc_8 hgr_8 l_8 y_8 z_8 st_8 hQ_8 CHc_8
  subst l_8 y_8 z_8
  obtain ⟨X_8, hS_8, hZ_8, hown_8⟩ := rebS hS_6 (show _ ≤ T_7.heap.size by rw [e_7]; exact hk_7) Xc_8 hSc_8 hgr_8 hZ_6 hown_6
  obtain ⟨g__8, ⟨d__8, ⟨kd__8, ⟨rfl, N_8q, Kc_8, pfsz_g_8, pfE_g_8, pfF_value_g_8, pfF_coder_g_8, pfV_d_8⟩⟩⟩⟩ := hQ_8
  have Z_8 : n0 ≤ T_8.heap.size := (Nat.le_trans Z_7 Kc_8.1)
  have K_8 : Keep h0 T_8.heap [] := K_7.trans Kc_8 all0
  have Ca_8 := CHc_8
  have CR_8 := CR_7.trans Ca_8
  have hk_8 : _ ≤ T_8.heap.size := Nat.le_refl _
  have sz_g__8 : h0.size ≤ g__8 := Nat.le_trans K_7.1 pfsz_g_8
  have g_g__8 : n0 ≤ g__8 := Nat.le_trans Z_7 pfsz_g_8
  have N_8 := Fr.app N_6 N_8q
  have St_6_3 := (own_sta_keep ((own_sta_keep St_3_3 Kc_6 (allS (own_exa_ns (A_2.keep Kc_3)) all0)).ext E_7) Kc_8 all0)
  have St_6_4 := (own_sta_keep ((own_sta_keep St_3_4 Kc_6 (allS (own_exa_ns (A_2.keep Kc_3)) all0)).ext E_7) Kc_8 all0)
  have St_6_5 := (own_sta_keep ((own_sta_keep St_3_5 Kc_6 (allS (own_exa_ns (A_2.keep Kc_3)) all0)).ext E_7) Kc_8 all0)
  have St_6_6 := (own_sta_keep ((own_sta_keep St_3_6 Kc_6 (allS (own_exa_ns (A_2.keep Kc_3)) all0)).ext E_7) Kc_8 all0)
  have St_6_7 := (own_sta_keep ((own_sta_keep St_3_7 Kc_6 (allS (own_exa_ns (A_2.keep Kc_3)) all0)).ext E_7) Kc_8 all0)
  have St_6_8 := (own_sta_keep ((own_sta_keep St_3_8 Kc_6 (allS (own_exa_ns (A_2.keep Kc_3)) all0)).ext E_7) Kc_8 all0)
  have St_6_9 := (own_sta_keep ((own_sta_keep St_3_9 Kc_6 (allS (own_exa_ns (A_2.keep Kc_3)) all0)).ext E_7) Kc_8 all0)
  have St_6_10 := (own_sta_keep ((own_sta_keep St_3_10 Kc_6 (allS (own_exa_ns (A_2.keep Kc_3)) all0)).ext E_7) Kc_8 all0)
  have St_6_11 := (own_sta_keep ((own_sta_keep St_3_11 Kc_6 (allS (own_exa_ns (A_2.keep Kc_3)) all0)).ext E_7) Kc_8 all0)
  obtain ⟨_, _, ⟨T_9, L_9, k_9, n_9⟩, -, X_9, ⟨Lc_9, hQ_9, l_9, y_9, z_9⟩, st_9⟩ := Jvm.LawKit.callS X_8 hx (y := MN10) hown_8 (mvT hZ_8 (ow hw 32 rfl)) (mvT hZ_8 (ow hw 33 rfl)) (mvT hZ_8 (ow hw 8 rfl)) (mvT hZ_8 (ow hw 34 rfl)) (by decide) (backOf (W := 4) (rm_typ l Z a0 hw [] tb t0 t1 t2 t3 t4 t5 t6 t7 t8 T_8.heap n0 Z_8 St_6_3 St_6_4 St_6_5 St_6_6 St_6_7 St_6_8 St_6_9 St_6_10 St_6_11) hZ_8 (ow hw 34 rfl) (ow hw 8 rfl) (by decide) (by decide)) (g := (mkF mM 333 (lc70 p1 p2 p3 p4 sn cn ta tb qa qb ra rb sa sb nb ca0 ca1 cb0 cb1 b_2) [(.int tb), (.int nb), (.ref g__8), (.ref b_7), (.ref b_7)])) rfl (by rw [hml]; rfl) (argsL := [(.int tb)]) (rest := [(.int nb), (.ref g__8), (.ref b_7), (.ref b_7)]) (lenOf pd_10 rfl) rfl (by show 2 * 0 + _ ≤ _; exact Nat.le_of_eq rfl) (hb hby at_333) (fun _ _ => ⟨rfl, rfl, (by decide : 17 + 0 ≤ _), (by decide : 94 + 0 ≤ _)⟩)
  dsimp only [Pt.U, Pt.locs, Pt.cells, Pt.slots] at X_9 l_9 y_9 z_9 st_9 hQ_9
  subst l_9 y_9 z_9
  obtain ⟨rfl, N_9q, eh_9⟩ := hQ_9
  have N_9 := Fr.app N_8 N_9q
  have St_6_12 := (own_sta_keep ((own_sta_keep St_3_12 Kc_6 (allS (own_exa_ns (A_2.keep Kc_3)) all0)).ext E_7) Kc_8 all0)
  have St_6_13 := (own_sta_keep ((own_sta_keep St_3_13 Kc_6 (allS (own_exa_ns (A_2.keep Kc_3)) all0)).ext E_7) Kc_8 all0)
  have St_6_14 := (own_sta_keep ((own_sta_keep St_3_14 Kc_6 (allS (own_exa_ns (A_2.keep Kc_3)) all0)).ext E_7) Kc_8 all0)
  have St_6_15 := (own_sta_keep ((own_sta_keep St_3_15 Kc_6 (allS (own_exa_ns (A_2.keep Kc_3)) all0)).ext E_7) Kc_8 all0)
  obtain ⟨_, _, ⟨T_10, L_10, k_10, n_10⟩, -, X_10, ⟨Lc_10, hQ_10, l_10, y_10, z_10⟩, st_10⟩ := Jvm.LawKit.callS X_9 hx (y := MN11) hown_8 (mvT hZ_8 (ow hw 38 rfl)) (mvT hZ_8 (ow hw 39 rfl)) (mvT hZ_8 (ow hw 8 rfl)) (mvT hZ_8 (ow hw 40 rfl)) (by decide) (backOf (W := 7) (rm_sta l Z a0 hw [] sb es0 es1 es2 es3 T_8.heap n0 Z_8 St_6_12 St_6_13 St_6_14 St_6_15) hZ_8 (ow hw 40 rfl) (ow hw 8 rfl) (by decide) (by decide)) (g := (mkF mM 342 (lc70 p1 p2 p3 p4 sn cn ta tb qa qb ra rb sa sb nb ca0 ca1 cb0 cb1 b_2) [(.int sb), (.int rb), (.int qb), (.ref (own_ty tb t0 t1 t2 t3 t4 t5 t6 t7 t8)), (.int nb), (.ref g__8), (.ref b_7), (.ref b_7)])) rfl (by rw [hml]; rfl) (argsL := [(.int sb)]) (rest := [(.int rb), (.int qb), (.ref (own_ty tb t0 t1 t2 t3 t4 t5 t6 t7 t8)), (.int nb), (.ref g__8), (.ref b_7), (.ref b_7)]) (lenOf pd_11 rfl) rfl (by show 2 * 0 + _ ≤ _; exact Nat.le_of_eq rfl) (hb hby at_342) (fun _ _ => ⟨rfl, eh_9, (by decide : 17 + 0 ≤ _), (by decide : 94 + 0 ≤ _)⟩)
  dsimp only [Pt.U, Pt.locs, Pt.cells, Pt.slots] at X_10 l_10 y_10 z_10 st_10 hQ_10
  subst l_10 y_10 z_10
  obtain ⟨rfl, N_10q, eh_10⟩ := hQ_10
  have N_10 := Fr.app N_9 N_10q
  obtain ⟨_, _, ⟨T_11, L_11, k_11, n_11⟩, -, Xc_11, hSc_11, hgr_11, ⟨Lc_11, hQ_11, l_11, y_11, z_11, CHc_11⟩, st_11⟩ := X_10.specialBackS hx (y := MN12) rfl hown_8 (mvT hZ_8 (ow hw 44 rfl)) (mvT hZ_8 (ow hw 45 rfl)) (mvT hZ_8 (ow hw 46 rfl)) (by decide) (backOfSH (W := 1) (rm_fini l Z a0 hw [] b_7 g__8 nb (own_ty tb t0 t1 t2 t3 t4 t5 t6 t7 t8) qb rb (own_st sb es0 es1 es2 es3) T_8.heap n0 Z_8 (F_name_b_7__7.keep Kc_8 nin0) (F_number_b_7__7.keep Kc_8 nin0) (F_type_b_7__7.keep Kc_8 nin0) (F_required_b_7__7.keep Kc_8 nin0) (F_repeated_b_7__7.keep Kc_8 nin0) (F_state_b_7__7.keep Kc_8 nin0) (A_7.keep Kc_8) g_b_7) hZ_8 (ow hw 46 rfl) (ow hw 5 rfl) (by decide) (by decide) (own_EW hw) CR_8.1) (g := (mkF mM 345 (lc70 p1 p2 p3 p4 sn cn ta tb qa qb ra rb sa sb nb ca0 ca1 cb0 cb1 b_2) [(.ref (own_st sb es0 es1 es2 es3)), (.int rb), (.int qb), (.ref (own_ty tb t0 t1 t2 t3 t4 t5 t6 t7 t8)), (.int nb), (.ref g__8), (.ref b_7), (.ref b_7)])) rfl (by rw [hml]; rfl) (Steps.refl _) (a := b_7) (argsL := [(.ref g__8), (.int nb), (.ref (own_ty tb t0 t1 t2 t3 t4 t5 t6 t7 t8)), (.int qb), (.int rb), (.ref (own_st sb es0 es1 es2 es3))]) (rest := [(.ref b_7)]) (lenOf pd_12 rfl) rfl (by show 2 * 0 + _ ≤ _; exact Nat.le_of_eq rfl) (hb hby at_345) (fun _ _ => ⟨rfl, eh_10, (by decide : 17 + 6 ≤ _), (by decide : 94 + 64 ≤ _)⟩)
  dsimp only [Pt.U, Pt.locs, Pt.cells, Pt.slots] at Xc_11 hSc_11 hgr_11 l_11 y_11 z_11 st_11 hQ_11 CHc_11
  subst l_11 y_11 z_11
  obtain ⟨X_11, hS_11, hZ_11, hown_11⟩ := rebS hS_8 (show _ ≤ T_10.heap.size by rw [eh_10]; exact hk_8) Xc_11 hSc_11 hgr_11 hZ_8 hown_8
  obtain ⟨rfl, N_11q, Kc_11, pfF_name_a_11, pfF_number_a_11, pfF_type_a_11, pfF_required_a_11, pfF_repeated_a_11, pfF_state_a_11, pfE_a_11⟩ := hQ_11
  have Z_11 : n0 ≤ T_11.heap.size := (Nat.le_trans Z_8 Kc_11.1)
  have K_11 : Keep h0 T_11.heap [] := K_8.trans Kc_11 (allS (Or.inr sz_b_7) all0)
  have Ca_11 := CHc_11
  have CR_11 := CR_8.trans Ca_11
  have hk_11 : _ ≤ T_11.heap.size := Nat.le_refl _
  have N_11 := Fr.app N_10 N_11q
  have St_7_1 := (own_sta_keep (own_sta_keep ((own_sta_keep (own_sta_keep St_2_1 Kc_3 all0) Kc_6 (allS (own_exa_ns (A_2.keep Kc_3)) all0)).ext E_7) Kc_8 all0) Kc_11 (allS (own_exa_ns (A_7.keep Kc_8)) all0))
  obtain ⟨cq_12, kq_12, q_12a, q_12b, q_12c⟩ := isOf hZ_11 rfl (((pfE_a_6.ext E_7).keep Kc_8).keep Kc_11)
  obtain ⟨_, _, ⟨T_12, L_12, k_12, n_12⟩, -, X_12, ⟨Lc_12, hQ_12, l_12, y_12, z_12⟩, st_12⟩ := X_11.virtualBack hx (y := MN13) (z := MN13) hown_11 (mvT hZ_11 (ow hw 76 rfl)) (mvT hZ_11 (ow hw 77 rfl)) (notFace_of_selects (args := #[]) (mvT hZ_11 (ow hw 79 rfl))) (mvT hZ_11 (ow hw 79 rfl)) (mvT hZ_11 (ow hw 78 rfl)) (by decide) (backOf (W := 0) (rm_sd l Z a0 hw [] b_2 b_7 g__3 g__8 p1 (own_ty ta t0 t1 t2 t3 t4 t5 t6 t7 t8) (nar .boolean qa) (nar .boolean ra) nb (own_ty tb t0 t1 t2 t3 t4 t5 t6 t7 t8) (nar .boolean qb) (nar .boolean rb) d__3 d__8 (0 : Int32) cs T_11.heap n0 Z_11 (((pfF_name_a_6.ext E_7).keep Kc_8 nin0).keep Kc_11 (ninS (Nat.ne_of_lt (Nat.lt_of_lt_of_le pfE_a_6.lt (Nat.le_of_eq g_7.symm))) nin0)) (((pfF_number_a_6.ext E_7).keep Kc_8 nin0).keep Kc_11 (ninS (Nat.ne_of_lt (Nat.lt_of_lt_of_le pfE_a_6.lt (Nat.le_of_eq g_7.symm))) nin0)) (((pfF_type_a_6.ext E_7).keep Kc_8 nin0).keep Kc_11 (ninS (Nat.ne_of_lt (Nat.lt_of_lt_of_le pfE_a_6.lt (Nat.le_of_eq g_7.symm))) nin0)) (((pfF_required_a_6.ext E_7).keep Kc_8 nin0).keep Kc_11 (ninS (Nat.ne_of_lt (Nat.lt_of_lt_of_le pfE_a_6.lt (Nat.le_of_eq g_7.symm))) nin0)) (((pfF_repeated_a_6.ext E_7).keep Kc_8 nin0).keep Kc_11 (ninS (Nat.ne_of_lt (Nat.lt_of_lt_of_le pfE_a_6.lt (Nat.le_of_eq g_7.symm))) nin0)) pfF_name_a_11 pfF_number_a_11 pfF_type_a_11 pfF_required_a_11 pfF_repeated_a_11 ((((pfF_value_g_3.keep Kc_6 (ninS (Ne.symm (Nat.ne_of_lt (Nat.lt_of_lt_of_le A_2.lt pfsz_g_3))) nin0)).ext E_7).keep Kc_8 nin0).keep Kc_11 (ninS (Nat.ne_of_lt (Nat.lt_of_lt_of_le (pfE_g_3.keep Kc_6).lt (Nat.le_of_eq g_7.symm))) nin0)) ((((pfF_coder_g_3.keep Kc_6 (ninS (Ne.symm (Nat.ne_of_lt (Nat.lt_of_lt_of_le A_2.lt pfsz_g_3))) nin0)).ext E_7).keep Kc_8 nin0).keep Kc_11 (ninS (Nat.ne_of_lt (Nat.lt_of_lt_of_le (pfE_g_3.keep Kc_6).lt (Nat.le_of_eq g_7.symm))) nin0)) ((((pfE_g_3.keep Kc_6).ext E_7).keep Kc_8).keep Kc_11) (pfF_value_g_8.keep Kc_11 (ninS (Ne.symm (Nat.ne_of_lt (Nat.lt_of_lt_of_le A_7.lt pfsz_g_8))) nin0)) (pfF_coder_g_8.keep Kc_11 (ninS (Ne.symm (Nat.ne_of_lt (Nat.lt_of_lt_of_le A_7.lt pfsz_g_8))) nin0)) (pfE_g_8.keep Kc_11) St_7_1 hcs (rm_leq10 l Z a0 hw [] d__3 kd__3 d__8 kd__8 (nar .byte ((nar .char ca0).toInt8.toInt32)) T_11.heap n0 Z_11 ((((pfV_d_3.keep Kc_6 (ninS (Ne.symm (Nat.ne_of_lt (Nat.lt_of_lt_of_le A_2.lt pfsz_d_3))) nin0)).ext E_7).keep Kc_8 nin0).keep Kc_11 (ninS (Nat.ne_of_lt (Nat.lt_of_lt_of_le (pfV_d_3.keep Kc_6 (ninS (Ne.symm (Nat.ne_of_lt (Nat.lt_of_lt_of_le A_2.lt pfsz_d_3))) nin0)).lt (Nat.le_of_eq g_7.symm))) nin0)) (pfV_d_8.keep Kc_11 (ninS (Ne.symm (Exa.neArv (A_7.keep Kc_8) pfV_d_8 (ow hw 4 rfl))) nin0))) (Nat.ne_of_lt (Nat.lt_of_lt_of_le ((pfE_g_3.keep Kc_6).ext E_7).lt pfsz_g_8))) hZ_11 (ow hw 80 rfl) (ow hw 5 rfl) (by decide) (by decide)) q_12a q_12c (g := (mkF mM 433 (lc73 p1 p2 p3 p4 sn cn ta tb qa qb ra rb sa sb nb ca0 ca1 cb0 cb1 b_2 b_7) [(.ref b_7), (.ref b_2)])) rfl (by rw [hml]; rfl) (Steps.refl _) (argsL := [(.ref b_7)]) (rest := []) (lenOf pd_13 rfl) rfl (by show 2 * 0 + _ ≤ _; exact Nat.le_of_eq rfl) (hb hby at_433) (fun _ _ => ⟨rfl, rfl, (by decide : 23 + 0 ≤ _), (by decide : 158 + 0 ≤ _)⟩)
  dsimp only [Pt.U, Pt.locs, Pt.cells, Pt.slots] at X_12 l_12 y_12 z_12 st_12 hQ_12
  subst l_12 y_12 z_12
  obtain ⟨rfl, N_12q, eh_12⟩ := hQ_12
  have N_12 := Fr.app N_11 N_12q
  obtain ⟨fs, hr, hrun, hended, hRE⟩ := X_12.leaveW hS_11 (show _ ≤ T_12.heap.size by rw [eh_12]; exact hk_11) (v := some (.int (1 : Int32))) (fun h => by rw [Bd.returns] at h; cases h)
  refine ⟨_, _, pre0 _ ?_, hrun, hended, _, _, rfl, ?_, ⟨_, rfl⟩, hRE.2.1, hRE.2.2.1, hRE.2.2.2.mono (by decide) (by decide)⟩
  · show oS pP eE below s₁ (mkF mM 0 (lc36 p1 p2 p3 p4) []) _
    refine st_1 _ ?_
    show oS pP eE below T_1 (mkF mM 283 (lc69 p1 p2 p3 p4 sn cn ta tb qa qb ra rb sa sb nb ca0 ca1 cb0 cb1) []) _
    refine st_2 _ ?_
    show oS pP eE below T_2 (mkF mM 286 (lc69 p1 p2 p3 p4 sn cn ta tb qa qb ra rb sa sb nb ca0 ca1 cb0 cb1) [(.ref b_2)]) _
    refine XS.dup X_2.here hx rfl (hb hby at_286) rfl rfl ?_
    refine XS.iload X_2.here hx rfl (hb hby at_287) rfl ?_
    refine XS.iload X_2.here hx rfl (hb hby at_289) rfl ?_
    refine XS.iload X_2.here hx rfl (hb hby at_291) rfl ?_
    show oS pP eE below T_2 (mkF mM 293 (lc69 p1 p2 p3 p4 sn cn ta tb qa qb ra rb sa sb nb ca0 ca1 cb0 cb1) [(.int ca1), (.int ca0), (.int (1 : Int32)), (.ref b_2), (.ref b_2)]) _
    refine st_3.trans ?_
    show oS pP eE below T_3 (mkF mM 296 (lc69 p1 p2 p3 p4 sn cn ta tb qa qb ra rb sa sb nb ca0 ca1 cb0 cb1) [(.ref g__3), (.ref b_2), (.ref b_2)]) _
    refine XS.iloadN X_3.here hx rfl (hb hby at_296) rfl ?_
    refine XS.iload X_3.here hx rfl (hb hby at_297) rfl ?_
    show oS pP eE below T_3 (mkF mM 299 (lc69 p1 p2 p3 p4 sn cn ta tb qa qb ra rb sa sb nb ca0 ca1 cb0 cb1) [(.int ta), (.int p1), (.ref g__3), (.ref b_2), (.ref b_2)]) _
    refine st_4 _ ?_
    show oS pP eE below T_4 (mkF mM 302 (lc69 p1 p2 p3 p4 sn cn ta tb qa qb ra rb sa sb nb ca0 ca1 cb0 cb1) [(.ref (own_ty ta t0 t1 t2 t3 t4 t5 t6 t7 t8)), (.int p1), (.ref g__3), (.ref b_2), (.ref b_2)]) _
    refine XS.iload X_4.here hx rfl (hb hby at_302) rfl ?_
    refine XS.iload X_4.here hx rfl (hb hby at_304) rfl ?_
    refine XS.iload X_4.here hx rfl (hb hby at_306) rfl ?_
    show oS pP eE below T_4 (mkF mM 308 (lc69 p1 p2 p3 p4 sn cn ta tb qa qb ra rb sa sb nb ca0 ca1 cb0 cb1) [(.int sa), (.int ra), (.int qa), (.ref (own_ty ta t0 t1 t2 t3 t4 t5 t6 t7 t8)), (.int p1), (.ref g__3), (.ref b_2), (.ref b_2)]) _
    refine st_5 _ ?_
    show oS pP eE below T_5 (mkF mM 311 (lc69 p1 p2 p3 p4 sn cn ta tb qa qb ra rb sa sb nb ca0 ca1 cb0 cb1) [(.ref (own_st sa es0 es1 es2 es3)), (.int ra), (.int qa), (.ref (own_ty ta t0 t1 t2 t3 t4 t5 t6 t7 t8)), (.int p1), (.ref g__3), (.ref b_2), (.ref b_2)]) _
    refine st_6.trans ?_
    show oS pP eE below T_6 (mkF mM 314 (lc69 p1 p2 p3 p4 sn cn ta tb qa qb ra rb sa sb nb ca0 ca1 cb0 cb1) [(.ref b_2)]) _
    refine XS.astore X_6.here hx rfl (hb hby at_314) rfl rfl (l' := (lc70 p1 p2 p3 p4 sn cn ta tb qa qb ra rb sa sb nb ca0 ca1 cb0 cb1 b_2)) rfl ?_
    show oS pP eE below T_6 (mkF mM 316 (lc70 p1 p2 p3 p4 sn cn ta tb qa qb ra rb sa sb nb ca0 ca1 cb0 cb1 b_2) []) _
    refine st_7 _ ?_
    show oS pP eE below T_7 (mkF mM 319 (lc70 p1 p2 p3 p4 sn cn ta tb qa qb ra rb sa sb nb ca0 ca1 cb0 cb1 b_2) [(.ref b_7)]) _
    refine XS.dup X_7.here hx rfl (hb hby at_319) rfl rfl ?_
    refine XS.iload X_7.here hx rfl (hb hby at_320) rfl ?_
    refine XS.iload X_7.here hx rfl (hb hby at_322) rfl ?_
    refine XS.iload X_7.here hx rfl (hb hby at_324) rfl ?_
    show oS pP eE below T_7 (mkF mM 326 (lc70 p1 p2 p3 p4 sn cn ta tb qa qb ra rb sa sb nb ca0 ca1 cb0 cb1 b_2) [(.int cb1), (.int cb0), (.int (0 : Int32)), (.ref b_7), (.ref b_7)]) _
    refine st_8.trans ?_
    show oS pP eE below T_8 (mkF mM 329 (lc70 p1 p2 p3 p4 sn cn ta tb qa qb ra rb sa sb nb ca0 ca1 cb0 cb1 b_2) [(.ref g__8), (.ref b_7), (.ref b_7)]) _
    refine XS.iload X_8.here hx rfl (hb hby at_329) rfl ?_
    refine XS.iload X_8.here hx rfl (hb hby at_331) rfl ?_
    show oS pP eE below T_8 (mkF mM 333 (lc70 p1 p2 p3 p4 sn cn ta tb qa qb ra rb sa sb nb ca0 ca1 cb0 cb1 b_2) [(.int tb), (.int nb), (.ref g__8), (.ref b_7), (.ref b_7)]) _
    refine st_9 _ ?_
    show oS pP eE below T_9 (mkF mM 336 (lc70 p1 p2 p3 p4 sn cn ta tb qa qb ra rb sa sb nb ca0 ca1 cb0 cb1 b_2) [(.ref (own_ty tb t0 t1 t2 t3 t4 t5 t6 t7 t8)), (.int nb), (.ref g__8), (.ref b_7), (.ref b_7)]) _
    refine XS.iload X_9.here hx rfl (hb hby at_336) rfl ?_
    refine XS.iload X_9.here hx rfl (hb hby at_338) rfl ?_
    refine XS.iload X_9.here hx rfl (hb hby at_340) rfl ?_
    show oS pP eE below T_9 (mkF mM 342 (lc70 p1 p2 p3 p4 sn cn ta tb qa qb ra rb sa sb nb ca0 ca1 cb0 cb1 b_2) [(.int sb), (.int rb), (.int qb), (.ref (own_ty tb t0 t1 t2 t3 t4 t5 t6 t7 t8)), (.int nb), (.ref g__8), (.ref b_7), (.ref b_7)]) _
    refine st_10 _ ?_
    show oS pP eE below T_10 (mkF mM 345 (lc70 p1 p2 p3 p4 sn cn ta tb qa qb ra rb sa sb nb ca0 ca1 cb0 cb1 b_2) [(.ref (own_st sb es0 es1 es2 es3)), (.int rb), (.int qb), (.ref (own_ty tb t0 t1 t2 t3 t4 t5 t6 t7 t8)), (.int nb), (.ref g__8), (.ref b_7), (.ref b_7)]) _
    refine st_11.trans ?_
    show oS pP eE below T_11 (mkF mM 348 (lc70 p1 p2 p3 p4 sn cn ta tb qa qb ra rb sa sb nb ca0 ca1 cb0 cb1 b_2) [(.ref b_7)]) _
    refine XS.astore X_11.here hx rfl (hb hby at_348) rfl rfl (l' := (lc71 p1 p2 p3 p4 sn cn ta tb qa qb ra rb sa sb nb ca0 ca1 cb0 cb1 b_2 b_7)) rfl ?_
    refine XS.iload X_11.here hx rfl (hb hby at_350) rfl ?_
    refine XS.iload X_11.here hx rfl (hb hby at_352) rfl ?_
    refine XS.icmpYes X_11.here hx rfl (pc0 := 354) (pc' := 387) rfl (hb hby at_354) rfl (by decide) (by decide) (by decide) ?_
    refine XS.iconst X_11.here hx rfl (hb hby at_387) ?_
    refine XS.istore X_11.here hx rfl (hb hby at_388) rfl (l' := (lc72 p1 p2 p3 p4 sn cn ta tb qa qb ra rb sa sb nb ca0 ca1 cb0 cb1 b_2 b_7)) rfl ?_
    refine XS.iload X_11.here hx rfl (hb hby at_390) rfl ?_
    refine XS.ifYes X_11.here hx rfl (pc0 := 392) (pc' := 426) rfl (hb hby at_392) rfl (by decide) (by decide) (by decide) ?_
    refine XS.iconst X_11.here hx rfl (hb hby at_426) ?_
    refine XS.istore X_11.here hx rfl (hb hby at_427) rfl (l' := (lc73 p1 p2 p3 p4 sn cn ta tb qa qb ra rb sa sb nb ca0 ca1 cb0 cb1 b_2 b_7)) rfl ?_
    refine XS.aload X_11.here hx rfl (hb hby at_429) rfl rfl ?_
    refine XS.aload X_11.here hx rfl (hb hby at_431) rfl rfl ?_
    show oS pP eE below T_11 (mkF mM 433 (lc73 p1 p2 p3 p4 sn cn ta tb qa qb ra rb sa sb nb ca0 ca1 cb0 cb1 b_2 b_7) [(.ref b_7), (.ref b_2)]) _
    refine st_12.trans ?_
    show oS pP eE below T_12 (mkF mM 436 (lc73 p1 p2 p3 p4 sn cn ta tb qa qb ra rb sa sb nb ca0 ca1 cb0 cb1 b_2 b_7) [(.int (own_sd (own_nz (0 : Int32)) p1 nb (own_ty ta t0 t1 t2 t3 t4 t5 t6 t7 t8) (own_ty tb t0 t1 t2 t3 t4 t5 t6 t7 t8) (nar .boolean qa) (nar .boolean qb) (nar .boolean ra) (nar .boolean rb)))]) _
    refine XS.iload X_12.here hx rfl (hb hby at_436) rfl ?_
    refine XS.icmpNo X_12.here hx rfl (hb hby at_438) rfl (XT.ii_ne_f hfin) ?_
    refine XS.iconst X_12.here hx rfl (hb hby at_441) ?_
    refine XS.goto X_12.here hx rfl (pc0 := 442) (pc' := 446) rfl (hb hby at_442) (by decide) (by decide) ?_
    show oS pP eE below T_12 (mkF mM 446 (lc73 p1 p2 p3 p4 sn cn ta tb qa qb ra rb sa sb nb ca0 ca1 cb0 cb1 b_2 b_7) [(.int (1 : Int32))]) _
    exact retN X_12 hx (t := .boolean) Bd.returns (by simp) (hb hby at_446) hr
  · show Q_law10 Z p1 p2 p3 p4 sn cn qa qb ra rb ta sa sb ca0 ca1 tb nb cb0 cb1 t0 t1 t2 t3 t4 t5 t6 t7 t8 es0 es1 es2 es3 cs h0 n0 _ T_12.heap _
    exact ⟨rfl, N_12⟩
abbrev lc74 (p1 : Int32) (p2 : Int32) (p3 : Int64) (p4 : Int64) (sn : Int32) (cn : Int32) (ta : Int32) (tb : Int32) (qa : Int32) (qb : Int32) (ra : Int32) (rb : Int32) (sa : Int32) (sb : Int32) (nb : Int32) (ca0 : Int32) (ca1 : Int32) (cb0 : Int32) (cb1 : Int32) : Array Slot := #[.val (.int p1), .val (.int p2), .val (.long p3), .second, .val (.long p4), .second, .val (.int sn), .val (.int cn), .val (.int ta), .val (.int tb), .val (.int qa), .val (.int qb), .val (.int ra), .val (.int rb), .val (.int sa), .val (.int sb), .val (.int nb), .val (.int ca0), .val (.int ca1), .val (.int cb0), .val (.int cb1), .val (.int (1 : Int32)), .val (.int (1 : Int32)), .unset, .unset, .unset, .unset]
abbrev lc75 (p1 : Int32) (p2 : Int32) (p3 : Int64) (p4 : Int64) (sn : Int32) (cn : Int32) (ta : Int32) (tb : Int32) (qa : Int32) (qb : Int32) (ra : Int32) (rb : Int32) (sa : Int32) (sb : Int32) (nb : Int32) (ca0 : Int32) (ca1 : Int32) (cb0 : Int32) (cb1 : Int32) (b_2 : Addr) : Array Slot := #[.val (.int p1), .val (.int p2), .val (.long p3), .second, .val (.long p4), .second, .val (.int sn), .val (.int cn), .val (.int ta), .val (.int tb), .val (.int qa), .val (.int qb), .val (.int ra), .val (.int rb), .val (.int sa), .val (.int sb), .val (.int nb), .val (.int ca0), .val (.int ca1), .val (.int cb0), .val (.int cb1), .val (.int (1 : Int32)), .val (.int (1 : Int32)), .val (.ref b_2), .unset, .unset, .unset]
abbrev lc76 (p1 : Int32) (p2 : Int32) (p3 : Int64) (p4 : Int64) (sn : Int32) (cn : Int32) (ta : Int32) (tb : Int32) (qa : Int32) (qb : Int32) (ra : Int32) (rb : Int32) (sa : Int32) (sb : Int32) (nb : Int32) (ca0 : Int32) (ca1 : Int32) (cb0 : Int32) (cb1 : Int32) (b_2 : Addr) (b_7 : Addr) : Array Slot := #[.val (.int p1), .val (.int p2), .val (.long p3), .second, .val (.long p4), .second, .val (.int sn), .val (.int cn), .val (.int ta), .val (.int tb), .val (.int qa), .val (.int qb), .val (.int ra), .val (.int rb), .val (.int sa), .val (.int sb), .val (.int nb), .val (.int ca0), .val (.int ca1), .val (.int cb0), .val (.int cb1), .val (.int (1 : Int32)), .val (.int (1 : Int32)), .val (.ref b_2), .val (.ref b_7), .unset, .unset]
abbrev lc77 (p1 : Int32) (p2 : Int32) (p3 : Int64) (p4 : Int64) (sn : Int32) (cn : Int32) (ta : Int32) (tb : Int32) (qa : Int32) (qb : Int32) (ra : Int32) (rb : Int32) (sa : Int32) (sb : Int32) (nb : Int32) (ca0 : Int32) (ca1 : Int32) (cb0 : Int32) (cb1 : Int32) (b_2 : Addr) (b_7 : Addr) : Array Slot := #[.val (.int p1), .val (.int p2), .val (.long p3), .second, .val (.long p4), .second, .val (.int sn), .val (.int cn), .val (.int ta), .val (.int tb), .val (.int qa), .val (.int qb), .val (.int ra), .val (.int rb), .val (.int sa), .val (.int sb), .val (.int nb), .val (.int ca0), .val (.int ca1), .val (.int cb0), .val (.int cb1), .val (.int (1 : Int32)), .val (.int (1 : Int32)), .val (.ref b_2), .val (.ref b_7), .val (.int (own_e1 ca0 cb0)), .unset]
abbrev lc78 (p1 : Int32) (p2 : Int32) (p3 : Int64) (p4 : Int64) (sn : Int32) (cn : Int32) (ta : Int32) (tb : Int32) (qa : Int32) (qb : Int32) (ra : Int32) (rb : Int32) (sa : Int32) (sb : Int32) (nb : Int32) (ca0 : Int32) (ca1 : Int32) (cb0 : Int32) (cb1 : Int32) (b_2 : Addr) (b_7 : Addr) : Array Slot := #[.val (.int p1), .val (.int p2), .val (.long p3), .second, .val (.long p4), .second, .val (.int sn), .val (.int cn), .val (.int ta), .val (.int tb), .val (.int qa), .val (.int qb), .val (.int ra), .val (.int rb), .val (.int sa), .val (.int sb), .val (.int nb), .val (.int ca0), .val (.int ca1), .val (.int cb0), .val (.int cb1), .val (.int (1 : Int32)), .val (.int (1 : Int32)), .val (.ref b_2), .val (.ref b_7), .val (.int (own_e1 ca0 cb0)), .val (.int (own_ex (own_e1 ca0 cb0) p1 nb ta tb qa qb ra rb))]
theorem ef_law11 (mM : MethodId) (x0 : Int32) (x1 : Int32) (x2 : Int64) (x3 : Int64) : entryFrame mM #[(.int x0), (.int x1), (.long x2), (.long x3)] maxLocals = mkF mM 0 #[.val (.int x0), .val (.int x1), .val (.long x2), .second, .val (.long x3), .second, .unset, .unset, .unset, .unset, .unset, .unset, .unset, .unset, .unset, .unset, .unset, .unset, .unset, .unset, .unset, .unset, .unset, .unset, .unset, .unset, .unset] [] := by first | (simp [entryFrame, mkF, argsToLocals, Value.category, maxLocals]; done) | rfl
def Q_law11 (Z : State) (p1 : Int32) (p2 : Int32) (p3 : Int64) (p4 : Int64) (sn : Int32) (cn : Int32) (qa : Int32) (qb : Int32) (ra : Int32) (rb : Int32) (ta : Int32) (sa : Int32) (sb : Int32) (ca0 : Int32) (ca1 : Int32) (tb : Int32) (nb : Int32) (cb0 : Int32) (cb1 : Int32) (t0 : Addr) (t1 : Addr) (t2 : Addr) (t3 : Addr) (t4 : Addr) (t5 : Addr) (t6 : Addr) (t7 : Addr) (t8 : Addr) (es0 : Addr) (es1 : Addr) (es2 : Addr) (es3 : Addr) (cs : Int32) (h0 : Heap) (n0 : Nat) (v_ : Option Value) (h_ : Heap) (L_ : List Loc) : Prop := v_ = some (.int (1 : Int32)) ∧ Fr n0 L_
set_option maxRecDepth 65536 in
set_option maxHeartbeats 40000000 in
theorem rm_law11 (l : Launch) (Z : State) (a0 : Array Value) (hw : ∀ d ∈ tables_1, d.before a0 Z = true) (ws : List Jvm.Cond) (p1 : Int32) (p2 : Int32) (p3 : Int64) (p4 : Int64) (sn : Int32) (cn : Int32) (qa : Int32) (qb : Int32) (ra : Int32) (rb : Int32) (ta : Int32) (sa : Int32) (sb : Int32) (ca0 : Int32) (ca1 : Int32) (tb : Int32) (nb : Int32) (cb0 : Int32) (cb1 : Int32) (t0 : Addr) (t1 : Addr) (t2 : Addr) (t3 : Addr) (t4 : Addr) (t5 : Addr) (t6 : Addr) (t7 : Addr) (t8 : Addr) (es0 : Addr) (es1 : Addr) (es2 : Addr) (es3 : Addr) (cs : Int32) (h0 : Heap) (n0 : Nat) (Z0 : n0 ≤ h0.size) (hEQ : own_eqs p1 p2 p3 p4 sn cn qa qb ra rb ta sa sb ca0 ca1 (1 : Int32) (1 : Int32) tb nb cb0 cb1) (S_String_COMPACT_STRINGS : Sta Z h0 "java/lang/String" "COMPACT_STRINGS" "Z" (.int cs)) (hcs : ¬ cs = 0) (S_FieldType_STRING : Sta Z h0 "com/example/rolling_rung/rollingrung/schema/FieldType" "STRING" "Lcom/example/rolling_rung/rollingrung/schema/FieldType;" (.ref t0)) (S_FieldType_BYTES : Sta Z h0 "com/example/rolling_rung/rollingrung/schema/FieldType" "BYTES" "Lcom/example/rolling_rung/rollingrung/schema/FieldType;" (.ref t1)) (S_FieldType_BOOL : Sta Z h0 "com/example/rolling_rung/rollingrung/schema/FieldType" "BOOL" "Lcom/example/rolling_rung/rollingrung/schema/FieldType;" (.ref t2)) (S_FieldType_INT32 : Sta Z h0 "com/example/rolling_rung/rollingrung/schema/FieldType" "INT32" "Lcom/example/rolling_rung/rollingrung/schema/FieldType;" (.ref t3)) (S_FieldType_INT64 : Sta Z h0 "com/example/rolling_rung/rollingrung/schema/FieldType" "INT64" "Lcom/example/rolling_rung/rollingrung/schema/FieldType;" (.ref t4)) (S_FieldType_SINT32 : Sta Z h0 "com/example/rolling_rung/rollingrung/schema/FieldType" "SINT32" "Lcom/example/rolling_rung/rollingrung/schema/FieldType;" (.ref t5)) (S_FieldType_SINT64 : Sta Z h0 "com/example/rolling_rung/rollingrung/schema/FieldType" "SINT64" "Lcom/example/rolling_rung/rollingrung/schema/FieldType;" (.ref t6)) (S_FieldType_DOUBLE : Sta Z h0 "com/example/rolling_rung/rollingrung/schema/FieldType" "DOUBLE" "Lcom/example/rolling_rung/rollingrung/schema/FieldType;" (.ref t7)) (S_FieldType_FLOAT : Sta Z h0 "com/example/rolling_rung/rollingrung/schema/FieldType" "FLOAT" "Lcom/example/rolling_rung/rollingrung/schema/FieldType;" (.ref t8)) (S_ElementState_ABSENT : Sta Z h0 "com/example/rolling_rung/rollingrung/schema/ElementState" "ABSENT" "Lcom/example/rolling_rung/rollingrung/schema/ElementState;" (.ref es0)) (S_ElementState_DELETE_ONLY : Sta Z h0 "com/example/rolling_rung/rollingrung/schema/ElementState" "DELETE_ONLY" "Lcom/example/rolling_rung/rollingrung/schema/ElementState;" (.ref es1)) (S_ElementState_WRITE_ONLY : Sta Z h0 "com/example/rolling_rung/rollingrung/schema/ElementState" "WRITE_ONLY" "Lcom/example/rolling_rung/rollingrung/schema/ElementState;" (.ref es2)) (S_ElementState_PUBLIC : Sta Z h0 "com/example/rolling_rung/rollingrung/schema/ElementState" "PUBLIC" "Lcom/example/rolling_rung/rollingrung/schema/ElementState;" (.ref es3)) (hq_ca0 : own_ch ca0) (hq_ca1 : own_ch ca1) (hq_cb0 : own_ch cb0) (hq_cb1 : own_ch cb1) (hfin : (own_sd (own_nz (own_e1 (nar .byte ((nar .char ca0).toInt8.toInt32)) (nar .byte ((nar .char cb0).toInt8.toInt32)))) p1 nb (own_ty ta t0 t1 t2 t3 t4 t5 t6 t7 t8) (own_ty tb t0 t1 t2 t3 t4 t5 t6 t7 t8) (nar .boolean qa) (nar .boolean qb) (nar .boolean ra) (nar .boolean rb)) = (own_ex (own_e1 ca0 cb0) p1 nb ta tb qa qb ra rb)) :
    MetFree l x (head1 (Jvm.Cond.code x code maxLocals ret :: ws) room_1) (fun aa_ U_ => aa_ = #[(.int p1), (.int p2), (.long p3), (.long p4)] ∧ Z.Warmed39 U_.vm ∧ U_.heap = h0 ∧ CHv Z own_EL U_.vm h0) (fun _ _ _ _ _ => True) (fun _ U_ o_ U'_ => ∃ v_ L_, o_ = .returned v_ ∧ Q_law11 Z p1 p2 p3 p4 sn cn qa qb ra rb ta sa sb ca0 ca1 tb nb cb0 cb1 t0 t1 t2 t3 t4 t5 t6 t7 t8 es0 es1 es2 es3 cs h0 n0 v_ U'_.heap L_ ∧ ReturnedEndW U_ o_ U'_ L_ 20 152) := by
  refine MetFree.of_bodySF (plainFor_of_name pn_1) hisR ?_
  intro pP eE sS mM argsA below meth cC s₁ Bd hml0 hP hK
  obtain ⟨rfl, hZ, hh, hCH⟩ := hP
  have hx := Bd.exec
  have hby := Bd.bytes
  have hml : cC.maxLocals = 27 := hml0
  have hown : sS.vm.findClass "com/example/rolling_rung/rollingrung/schema/FieldSameDefinitionPinLaw" = some mM.cls := findClass_of_methodNamed Bd.named
  have hnm := (name_of_methodNamed Bd.named Bd.method).1
  have X0 : Stand pP l eE room_1 (sS.setVm sS.vm) mM #[(.int p1), (.int p2), (.long p3), (.long p4)] below meth cC s₁ [] 0 0 := Stand.of_body Bd
  have e0 : s₁.heap = h0 := by rw [← hh, Bd.state]; rfl
  have N0 := Fr.nil n0
  have pre0 : ∀ t_, Steps pP.tables eE below (s₁.setTop (mkF mM 0 #[.val (.int p1), .val (.int p2), .val (.long p3), .second, .val (.long p4), .second, .unset, .unset, .unset, .unset, .unset, .unset, .unset, .unset, .unset, .unset, .unset, .unset, .unset, .unset, .unset, .unset, .unset, .unset, .unset, .unset, .unset] [])) t_ → Steps pP.tables eE below (s₁.setTop (entryFrame mM #[(.int p1), (.int p2), (.long p3), (.long p4)] maxLocals)) t_ := fun t_ k_ => castTop (ef_law11 mM p1 p2 p3 p4) k_
  have hZ : Z.Warmed39 (sS.setVm sS.vm).vm := hZ
  have hown : (sS.setVm sS.vm).vm.findClass "com/example/rolling_rung/rollingrung/schema/FieldSameDefinitionPinLaw" = some mM.cls := hown
  have hS0 : sS.Since sS.vm 0 := (State.WarmedH.refl sS).since 0
  have hk0 : 0 ≤ h0.size := Nat.zero_le _
  have CR0 := CHr.refl hCH
  obtain ⟨T_1, h_1, L_1, X_1, e_1, N_1, Kc_1, st_1⟩ := pc_pre p1 p2 p3 p4 sn cn qa qb ra rb ta sa sb ca0 ca1 (1 : Int32) (1 : Int32) tb nb cb0 cb1 X0 hx hZ hw hby hml hown e0 N0 Z0 hEQ
  have Z_1 : n0 ≤ h_1.size := (Nat.le_trans Z0 Kc_1.1)
  have K_1 : Keep h0 h_1 [] := (Keep.refl h0 []).trans Kc_1 all0
  have hk_1 : _ ≤ h_1.size := Nat.le_trans hk0 Kc_1.1
  have Ca_1 := CHr.keep Kc_1 all0 CR0.1
  have CR_1 := CR0.trans Ca_1
  obtain ⟨T_2, h_2, X_2, e_2, E_2, A_2, D_2, -, st_2⟩ := newO X_1 hx hZ hown (ow hw 3 rfl) (ow hw 4 rfl) (ow hw 5 rfl) e_1 (g := (mkF mM 283 (lc74 p1 p2 p3 p4 sn cn ta tb qa qb ra rb sa sb nb ca0 ca1 cb0 cb1) [])) rfl (hb hby at_283) (by decide) (by decide)
  obtain ⟨b_2, g_2⟩ : ∃ z, z = h_1.size := ⟨_, rfl⟩
  rw [← g_2] at A_2 D_2 st_2
  have g_b_2 : n0 ≤ b_2 := Nat.le_trans Z_1 (Nat.le_of_eq g_2.symm)
  have sz_b_2 : h0.size ≤ b_2 := Nat.le_trans K_1.1 (Nat.le_of_eq g_2.symm)
  have Z_2 : n0 ≤ h_2.size := (Nat.le_trans Z_1 E_2.1)
  have K_2 : Keep h0 h_2 [] := K_1.ext E_2
  have hk_2 : _ ≤ h_2.size := Nat.le_trans hk_1 E_2.1
  have Ca_2 := CHr.ext E_2 CR_1.1
  have CR_2 := CR_1.trans Ca_2
  have F_name_b_2__2 : Fld Z h_2 b_2 "com/example/rolling_rung/rollingrung/schema/Field" "name" "Ljava/lang/String;" .null := D_2 (Or.inr (ow hw 61 rfl)) (ty := (.object "java/lang/String")) (by decide)
  have F_number_b_2__2 : Fld Z h_2 b_2 "com/example/rolling_rung/rollingrung/schema/Field" "number" "I" (.int (0 : Int32)) := D_2 (Or.inr (ow hw 63 rfl)) (ty := .int) (by decide)
  have F_type_b_2__2 : Fld Z h_2 b_2 "com/example/rolling_rung/rollingrung/schema/Field" "type" "Lcom/example/rolling_rung/rollingrung/schema/FieldType;" .null := D_2 (Or.inr (ow hw 65 rfl)) (ty := (.object "com/example/rolling_rung/rollingrung/schema/FieldType")) (by decide)
  have F_required_b_2__2 : Fld Z h_2 b_2 "com/example/rolling_rung/rollingrung/schema/Field" "required" "Z" (.int (0 : Int32)) := D_2 (Or.inr (ow hw 67 rfl)) (ty := .boolean) (by decide)
  have F_repeated_b_2__2 : Fld Z h_2 b_2 "com/example/rolling_rung/rollingrung/schema/Field" "repeated" "Z" (.int (0 : Int32)) := D_2 (Or.inr (ow hw 69 rfl)) (ty := .boolean) (by decide)
  have F_state_b_2__2 : Fld Z h_2 b_2 "com/example/rolling_rung/rollingrung/schema/Field" "state" "Lcom/example/rolling_rung/rollingrung/schema/ElementState;" .null := D_2 (Or.inr (ow hw 71 rfl)) (ty := (.object "com/example/rolling_rung/rollingrung/schema/ElementState")) (by decide)
  have St_2_1 := ((own_sta_keep S_String_COMPACT_STRINGS Kc_1 all0).ext E_2)
  obtain ⟨_, _, ⟨T_3, L_3, k_3, n_3⟩, -, Xc_3, hSc_3, hgr_3, ⟨Lc_3, hQ_3, l_3, y_3, z_3, CHc_3⟩, st_3⟩ := callSS X_2 hx (y := MN9) hown (mvT hZ (ow hw 6 rfl)) (mvT hZ (ow hw 7 rfl)) (mvT hZ (ow hw 8 rfl)) (mvT hZ (ow hw 9 rfl)) (by decide) (backOfSH (W := 2) (rm_mk1 l Z a0 hw [] cs ca0 ca1 h_2 n0 Z_2 St_2_1 hcs hq_ca0) hZ (ow hw 9 rfl) (ow hw 8 rfl) (by decide) (by decide) (own_EW hw) CR_2.1) (g := (mkF mM 293 (lc74 p1 p2 p3 p4 sn cn ta tb qa qb ra rb sa sb nb ca0 ca1 cb0 cb1) [(.int ca1), (.int ca0), (.int (1 : Int32)), (.ref b_2), (.ref b_2)])) rfl (by rw [hml]; rfl) (argsL := [(.int (1 : Int32)), (.int ca0), (.int ca1)]) (rest := [(.ref b_2), (.ref b_2)]) (lenOf pd_9 rfl) rfl (by show 2 * 0 + _ ≤ _; exact Nat.le_of_eq rfl) (hb hby at_293) (fun _ _ => ⟨rfl, e_2, (by decide : 1 + 3 ≤ _), (by decide : 6 + 6 ≤ _)⟩)
  dsimp only [Pt.U, Pt.locs, Pt.cells, Pt.slots] at Xc_3 hSc_3 hgr_3 l_3 y_3 z_3 st_3 hQ_3 CHc_3
  subst l_3 y_3 z_3
  obtain ⟨X_3, hS_3, hZ_3, hown_3⟩ := rebS hS0 (show _ ≤ T_2.heap.size by rw [e_2]; exact hk_2) Xc_3 hSc_3 hgr_3 hZ hown
  obtain ⟨g__3, ⟨d__3, ⟨kd__3, ⟨rfl, N_3q, Kc_3, pfsz_g_3, pfsz_d_3, pfE_g_3, pfF_value_g_3, pfF_coder_g_3, pfV_d_3⟩⟩⟩⟩ := hQ_3
  have Z_3 : n0 ≤ T_3.heap.size := (Nat.le_trans Z_2 Kc_3.1)
  have K_3 : Keep h0 T_3.heap [] := K_2.trans Kc_3 all0
  have Ca_3 := CHc_3
  have CR_3 := CR_2.trans Ca_3
  have hk_3 : _ ≤ T_3.heap.size := Nat.le_refl _
  have sz_g__3 : h0.size ≤ g__3 := Nat.le_trans K_2.1 pfsz_g_3
  have g_g__3 : n0 ≤ g__3 := Nat.le_trans Z_2 pfsz_g_3
  have sz_d__3 : h0.size ≤ d__3 := Nat.le_trans K_2.1 pfsz_d_3
  have g_d__3 : n0 ≤ d__3 := Nat.le_trans Z_2 pfsz_d_3
  have N_3 := Fr.app N_1 N_3q
  have St_3_3 := (own_sta_keep ((own_sta_keep S_FieldType_STRING Kc_1 all0).ext E_2) Kc_3 all0)
  have St_3_4 := (own_sta_keep ((own_sta_keep S_FieldType_BYTES Kc_1 all0).ext E_2) Kc_3 all0)
  have St_3_5 := (own_sta_keep ((own_sta_keep S_FieldType_BOOL Kc_1 all0).ext E_2) Kc_3 all0)
  have St_3_6 := (own_sta_keep ((own_sta_keep S_FieldType_INT32 Kc_1 all0).ext E_2) Kc_3 all0)
  have St_3_7 := (own_sta_keep ((own_sta_keep S_FieldType_INT64 Kc_1 all0).ext E_2) Kc_3 all0)
  have St_3_8 := (own_sta_keep ((own_sta_keep S_FieldType_SINT32 Kc_1 all0).ext E_2) Kc_3 all0)
  have St_3_9 := (own_sta_keep ((own_sta_keep S_FieldType_SINT64 Kc_1 all0).ext E_2) Kc_3 all0)
  have St_3_10 := (own_sta_keep ((own_sta_keep S_FieldType_DOUBLE Kc_1 all0).ext E_2) Kc_3 all0)
  have St_3_11 := (own_sta_keep ((own_sta_keep S_FieldType_FLOAT Kc_1 all0).ext E_2) Kc_3 all0)
  obtain ⟨_, _, ⟨T_4, L_4, k_4, n_4⟩, -, X_4, ⟨Lc_4, hQ_4, l_4, y_4, z_4⟩, st_4⟩ := Jvm.LawKit.callS X_3 hx (y := MN10) hown_3 (mvT hZ_3 (ow hw 32 rfl)) (mvT hZ_3 (ow hw 33 rfl)) (mvT hZ_3 (ow hw 8 rfl)) (mvT hZ_3 (ow hw 34 rfl)) (by decide) (backOf (W := 4) (rm_typ l Z a0 hw [] ta t0 t1 t2 t3 t4 t5 t6 t7 t8 T_3.heap n0 Z_3 St_3_3 St_3_4 St_3_5 St_3_6 St_3_7 St_3_8 St_3_9 St_3_10 St_3_11) hZ_3 (ow hw 34 rfl) (ow hw 8 rfl) (by decide) (by decide)) (g := (mkF mM 299 (lc74 p1 p2 p3 p4 sn cn ta tb qa qb ra rb sa sb nb ca0 ca1 cb0 cb1) [(.int ta), (.int p1), (.ref g__3), (.ref b_2), (.ref b_2)])) rfl (by rw [hml]; rfl) (argsL := [(.int ta)]) (rest := [(.int p1), (.ref g__3), (.ref b_2), (.ref b_2)]) (lenOf pd_10 rfl) rfl (by show 2 * 0 + _ ≤ _; exact Nat.le_of_eq rfl) (hb hby at_299) (fun _ _ => ⟨rfl, rfl, (by decide : 4 + 0 ≤ _), (by decide : 12 + 0 ≤ _)⟩)
  dsimp only [Pt.U, Pt.locs, Pt.cells, Pt.slots] at X_4 l_4 y_4 z_4 st_4 hQ_4
  subst l_4 y_4 z_4
  obtain ⟨rfl, N_4q, eh_4⟩ := hQ_4
  have N_4 := Fr.app N_3 N_4q
  have St_3_12 := (own_sta_keep ((own_sta_keep S_ElementState_ABSENT Kc_1 all0).ext E_2) Kc_3 all0)
  have St_3_13 := (own_sta_keep ((own_sta_keep S_ElementState_DELETE_ONLY Kc_1 all0).ext E_2) Kc_3 all0)
  have St_3_14 := (own_sta_keep ((own_sta_keep S_ElementState_WRITE_ONLY Kc_1 all0).ext E_2) Kc_3 all0)
  have St_3_15 := (own_sta_keep ((own_sta_keep S_ElementState_PUBLIC Kc_1 all0).ext E_2) Kc_3 all0)
  obtain ⟨_, _, ⟨T_5, L_5, k_5, n_5⟩, -, X_5, ⟨Lc_5, hQ_5, l_5, y_5, z_5⟩, st_5⟩ := Jvm.LawKit.callS X_4 hx (y := MN11) hown_3 (mvT hZ_3 (ow hw 38 rfl)) (mvT hZ_3 (ow hw 39 rfl)) (mvT hZ_3 (ow hw 8 rfl)) (mvT hZ_3 (ow hw 40 rfl)) (by decide) (backOf (W := 7) (rm_sta l Z a0 hw [] sa es0 es1 es2 es3 T_3.heap n0 Z_3 St_3_12 St_3_13 St_3_14 St_3_15) hZ_3 (ow hw 40 rfl) (ow hw 8 rfl) (by decide) (by decide)) (g := (mkF mM 308 (lc74 p1 p2 p3 p4 sn cn ta tb qa qb ra rb sa sb nb ca0 ca1 cb0 cb1) [(.int sa), (.int ra), (.int qa), (.ref (own_ty ta t0 t1 t2 t3 t4 t5 t6 t7 t8)), (.int p1), (.ref g__3), (.ref b_2), (.ref b_2)])) rfl (by rw [hml]; rfl) (argsL := [(.int sa)]) (rest := [(.int ra), (.int qa), (.ref (own_ty ta t0 t1 t2 t3 t4 t5 t6 t7 t8)), (.int p1), (.ref g__3), (.ref b_2), (.ref b_2)]) (lenOf pd_11 rfl) rfl (by show 2 * 0 + _ ≤ _; exact Nat.le_of_eq rfl) (hb hby at_308) (fun _ _ => ⟨rfl, eh_4, (by decide : 4 + 0 ≤ _), (by decide : 12 + 0 ≤ _)⟩)
  dsimp only [Pt.U, Pt.locs, Pt.cells, Pt.slots] at X_5 l_5 y_5 z_5 st_5 hQ_5
  subst l_5 y_5 z_5
  obtain ⟨rfl, N_5q, eh_5⟩ := hQ_5
  have N_5 := Fr.app N_4 N_5q
  obtain ⟨_, _, ⟨T_6, L_6, k_6, n_6⟩, -, Xc_6, hSc_6, hgr_6, ⟨Lc_6, hQ_6, l_6, y_6, z_6, CHc_6⟩, st_6⟩ := X_5.specialBackS hx (y := MN12) rfl hown_3 (mvT hZ_3 (ow hw 44 rfl)) (mvT hZ_3 (ow hw 45 rfl)) (mvT hZ_3 (ow hw 46 rfl)) (by decide) (backOfSH (W := 1) (rm_fini l Z a0 hw [] b_2 g__3 p1 (own_ty ta t0 t1 t2 t3 t4 t5 t6 t7 t8) qa ra (own_st sa es0 es1 es2 es3) T_3.heap n0 Z_3 (F_name_b_2__2.keep Kc_3 nin0) (F_number_b_2__2.keep Kc_3 nin0) (F_type_b_2__2.keep Kc_3 nin0) (F_required_b_2__2.keep Kc_3 nin0) (F_repeated_b_2__2.keep Kc_3 nin0) (F_state_b_2__2.keep Kc_3 nin0) (A_2.keep Kc_3) g_b_2) hZ_3 (ow hw 46 rfl) (ow hw 5 rfl) (by decide) (by decide) (own_EW hw) CR_3.1) (g := (mkF mM 311 (lc74 p1 p2 p3 p4 sn cn ta tb qa qb ra rb sa sb nb ca0 ca1 cb0 cb1) [(.ref (own_st sa es0 es1 es2 es3)), (.int ra), (.int qa), (.ref (own_ty ta t0 t1 t2 t3 t4 t5 t6 t7 t8)), (.int p1), (.ref g__3), (.ref b_2), (.ref b_2)])) rfl (by rw [hml]; rfl) (Steps.refl _) (a := b_2) (argsL := [(.ref g__3), (.int p1), (.ref (own_ty ta t0 t1 t2 t3 t4 t5 t6 t7 t8)), (.int qa), (.int ra), (.ref (own_st sa es0 es1 es2 es3))]) (rest := [(.ref b_2)]) (lenOf pd_12 rfl) rfl (by show 2 * 0 + _ ≤ _; exact Nat.le_of_eq rfl) (hb hby at_311) (fun _ _ => ⟨rfl, eh_5, (by decide : 4 + 6 ≤ _), (by decide : 12 + 64 ≤ _)⟩)
  dsimp only [Pt.U, Pt.locs, Pt.cells, Pt.slots] at Xc_6 hSc_6 hgr_6 l_6 y_6 z_6 st_6 hQ_6 CHc_6
  subst l_6 y_6 z_6
  obtain ⟨X_6, hS_6, hZ_6, hown_6⟩ := rebS hS_3 (show _ ≤ T_5.heap.size by rw [eh_5]; exact hk_3) Xc_6 hSc_6 hgr_6 hZ_3 hown_3
  obtain ⟨rfl, N_6q, Kc_6, pfF_name_a_6, pfF_number_a_6, pfF_type_a_6, pfF_required_a_6, pfF_repeated_a_6, pfF_state_a_6, pfE_a_6⟩ := hQ_6
  have Z_6 : n0 ≤ T_6.heap.size := (Nat.le_trans Z_3 Kc_6.1)
  have K_6 : Keep h0 T_6.heap [] := K_3.trans Kc_6 (allS (Or.inr sz_b_2) all0)
  have Ca_6 := CHc_6
  have CR_6 := CR_3.trans Ca_6
  have hk_6 : _ ≤ T_6.heap.size := Nat.le_refl _
  have N_6 := Fr.app N_5 N_6q
  obtain ⟨T_7, h_7, X_7, e_7, E_7, A_7, D_7, -, st_7⟩ := newO X_6 hx hZ_6 hown_6 (ow hw 3 rfl) (ow hw 4 rfl) (ow hw 5 rfl) rfl (g := (mkF mM 316 (lc75 p1 p2 p3 p4 sn cn ta tb qa qb ra rb sa sb nb ca0 ca1 cb0 cb1 b_2) [])) rfl (hb hby at_316) (by decide) (by decide)
  obtain ⟨b_7, g_7⟩ : ∃ z, z = T_6.heap.size := ⟨_, rfl⟩
  rw [← g_7] at A_7 D_7 st_7
  have g_b_7 : n0 ≤ b_7 := Nat.le_trans Z_6 (Nat.le_of_eq g_7.symm)
  have sz_b_7 : h0.size ≤ b_7 := Nat.le_trans K_6.1 (Nat.le_of_eq g_7.symm)
  have Z_7 : n0 ≤ h_7.size := (Nat.le_trans Z_6 E_7.1)
  have K_7 : Keep h0 h_7 [] := K_6.ext E_7
  have hk_7 : _ ≤ h_7.size := Nat.le_trans hk_6 E_7.1
  have Ca_7 := CHr.ext E_7 CR_6.1
  have CR_7 := CR_6.trans Ca_7
  have F_name_b_7__7 : Fld Z h_7 b_7 "com/example/rolling_rung/rollingrung/schema/Field" "name" "Ljava/lang/String;" .null := D_7 (Or.inr (ow hw 61 rfl)) (ty := (.object "java/lang/String")) (by decide)
  have F_number_b_7__7 : Fld Z h_7 b_7 "com/example/rolling_rung/rollingrung/schema/Field" "number" "I" (.int (0 : Int32)) := D_7 (Or.inr (ow hw 63 rfl)) (ty := .int) (by decide)
  have F_type_b_7__7 : Fld Z h_7 b_7 "com/example/rolling_rung/rollingrung/schema/Field" "type" "Lcom/example/rolling_rung/rollingrung/schema/FieldType;" .null := D_7 (Or.inr (ow hw 65 rfl)) (ty := (.object "com/example/rolling_rung/rollingrung/schema/FieldType")) (by decide)
  have F_required_b_7__7 : Fld Z h_7 b_7 "com/example/rolling_rung/rollingrung/schema/Field" "required" "Z" (.int (0 : Int32)) := D_7 (Or.inr (ow hw 67 rfl)) (ty := .boolean) (by decide)
  have F_repeated_b_7__7 : Fld Z h_7 b_7 "com/example/rolling_rung/rollingrung/schema/Field" "repeated" "Z" (.int (0 : Int32)) := D_7 (Or.inr (ow hw 69 rfl)) (ty := .boolean) (by decide)
  have F_state_b_7__7 : Fld Z h_7 b_7 "com/example/rolling_rung/rollingrung/schema/Field" "state" "Lcom/example/rolling_rung/rollingrung/schema/ElementState;" .null := D_7 (Or.inr (ow hw 71 rfl)) (ty := (.object "com/example/rolling_rung/rollingrung/schema/ElementState")) (by decide)
  have St_5_1 := ((own_sta_keep (own_sta_keep St_2_1 Kc_3 all0) Kc_6 (allS (own_exa_ns (A_2.keep Kc_3)) all0)).ext E_7)
  obtain ⟨_, _, ⟨T_8, L_8, k_8, n_8⟩, -, Xc_8, hSc_8, hgr_8, ⟨Lc_8, hQ_8, l_8, y_8, z_8, CHc_8⟩, st_8⟩ := callSS X_7 hx (y := MN9) hown_6 (mvT hZ_6 (ow hw 6 rfl)) (mvT hZ_6 (ow hw 7 rfl)) (mvT hZ_6 (ow hw 8 rfl)) (mvT hZ_6 (ow hw 9 rfl)) (by decide) (backOfSH (W := 2) (rm_mk1 l Z a0 hw [] cs cb0 cb1 h_7 n0 Z_7 St_5_1 hcs hq_cb0) hZ_6 (ow hw 9 rfl) (ow hw 8 rfl) (by decide) (by decide) (own_EW hw) CR_7.1) (g := (mkF mM 326 (lc75 p1 p2 p3 p4 sn cn ta tb qa qb ra rb sa sb nb ca0 ca1 cb0 cb1 b_2) [(.int cb1), (.int cb0), (.int (1 : Int32)), (.ref b_7), (.ref b_7)])) rfl (by rw [hml]; rfl) (argsL := [(.int (1 : Int32)), (.int cb0), (.int cb1)]) (rest := [(.ref b_7), (.ref b_7)]) (lenOf pd_9 rfl) rfl (by show 2 * 0 + _ ≤ _; exact Nat.le_of_eq rfl) (hb hby at_326) (fun _ _ => ⟨rfl, e_7, (by decide : 11 + 3 ≤ _), (by decide : 82 + 6 ≤ _)⟩)
  dsimp only [Pt.U, Pt.locs, Pt.cells, Pt.slots] at Xc_8 hSc_8 hgr_8 l_8 y_8 z_8 st_8 hQ_8 CHc_8
  subst l_8 y_8 z_8
  obtain ⟨X_8, hS_8, hZ_8, hown_8⟩ := rebS hS_6 (show _ ≤ T_7.heap.size by rw [e_7]; exact hk_7) Xc_8 hSc_8 hgr_8 hZ_6 hown_6
  obtain ⟨g__8, ⟨d__8, ⟨kd__8, ⟨rfl, N_8q, Kc_8, pfsz_g_8, pfsz_d_8, pfE_g_8, pfF_value_g_8, pfF_coder_g_8, pfV_d_8⟩⟩⟩⟩ := hQ_8
  have Z_8 : n0 ≤ T_8.heap.size := (Nat.le_trans Z_7 Kc_8.1)
  have K_8 : Keep h0 T_8.heap [] := K_7.trans Kc_8 all0
  have Ca_8 := CHc_8
  have CR_8 := CR_7.trans Ca_8
  have hk_8 : _ ≤ T_8.heap.size := Nat.le_refl _
  have sz_g__8 : h0.size ≤ g__8 := Nat.le_trans K_7.1 pfsz_g_8
  have g_g__8 : n0 ≤ g__8 := Nat.le_trans Z_7 pfsz_g_8
  have sz_d__8 : h0.size ≤ d__8 := Nat.le_trans K_7.1 pfsz_d_8
  have g_d__8 : n0 ≤ d__8 := Nat.le_trans Z_7 pfsz_d_8
  have N_8 := Fr.app N_6 N_8q
  have St_6_3 := (own_sta_keep ((own_sta_keep St_3_3 Kc_6 (allS (own_exa_ns (A_2.keep Kc_3)) all0)).ext E_7) Kc_8 all0)
  have St_6_4 := (own_sta_keep ((own_sta_keep St_3_4 Kc_6 (allS (own_exa_ns (A_2.keep Kc_3)) all0)).ext E_7) Kc_8 all0)
  have St_6_5 := (own_sta_keep ((own_sta_keep St_3_5 Kc_6 (allS (own_exa_ns (A_2.keep Kc_3)) all0)).ext E_7) Kc_8 all0)
  have St_6_6 := (own_sta_keep ((own_sta_keep St_3_6 Kc_6 (allS (own_exa_ns (A_2.keep Kc_3)) all0)).ext E_7) Kc_8 all0)
  have St_6_7 := (own_sta_keep ((own_sta_keep St_3_7 Kc_6 (allS (own_exa_ns (A_2.keep Kc_3)) all0)).ext E_7) Kc_8 all0)
  have St_6_8 := (own_sta_keep ((own_sta_keep St_3_8 Kc_6 (allS (own_exa_ns (A_2.keep Kc_3)) all0)).ext E_7) Kc_8 all0)
  have St_6_9 := (own_sta_keep ((own_sta_keep St_3_9 Kc_6 (allS (own_exa_ns (A_2.keep Kc_3)) all0)).ext E_7) Kc_8 all0)
  have St_6_10 := (own_sta_keep ((own_sta_keep St_3_10 Kc_6 (allS (own_exa_ns (A_2.keep Kc_3)) all0)).ext E_7) Kc_8 all0)
  have St_6_11 := (own_sta_keep ((own_sta_keep St_3_11 Kc_6 (allS (own_exa_ns (A_2.keep Kc_3)) all0)).ext E_7) Kc_8 all0)
  obtain ⟨_, _, ⟨T_9, L_9, k_9, n_9⟩, -, X_9, ⟨Lc_9, hQ_9, l_9, y_9, z_9⟩, st_9⟩ := Jvm.LawKit.callS X_8 hx (y := MN10) hown_8 (mvT hZ_8 (ow hw 32 rfl)) (mvT hZ_8 (ow hw 33 rfl)) (mvT hZ_8 (ow hw 8 rfl)) (mvT hZ_8 (ow hw 34 rfl)) (by decide) (backOf (W := 4) (rm_typ l Z a0 hw [] tb t0 t1 t2 t3 t4 t5 t6 t7 t8 T_8.heap n0 Z_8 St_6_3 St_6_4 St_6_5 St_6_6 St_6_7 St_6_8 St_6_9 St_6_10 St_6_11) hZ_8 (ow hw 34 rfl) (ow hw 8 rfl) (by decide) (by decide)) (g := (mkF mM 333 (lc75 p1 p2 p3 p4 sn cn ta tb qa qb ra rb sa sb nb ca0 ca1 cb0 cb1 b_2) [(.int tb), (.int nb), (.ref g__8), (.ref b_7), (.ref b_7)])) rfl (by rw [hml]; rfl) (argsL := [(.int tb)]) (rest := [(.int nb), (.ref g__8), (.ref b_7), (.ref b_7)]) (lenOf pd_10 rfl) rfl (by show 2 * 0 + _ ≤ _; exact Nat.le_of_eq rfl) (hb hby at_333) (fun _ _ => ⟨rfl, rfl, (by decide : 14 + 0 ≤ _), (by decide : 88 + 0 ≤ _)⟩)
  dsimp only [Pt.U, Pt.locs, Pt.cells, Pt.slots] at X_9 l_9 y_9 z_9 st_9 hQ_9
  subst l_9 y_9 z_9
  obtain ⟨rfl, N_9q, eh_9⟩ := hQ_9
  have N_9 := Fr.app N_8 N_9q
  have St_6_12 := (own_sta_keep ((own_sta_keep St_3_12 Kc_6 (allS (own_exa_ns (A_2.keep Kc_3)) all0)).ext E_7) Kc_8 all0)
  have St_6_13 := (own_sta_keep ((own_sta_keep St_3_13 Kc_6 (allS (own_exa_ns (A_2.keep Kc_3)) all0)).ext E_7) Kc_8 all0)
  have St_6_14 := (own_sta_keep ((own_sta_keep St_3_14 Kc_6 (allS (own_exa_ns (A_2.keep Kc_3)) all0)).ext E_7) Kc_8 all0)
  have St_6_15 := (own_sta_keep ((own_sta_keep St_3_15 Kc_6 (allS (own_exa_ns (A_2.keep Kc_3)) all0)).ext E_7) Kc_8 all0)
  obtain ⟨_, _, ⟨T_10, L_10, k_10, n_10⟩, -, X_10, ⟨Lc_10, hQ_10, l_10, y_10, z_10⟩, st_10⟩ := Jvm.LawKit.callS X_9 hx (y := MN11) hown_8 (mvT hZ_8 (ow hw 38 rfl)) (mvT hZ_8 (ow hw 39 rfl)) (mvT hZ_8 (ow hw 8 rfl)) (mvT hZ_8 (ow hw 40 rfl)) (by decide) (backOf (W := 7) (rm_sta l Z a0 hw [] sb es0 es1 es2 es3 T_8.heap n0 Z_8 St_6_12 St_6_13 St_6_14 St_6_15) hZ_8 (ow hw 40 rfl) (ow hw 8 rfl) (by decide) (by decide)) (g := (mkF mM 342 (lc75 p1 p2 p3 p4 sn cn ta tb qa qb ra rb sa sb nb ca0 ca1 cb0 cb1 b_2) [(.int sb), (.int rb), (.int qb), (.ref (own_ty tb t0 t1 t2 t3 t4 t5 t6 t7 t8)), (.int nb), (.ref g__8), (.ref b_7), (.ref b_7)])) rfl (by rw [hml]; rfl) (argsL := [(.int sb)]) (rest := [(.int rb), (.int qb), (.ref (own_ty tb t0 t1 t2 t3 t4 t5 t6 t7 t8)), (.int nb), (.ref g__8), (.ref b_7), (.ref b_7)]) (lenOf pd_11 rfl) rfl (by show 2 * 0 + _ ≤ _; exact Nat.le_of_eq rfl) (hb hby at_342) (fun _ _ => ⟨rfl, eh_9, (by decide : 14 + 0 ≤ _), (by decide : 88 + 0 ≤ _)⟩)
  dsimp only [Pt.U, Pt.locs, Pt.cells, Pt.slots] at X_10 l_10 y_10 z_10 st_10 hQ_10
  subst l_10 y_10 z_10
  obtain ⟨rfl, N_10q, eh_10⟩ := hQ_10
  have N_10 := Fr.app N_9 N_10q
  obtain ⟨_, _, ⟨T_11, L_11, k_11, n_11⟩, -, Xc_11, hSc_11, hgr_11, ⟨Lc_11, hQ_11, l_11, y_11, z_11, CHc_11⟩, st_11⟩ := X_10.specialBackS hx (y := MN12) rfl hown_8 (mvT hZ_8 (ow hw 44 rfl)) (mvT hZ_8 (ow hw 45 rfl)) (mvT hZ_8 (ow hw 46 rfl)) (by decide) (backOfSH (W := 1) (rm_fini l Z a0 hw [] b_7 g__8 nb (own_ty tb t0 t1 t2 t3 t4 t5 t6 t7 t8) qb rb (own_st sb es0 es1 es2 es3) T_8.heap n0 Z_8 (F_name_b_7__7.keep Kc_8 nin0) (F_number_b_7__7.keep Kc_8 nin0) (F_type_b_7__7.keep Kc_8 nin0) (F_required_b_7__7.keep Kc_8 nin0) (F_repeated_b_7__7.keep Kc_8 nin0) (F_state_b_7__7.keep Kc_8 nin0) (A_7.keep Kc_8) g_b_7) hZ_8 (ow hw 46 rfl) (ow hw 5 rfl) (by decide) (by decide) (own_EW hw) CR_8.1) (g := (mkF mM 345 (lc75 p1 p2 p3 p4 sn cn ta tb qa qb ra rb sa sb nb ca0 ca1 cb0 cb1 b_2) [(.ref (own_st sb es0 es1 es2 es3)), (.int rb), (.int qb), (.ref (own_ty tb t0 t1 t2 t3 t4 t5 t6 t7 t8)), (.int nb), (.ref g__8), (.ref b_7), (.ref b_7)])) rfl (by rw [hml]; rfl) (Steps.refl _) (a := b_7) (argsL := [(.ref g__8), (.int nb), (.ref (own_ty tb t0 t1 t2 t3 t4 t5 t6 t7 t8)), (.int qb), (.int rb), (.ref (own_st sb es0 es1 es2 es3))]) (rest := [(.ref b_7)]) (lenOf pd_12 rfl) rfl (by show 2 * 0 + _ ≤ _; exact Nat.le_of_eq rfl) (hb hby at_345) (fun _ _ => ⟨rfl, eh_10, (by decide : 14 + 6 ≤ _), (by decide : 88 + 64 ≤ _)⟩)
  dsimp only [Pt.U, Pt.locs, Pt.cells, Pt.slots] at Xc_11 hSc_11 hgr_11 l_11 y_11 z_11 st_11 hQ_11 CHc_11
  subst l_11 y_11 z_11
  obtain ⟨X_11, hS_11, hZ_11, hown_11⟩ := rebS hS_8 (show _ ≤ T_10.heap.size by rw [eh_10]; exact hk_8) Xc_11 hSc_11 hgr_11 hZ_8 hown_8
  obtain ⟨rfl, N_11q, Kc_11, pfF_name_a_11, pfF_number_a_11, pfF_type_a_11, pfF_required_a_11, pfF_repeated_a_11, pfF_state_a_11, pfE_a_11⟩ := hQ_11
  have Z_11 : n0 ≤ T_11.heap.size := (Nat.le_trans Z_8 Kc_11.1)
  have K_11 : Keep h0 T_11.heap [] := K_8.trans Kc_11 (allS (Or.inr sz_b_7) all0)
  have Ca_11 := CHc_11
  have CR_11 := CR_8.trans Ca_11
  have hk_11 : _ ≤ T_11.heap.size := Nat.le_refl _
  have N_11 := Fr.app N_10 N_11q
  have St_7_1 := (own_sta_keep (own_sta_keep St_5_1 Kc_8 all0) Kc_11 (allS (own_exa_ns (A_7.keep Kc_8)) all0))
  obtain ⟨cq_14, kq_14, q_14a, q_14b, q_14c⟩ := isOf hZ_11 rfl (((pfE_a_6.ext E_7).keep Kc_8).keep Kc_11)
  obtain ⟨_, _, ⟨T_14, L_14, k_14, n_14⟩, -, X_14, ⟨Lc_14, hQ_14, l_14, y_14, z_14⟩, st_14⟩ := X_11.virtualBack hx (y := MN13) (z := MN13) hown_11 (mvT hZ_11 (ow hw 76 rfl)) (mvT hZ_11 (ow hw 77 rfl)) (notFace_of_selects (args := #[]) (mvT hZ_11 (ow hw 79 rfl))) (mvT hZ_11 (ow hw 79 rfl)) (mvT hZ_11 (ow hw 78 rfl)) (by decide) (backOf (W := 0) (rm_sd l Z a0 hw [] b_2 b_7 g__3 g__8 p1 (own_ty ta t0 t1 t2 t3 t4 t5 t6 t7 t8) (nar .boolean qa) (nar .boolean ra) nb (own_ty tb t0 t1 t2 t3 t4 t5 t6 t7 t8) (nar .boolean qb) (nar .boolean rb) d__3 d__8 (own_e1 (nar .byte ((nar .char ca0).toInt8.toInt32)) (nar .byte ((nar .char cb0).toInt8.toInt32))) cs T_11.heap n0 Z_11 (((pfF_name_a_6.ext E_7).keep Kc_8 nin0).keep Kc_11 (ninS (Nat.ne_of_lt (Nat.lt_of_lt_of_le pfE_a_6.lt (Nat.le_of_eq g_7.symm))) nin0)) (((pfF_number_a_6.ext E_7).keep Kc_8 nin0).keep Kc_11 (ninS (Nat.ne_of_lt (Nat.lt_of_lt_of_le pfE_a_6.lt (Nat.le_of_eq g_7.symm))) nin0)) (((pfF_type_a_6.ext E_7).keep Kc_8 nin0).keep Kc_11 (ninS (Nat.ne_of_lt (Nat.lt_of_lt_of_le pfE_a_6.lt (Nat.le_of_eq g_7.symm))) nin0)) (((pfF_required_a_6.ext E_7).keep Kc_8 nin0).keep Kc_11 (ninS (Nat.ne_of_lt (Nat.lt_of_lt_of_le pfE_a_6.lt (Nat.le_of_eq g_7.symm))) nin0)) (((pfF_repeated_a_6.ext E_7).keep Kc_8 nin0).keep Kc_11 (ninS (Nat.ne_of_lt (Nat.lt_of_lt_of_le pfE_a_6.lt (Nat.le_of_eq g_7.symm))) nin0)) pfF_name_a_11 pfF_number_a_11 pfF_type_a_11 pfF_required_a_11 pfF_repeated_a_11 ((((pfF_value_g_3.keep Kc_6 (ninS (Ne.symm (Nat.ne_of_lt (Nat.lt_of_lt_of_le A_2.lt pfsz_g_3))) nin0)).ext E_7).keep Kc_8 nin0).keep Kc_11 (ninS (Nat.ne_of_lt (Nat.lt_of_lt_of_le (pfE_g_3.keep Kc_6).lt (Nat.le_of_eq g_7.symm))) nin0)) ((((pfF_coder_g_3.keep Kc_6 (ninS (Ne.symm (Nat.ne_of_lt (Nat.lt_of_lt_of_le A_2.lt pfsz_g_3))) nin0)).ext E_7).keep Kc_8 nin0).keep Kc_11 (ninS (Nat.ne_of_lt (Nat.lt_of_lt_of_le (pfE_g_3.keep Kc_6).lt (Nat.le_of_eq g_7.symm))) nin0)) ((((pfE_g_3.keep Kc_6).ext E_7).keep Kc_8).keep Kc_11) (pfF_value_g_8.keep Kc_11 (ninS (Ne.symm (Nat.ne_of_lt (Nat.lt_of_lt_of_le A_7.lt pfsz_g_8))) nin0)) (pfF_coder_g_8.keep Kc_11 (ninS (Ne.symm (Nat.ne_of_lt (Nat.lt_of_lt_of_le A_7.lt pfsz_g_8))) nin0)) (pfE_g_8.keep Kc_11) St_7_1 hcs (rm_leq11 l Z a0 hw [] d__3 kd__3 d__8 kd__8 (nar .byte ((nar .char ca0).toInt8.toInt32)) (nar .byte ((nar .char cb0).toInt8.toInt32)) T_11.heap n0 Z_11 ((((pfV_d_3.keep Kc_6 (ninS (Ne.symm (Nat.ne_of_lt (Nat.lt_of_lt_of_le A_2.lt pfsz_d_3))) nin0)).ext E_7).keep Kc_8 nin0).keep Kc_11 (ninS (Nat.ne_of_lt (Nat.lt_of_lt_of_le (pfV_d_3.keep Kc_6 (ninS (Ne.symm (Nat.ne_of_lt (Nat.lt_of_lt_of_le A_2.lt pfsz_d_3))) nin0)).lt (Nat.le_of_eq g_7.symm))) nin0)) (pfV_d_8.keep Kc_11 (ninS (Ne.symm (Nat.ne_of_lt (Nat.lt_of_lt_of_le A_7.lt pfsz_d_8))) nin0))) (Nat.ne_of_lt (Nat.lt_of_lt_of_le ((pfE_g_3.keep Kc_6).ext E_7).lt pfsz_g_8))) hZ_11 (ow hw 80 rfl) (ow hw 5 rfl) (by decide) (by decide)) q_14a q_14c (g := (mkF mM 433 (lc78 p1 p2 p3 p4 sn cn ta tb qa qb ra rb sa sb nb ca0 ca1 cb0 cb1 b_2 b_7) [(.ref b_7), (.ref b_2)])) rfl (by rw [hml]; rfl) (Steps.refl _) (argsL := [(.ref b_7)]) (rest := []) (lenOf pd_13 rfl) rfl (by show 2 * 0 + _ ≤ _; exact Nat.le_of_eq rfl) (hb hby at_433) (fun _ _ => ⟨rfl, rfl, (by decide : 20 + 0 ≤ _), (by decide : 152 + 0 ≤ _)⟩)
  dsimp only [Pt.U, Pt.locs, Pt.cells, Pt.slots] at X_14 l_14 y_14 z_14 st_14 hQ_14
  subst l_14 y_14 z_14
  obtain ⟨rfl, N_14q, eh_14⟩ := hQ_14
  have N_14 := Fr.app N_11 N_14q
  obtain ⟨fs, hr, hrun, hended, hRE⟩ := X_14.leaveW hS_11 (show _ ≤ T_14.heap.size by rw [eh_14]; exact hk_11) (v := some (.int (1 : Int32))) (fun h => by rw [Bd.returns] at h; cases h)
  refine ⟨_, _, pre0 _ ?_, hrun, hended, _, _, rfl, ?_, ⟨_, rfl⟩, hRE.2.1, hRE.2.2.1, hRE.2.2.2.mono (by decide) (by decide)⟩
  · show oS pP eE below s₁ (mkF mM 0 (lc36 p1 p2 p3 p4) []) _
    refine st_1 _ ?_
    show oS pP eE below T_1 (mkF mM 283 (lc74 p1 p2 p3 p4 sn cn ta tb qa qb ra rb sa sb nb ca0 ca1 cb0 cb1) []) _
    refine st_2 _ ?_
    show oS pP eE below T_2 (mkF mM 286 (lc74 p1 p2 p3 p4 sn cn ta tb qa qb ra rb sa sb nb ca0 ca1 cb0 cb1) [(.ref b_2)]) _
    refine XS.dup X_2.here hx rfl (hb hby at_286) rfl rfl ?_
    refine XS.iload X_2.here hx rfl (hb hby at_287) rfl ?_
    refine XS.iload X_2.here hx rfl (hb hby at_289) rfl ?_
    refine XS.iload X_2.here hx rfl (hb hby at_291) rfl ?_
    show oS pP eE below T_2 (mkF mM 293 (lc74 p1 p2 p3 p4 sn cn ta tb qa qb ra rb sa sb nb ca0 ca1 cb0 cb1) [(.int ca1), (.int ca0), (.int (1 : Int32)), (.ref b_2), (.ref b_2)]) _
    refine st_3.trans ?_
    show oS pP eE below T_3 (mkF mM 296 (lc74 p1 p2 p3 p4 sn cn ta tb qa qb ra rb sa sb nb ca0 ca1 cb0 cb1) [(.ref g__3), (.ref b_2), (.ref b_2)]) _
    refine XS.iloadN X_3.here hx rfl (hb hby at_296) rfl ?_
    refine XS.iload X_3.here hx rfl (hb hby at_297) rfl ?_
    show oS pP eE below T_3 (mkF mM 299 (lc74 p1 p2 p3 p4 sn cn ta tb qa qb ra rb sa sb nb ca0 ca1 cb0 cb1) [(.int ta), (.int p1), (.ref g__3), (.ref b_2), (.ref b_2)]) _
    refine st_4 _ ?_
    show oS pP eE below T_4 (mkF mM 302 (lc74 p1 p2 p3 p4 sn cn ta tb qa qb ra rb sa sb nb ca0 ca1 cb0 cb1) [(.ref (own_ty ta t0 t1 t2 t3 t4 t5 t6 t7 t8)), (.int p1), (.ref g__3), (.ref b_2), (.ref b_2)]) _
    refine XS.iload X_4.here hx rfl (hb hby at_302) rfl ?_
    refine XS.iload X_4.here hx rfl (hb hby at_304) rfl ?_
    refine XS.iload X_4.here hx rfl (hb hby at_306) rfl ?_
    show oS pP eE below T_4 (mkF mM 308 (lc74 p1 p2 p3 p4 sn cn ta tb qa qb ra rb sa sb nb ca0 ca1 cb0 cb1) [(.int sa), (.int ra), (.int qa), (.ref (own_ty ta t0 t1 t2 t3 t4 t5 t6 t7 t8)), (.int p1), (.ref g__3), (.ref b_2), (.ref b_2)]) _
    refine st_5 _ ?_
    show oS pP eE below T_5 (mkF mM 311 (lc74 p1 p2 p3 p4 sn cn ta tb qa qb ra rb sa sb nb ca0 ca1 cb0 cb1) [(.ref (own_st sa es0 es1 es2 es3)), (.int ra), (.int qa), (.ref (own_ty ta t0 t1 t2 t3 t4 t5 t6 t7 t8)), (.int p1), (.ref g__3), (.ref b_2), (.ref b_2)]) _
    refine st_6.trans ?_
    show oS pP eE below T_6 (mkF mM 314 (lc74 p1 p2 p3 p4 sn cn ta tb qa qb ra rb sa sb nb ca0 ca1 cb0 cb1) [(.ref b_2)]) _
    refine XS.astore X_6.here hx rfl (hb hby at_314) rfl rfl (l' := (lc75 p1 p2 p3 p4 sn cn ta tb qa qb ra rb sa sb nb ca0 ca1 cb0 cb1 b_2)) rfl ?_
    show oS pP eE below T_6 (mkF mM 316 (lc75 p1 p2 p3 p4 sn cn ta tb qa qb ra rb sa sb nb ca0 ca1 cb0 cb1 b_2) []) _
    refine st_7 _ ?_
    show oS pP eE below T_7 (mkF mM 319 (lc75 p1 p2 p3 p4 sn cn ta tb qa qb ra rb sa sb nb ca0 ca1 cb0 cb1 b_2) [(.ref b_7)]) _
    refine XS.dup X_7.here hx rfl (hb hby at_319) rfl rfl ?_
    refine XS.iload X_7.here hx rfl (hb hby at_320) rfl ?_
    refine XS.iload X_7.here hx rfl (hb hby at_322) rfl ?_
    refine XS.iload X_7.here hx rfl (hb hby at_324) rfl ?_
    show oS pP eE below T_7 (mkF mM 326 (lc75 p1 p2 p3 p4 sn cn ta tb qa qb ra rb sa sb nb ca0 ca1 cb0 cb1 b_2) [(.int cb1), (.int cb0), (.int (1 : Int32)), (.ref b_7), (.ref b_7)]) _
    refine st_8.trans ?_
    show oS pP eE below T_8 (mkF mM 329 (lc75 p1 p2 p3 p4 sn cn ta tb qa qb ra rb sa sb nb ca0 ca1 cb0 cb1 b_2) [(.ref g__8), (.ref b_7), (.ref b_7)]) _
    refine XS.iload X_8.here hx rfl (hb hby at_329) rfl ?_
    refine XS.iload X_8.here hx rfl (hb hby at_331) rfl ?_
    show oS pP eE below T_8 (mkF mM 333 (lc75 p1 p2 p3 p4 sn cn ta tb qa qb ra rb sa sb nb ca0 ca1 cb0 cb1 b_2) [(.int tb), (.int nb), (.ref g__8), (.ref b_7), (.ref b_7)]) _
    refine st_9 _ ?_
    show oS pP eE below T_9 (mkF mM 336 (lc75 p1 p2 p3 p4 sn cn ta tb qa qb ra rb sa sb nb ca0 ca1 cb0 cb1 b_2) [(.ref (own_ty tb t0 t1 t2 t3 t4 t5 t6 t7 t8)), (.int nb), (.ref g__8), (.ref b_7), (.ref b_7)]) _
    refine XS.iload X_9.here hx rfl (hb hby at_336) rfl ?_
    refine XS.iload X_9.here hx rfl (hb hby at_338) rfl ?_
    refine XS.iload X_9.here hx rfl (hb hby at_340) rfl ?_
    show oS pP eE below T_9 (mkF mM 342 (lc75 p1 p2 p3 p4 sn cn ta tb qa qb ra rb sa sb nb ca0 ca1 cb0 cb1 b_2) [(.int sb), (.int rb), (.int qb), (.ref (own_ty tb t0 t1 t2 t3 t4 t5 t6 t7 t8)), (.int nb), (.ref g__8), (.ref b_7), (.ref b_7)]) _
    refine st_10 _ ?_
    show oS pP eE below T_10 (mkF mM 345 (lc75 p1 p2 p3 p4 sn cn ta tb qa qb ra rb sa sb nb ca0 ca1 cb0 cb1 b_2) [(.ref (own_st sb es0 es1 es2 es3)), (.int rb), (.int qb), (.ref (own_ty tb t0 t1 t2 t3 t4 t5 t6 t7 t8)), (.int nb), (.ref g__8), (.ref b_7), (.ref b_7)]) _
    refine st_11.trans ?_
    show oS pP eE below T_11 (mkF mM 348 (lc75 p1 p2 p3 p4 sn cn ta tb qa qb ra rb sa sb nb ca0 ca1 cb0 cb1 b_2) [(.ref b_7)]) _
    refine XS.astore X_11.here hx rfl (hb hby at_348) rfl rfl (l' := (lc76 p1 p2 p3 p4 sn cn ta tb qa qb ra rb sa sb nb ca0 ca1 cb0 cb1 b_2 b_7)) rfl ?_
    refine XS.iload X_11.here hx rfl (hb hby at_350) rfl ?_
    refine XS.iload X_11.here hx rfl (hb hby at_352) rfl ?_
    refine XS.icmpNo X_11.here hx rfl (hb hby at_354) rfl (by decide) ?_
    refine XS.iload X_11.here hx rfl (hb hby at_357) rfl ?_
    refine XS.iconst X_11.here hx rfl (hb hby at_359) ?_
    refine XS.icmpNo X_11.here hx rfl (hb hby at_360) rfl (by decide) ?_
    refine XS.iload X_11.here hx rfl (hb hby at_363) rfl ?_
    refine XS.iload X_11.here hx rfl (hb hby at_365) rfl ?_
    show oS pP eE below T_11 (mkF mM 367 (lc76 p1 p2 p3 p4 sn cn ta tb qa qb ra rb sa sb nb ca0 ca1 cb0 cb1 b_2 b_7) [(.int cb0), (.int ca0)]) _
    have jn_12 : ∀ t_, Steps pP.tables eE below (T_11.setTop (mkF mM 388 (lc76 p1 p2 p3 p4 sn cn ta tb qa qb ra rb sa sb nb ca0 ca1 cb0 cb1 b_2 b_7) [(.int (own_e1 ca0 cb0))])) t_ → Steps pP.tables eE below (T_11.setTop (mkF mM 367 (lc76 p1 p2 p3 p4 sn cn ta tb qa qb ra rb sa sb nb ca0 ca1 cb0 cb1 b_2 b_7) [(.int cb0), (.int ca0)])) t_ := by
      intro t_ kt
      by_cases hz : ca0 = cb0
      · have hj : (own_e1 ca0 cb0) = (1 : Int32) := if_pos hz
        rw [hj] at kt
        refine XS.icmpNo X_11.here hx rfl (hb hby at_367) rfl (XT.ii_ne_f hz) ?_
        refine XS.iload X_11.here hx rfl (hb hby at_370) rfl ?_
        refine XS.iconst X_11.here hx rfl (hb hby at_372) ?_
        refine XS.icmpYes X_11.here hx rfl (pc0 := 373) (pc' := 383) rfl (hb hby at_373) rfl (by decide) (by decide) (by decide) ?_
        refine XS.iconst X_11.here hx rfl (hb hby at_383) ?_
        show oS pP eE below T_11 (mkF mM 384 (lc76 p1 p2 p3 p4 sn cn ta tb qa qb ra rb sa sb nb ca0 ca1 cb0 cb1 b_2 b_7) [(.int (1 : Int32))]) _
        refine XS.goto X_11.here hx rfl (pc0 := 384) (pc' := 388) rfl (hb hby at_384) (by decide) (by decide) ?_
        show oS pP eE below T_11 (mkF mM 388 (lc76 p1 p2 p3 p4 sn cn ta tb qa qb ra rb sa sb nb ca0 ca1 cb0 cb1 b_2 b_7) [(.int (1 : Int32))]) _
        exact kt
      · have hj : (own_e1 ca0 cb0) = (0 : Int32) := if_neg hz
        rw [hj] at kt
        refine XS.icmpYes X_11.here hx rfl (pc0 := 367) (pc' := 387) rfl (hb hby at_367) rfl (XT.ii_ne_t hz) (by decide) (by decide) ?_
        refine XS.iconst X_11.here hx rfl (hb hby at_387) ?_
        show oS pP eE below T_11 (mkF mM 388 (lc76 p1 p2 p3 p4 sn cn ta tb qa qb ra rb sa sb nb ca0 ca1 cb0 cb1 b_2 b_7) [(.int (0 : Int32))]) _
        exact kt
    refine jn_12 _ ?_
    refine XS.istore X_11.here hx rfl (hb hby at_388) rfl (l' := (lc77 p1 p2 p3 p4 sn cn ta tb qa qb ra rb sa sb nb ca0 ca1 cb0 cb1 b_2 b_7)) rfl ?_
    refine XS.iload X_11.here hx rfl (hb hby at_390) rfl ?_
    show oS pP eE below T_11 (mkF mM 392 (lc77 p1 p2 p3 p4 sn cn ta tb qa qb ra rb sa sb nb ca0 ca1 cb0 cb1 b_2 b_7) [(.int (own_e1 ca0 cb0))]) _
    have jn_13 : ∀ t_, Steps pP.tables eE below (T_11.setTop (mkF mM 427 (lc77 p1 p2 p3 p4 sn cn ta tb qa qb ra rb sa sb nb ca0 ca1 cb0 cb1 b_2 b_7) [(.int (own_ex (own_e1 ca0 cb0) p1 nb ta tb qa qb ra rb))])) t_ → Steps pP.tables eE below (T_11.setTop (mkF mM 392 (lc77 p1 p2 p3 p4 sn cn ta tb qa qb ra rb sa sb nb ca0 ca1 cb0 cb1 b_2 b_7) [(.int (own_e1 ca0 cb0))])) t_ := by
      intro t_ kt
      by_cases k0 : (own_e1 ca0 cb0) = 0
      · have hj : (own_ex (own_e1 ca0 cb0) p1 nb ta tb qa qb ra rb) = (0 : Int32) := if_neg (fun z => z.1 k0)
        rw [hj] at kt
        refine XS.ifYes X_11.here hx rfl (pc0 := 392) (pc' := 426) rfl (hb hby at_392) rfl (XT.i0_eq_t k0) (by decide) (by decide) ?_
        refine XS.iconst X_11.here hx rfl (hb hby at_426) ?_
        show oS pP eE below T_11 (mkF mM 427 (lc77 p1 p2 p3 p4 sn cn ta tb qa qb ra rb sa sb nb ca0 ca1 cb0 cb1 b_2 b_7) [(.int (0 : Int32))]) _
        exact kt
      · by_cases k1 : p1 = nb
        · by_cases k2 : ta = tb
          · by_cases k3 : qa = qb
            · by_cases k4 : ra = rb
              · have hj : (own_ex (own_e1 ca0 cb0) p1 nb ta tb qa qb ra rb) = (1 : Int32) := if_pos ⟨k0, k1, k2, k3, k4⟩
                rw [hj] at kt
                refine XS.ifNo X_11.here hx rfl (hb hby at_392) rfl (XT.i0_eq_f k0) ?_
                refine XS.iloadN X_11.here hx rfl (hb hby at_395) rfl ?_
                refine XS.iload X_11.here hx rfl (hb hby at_396) rfl ?_
                refine XS.icmpNo X_11.here hx rfl (hb hby at_398) rfl (XT.ii_ne_f k1) ?_
                refine XS.iload X_11.here hx rfl (hb hby at_401) rfl ?_
                refine XS.iload X_11.here hx rfl (hb hby at_403) rfl ?_
                refine XS.icmpNo X_11.here hx rfl (hb hby at_405) rfl (XT.ii_ne_f k2) ?_
                show oS pP eE below T_11 (mkF mM 408 (lc77 p1 p2 p3 p4 sn cn ta tb qa qb ra rb sa sb nb ca0 ca1 cb0 cb1 b_2 b_7) []) _
                refine XS.iload X_11.here hx rfl (hb hby at_408) rfl ?_
                refine XS.iload X_11.here hx rfl (hb hby at_410) rfl ?_
                refine XS.icmpNo X_11.here hx rfl (hb hby at_412) rfl (XT.ii_ne_f k3) ?_
                refine XS.iload X_11.here hx rfl (hb hby at_415) rfl ?_
                refine XS.iload X_11.here hx rfl (hb hby at_417) rfl ?_
                refine XS.icmpNo X_11.here hx rfl (hb hby at_419) rfl (XT.ii_ne_f k4) ?_
                refine XS.iconst X_11.here hx rfl (hb hby at_422) ?_
                refine XS.goto X_11.here hx rfl (pc0 := 423) (pc' := 427) rfl (hb hby at_423) (by decide) (by decide) ?_
                show oS pP eE below T_11 (mkF mM 427 (lc77 p1 p2 p3 p4 sn cn ta tb qa qb ra rb sa sb nb ca0 ca1 cb0 cb1 b_2 b_7) [(.int (1 : Int32))]) _
                exact kt
              · have hj : (own_ex (own_e1 ca0 cb0) p1 nb ta tb qa qb ra rb) = (0 : Int32) := if_neg (fun z => k4 z.2.2.2.2)
                rw [hj] at kt
                refine XS.ifNo X_11.here hx rfl (hb hby at_392) rfl (XT.i0_eq_f k0) ?_
                refine XS.iloadN X_11.here hx rfl (hb hby at_395) rfl ?_
                refine XS.iload X_11.here hx rfl (hb hby at_396) rfl ?_
                refine XS.icmpNo X_11.here hx rfl (hb hby at_398) rfl (XT.ii_ne_f k1) ?_
                refine XS.iload X_11.here hx rfl (hb hby at_401) rfl ?_
                refine XS.iload X_11.here hx rfl (hb hby at_403) rfl ?_
                show oS pP eE below T_11 (mkF mM 405 (lc77 p1 p2 p3 p4 sn cn ta tb qa qb ra rb sa sb nb ca0 ca1 cb0 cb1 b_2 b_7) [(.int tb), (.int ta)]) _
                refine XS.icmpNo X_11.here hx rfl (hb hby at_405) rfl (XT.ii_ne_f k2) ?_
                refine XS.iload X_11.here hx rfl (hb hby at_408) rfl ?_
                refine XS.iload X_11.here hx rfl (hb hby at_410) rfl ?_
                refine XS.icmpNo X_11.here hx rfl (hb hby at_412) rfl (XT.ii_ne_f k3) ?_
                refine XS.iload X_11.here hx rfl (hb hby at_415) rfl ?_
                refine XS.iload X_11.here hx rfl (hb hby at_417) rfl ?_
                refine XS.icmpYes X_11.here hx rfl (pc0 := 419) (pc' := 426) rfl (hb hby at_419) rfl (XT.ii_ne_t k4) (by decide) (by decide) ?_
                refine XS.iconst X_11.here hx rfl (hb hby at_426) ?_
                show oS pP eE below T_11 (mkF mM 427 (lc77 p1 p2 p3 p4 sn cn ta tb qa qb ra rb sa sb nb ca0 ca1 cb0 cb1 b_2 b_7) [(.int (0 : Int32))]) _
                exact kt
            · have hj : (own_ex (own_e1 ca0 cb0) p1 nb ta tb qa qb ra rb) = (0 : Int32) := if_neg (fun z => k3 z.2.2.2.1)
              rw [hj] at kt
              refine XS.ifNo X_11.here hx rfl (hb hby at_392) rfl (XT.i0_eq_f k0) ?_
              refine XS.iloadN X_11.here hx rfl (hb hby at_395) rfl ?_
              refine XS.iload X_11.here hx rfl (hb hby at_396) rfl ?_
              refine XS.icmpNo X_11.here hx rfl (hb hby at_398) rfl (XT.ii_ne_f k1) ?_
              refine XS.iload X_11.here hx rfl (hb hby at_401) rfl ?_
              refine XS.iload X_11.here hx rfl (hb hby at_403) rfl ?_
              show oS pP eE below T_11 (mkF mM 405 (lc77 p1 p2 p3 p4 sn cn ta tb qa qb ra rb sa sb nb ca0 ca1 cb0 cb1 b_2 b_7) [(.int tb), (.int ta)]) _
              refine XS.icmpNo X_11.here hx rfl (hb hby at_405) rfl (XT.ii_ne_f k2) ?_
              refine XS.iload X_11.here hx rfl (hb hby at_408) rfl ?_
              refine XS.iload X_11.here hx rfl (hb hby at_410) rfl ?_
              refine XS.icmpYes X_11.here hx rfl (pc0 := 412) (pc' := 426) rfl (hb hby at_412) rfl (XT.ii_ne_t k3) (by decide) (by decide) ?_
              refine XS.iconst X_11.here hx rfl (hb hby at_426) ?_
              show oS pP eE below T_11 (mkF mM 427 (lc77 p1 p2 p3 p4 sn cn ta tb qa qb ra rb sa sb nb ca0 ca1 cb0 cb1 b_2 b_7) [(.int (0 : Int32))]) _
              exact kt
          · have hj : (own_ex (own_e1 ca0 cb0) p1 nb ta tb qa qb ra rb) = (0 : Int32) := if_neg (fun z => k2 z.2.2.1)
            rw [hj] at kt
            refine XS.ifNo X_11.here hx rfl (hb hby at_392) rfl (XT.i0_eq_f k0) ?_
            refine XS.iloadN X_11.here hx rfl (hb hby at_395) rfl ?_
            refine XS.iload X_11.here hx rfl (hb hby at_396) rfl ?_
            refine XS.icmpNo X_11.here hx rfl (hb hby at_398) rfl (XT.ii_ne_f k1) ?_
            refine XS.iload X_11.here hx rfl (hb hby at_401) rfl ?_
            refine XS.iload X_11.here hx rfl (hb hby at_403) rfl ?_
            refine XS.icmpYes X_11.here hx rfl (pc0 := 405) (pc' := 426) rfl (hb hby at_405) rfl (XT.ii_ne_t k2) (by decide) (by decide) ?_
            refine XS.iconst X_11.here hx rfl (hb hby at_426) ?_
            show oS pP eE below T_11 (mkF mM 427 (lc77 p1 p2 p3 p4 sn cn ta tb qa qb ra rb sa sb nb ca0 ca1 cb0 cb1 b_2 b_7) [(.int (0 : Int32))]) _
            exact kt
        · have hj : (own_ex (own_e1 ca0 cb0) p1 nb ta tb qa qb ra rb) = (0 : Int32) := if_neg (fun z => k1 z.2.1)
          rw [hj] at kt
          refine XS.ifNo X_11.here hx rfl (hb hby at_392) rfl (XT.i0_eq_f k0) ?_
          show oS pP eE below T_11 (mkF mM 395 (lc77 p1 p2 p3 p4 sn cn ta tb qa qb ra rb sa sb nb ca0 ca1 cb0 cb1 b_2 b_7) []) _
          refine XS.iloadN X_11.here hx rfl (hb hby at_395) rfl ?_
          refine XS.iload X_11.here hx rfl (hb hby at_396) rfl ?_
          refine XS.icmpYes X_11.here hx rfl (pc0 := 398) (pc' := 426) rfl (hb hby at_398) rfl (XT.ii_ne_t k1) (by decide) (by decide) ?_
          refine XS.iconst X_11.here hx rfl (hb hby at_426) ?_
          show oS pP eE below T_11 (mkF mM 427 (lc77 p1 p2 p3 p4 sn cn ta tb qa qb ra rb sa sb nb ca0 ca1 cb0 cb1 b_2 b_7) [(.int (0 : Int32))]) _
          exact kt
    refine jn_13 _ ?_
    refine XS.istore X_11.here hx rfl (hb hby at_427) rfl (l' := (lc78 p1 p2 p3 p4 sn cn ta tb qa qb ra rb sa sb nb ca0 ca1 cb0 cb1 b_2 b_7)) rfl ?_
    refine XS.aload X_11.here hx rfl (hb hby at_429) rfl rfl ?_
    refine XS.aload X_11.here hx rfl (hb hby at_431) rfl rfl ?_
    show oS pP eE below T_11 (mkF mM 433 (lc78 p1 p2 p3 p4 sn cn ta tb qa qb ra rb sa sb nb ca0 ca1 cb0 cb1 b_2 b_7) [(.ref b_7), (.ref b_2)]) _
    refine st_14.trans ?_
    show oS pP eE below T_14 (mkF mM 436 (lc78 p1 p2 p3 p4 sn cn ta tb qa qb ra rb sa sb nb ca0 ca1 cb0 cb1 b_2 b_7) [(.int (own_sd (own_nz (own_e1 (nar .byte ((nar .char ca0).toInt8.toInt32)) (nar .byte ((nar .char cb0).toInt8.toInt32)))) p1 nb (own_ty ta t0 t1 t2 t3 t4 t5 t6 t7 t8) (own_ty tb t0 t1 t2 t3 t4 t5 t6 t7 t8) (nar .boolean qa) (nar .boolean qb) (nar .boolean ra) (nar .boolean rb)))]) _
    refine XS.iload X_14.here hx rfl (hb hby at_436) rfl ?_
    refine XS.icmpNo X_14.here hx rfl (hb hby at_438) rfl (XT.ii_ne_f hfin) ?_
    refine XS.iconst X_14.here hx rfl (hb hby at_441) ?_
    refine XS.goto X_14.here hx rfl (pc0 := 442) (pc' := 446) rfl (hb hby at_442) (by decide) (by decide) ?_
    show oS pP eE below T_14 (mkF mM 446 (lc78 p1 p2 p3 p4 sn cn ta tb qa qb ra rb sa sb nb ca0 ca1 cb0 cb1 b_2 b_7) [(.int (1 : Int32))]) _
    exact retN X_14 hx (t := .boolean) Bd.returns (by simp) (hb hby at_446) hr
  · show Q_law11 Z p1 p2 p3 p4 sn cn qa qb ra rb ta sa sb ca0 ca1 tb nb cb0 cb1 t0 t1 t2 t3 t4 t5 t6 t7 t8 es0 es1 es2 es3 cs h0 n0 _ T_14.heap _
    exact ⟨rfl, N_14⟩
abbrev lc79 (p1 : Int32) (p2 : Int32) (p3 : Int64) (p4 : Int64) (sn : Int32) (cn : Int32) (ta : Int32) (tb : Int32) (qa : Int32) (qb : Int32) (ra : Int32) (rb : Int32) (sa : Int32) (sb : Int32) (nb : Int32) (ca0 : Int32) (ca1 : Int32) (cb0 : Int32) (cb1 : Int32) : Array Slot := #[.val (.int p1), .val (.int p2), .val (.long p3), .second, .val (.long p4), .second, .val (.int sn), .val (.int cn), .val (.int ta), .val (.int tb), .val (.int qa), .val (.int qb), .val (.int ra), .val (.int rb), .val (.int sa), .val (.int sb), .val (.int nb), .val (.int ca0), .val (.int ca1), .val (.int cb0), .val (.int cb1), .val (.int (1 : Int32)), .val (.int (2 : Int32)), .unset, .unset, .unset, .unset]
abbrev lc80 (p1 : Int32) (p2 : Int32) (p3 : Int64) (p4 : Int64) (sn : Int32) (cn : Int32) (ta : Int32) (tb : Int32) (qa : Int32) (qb : Int32) (ra : Int32) (rb : Int32) (sa : Int32) (sb : Int32) (nb : Int32) (ca0 : Int32) (ca1 : Int32) (cb0 : Int32) (cb1 : Int32) (b_2 : Addr) : Array Slot := #[.val (.int p1), .val (.int p2), .val (.long p3), .second, .val (.long p4), .second, .val (.int sn), .val (.int cn), .val (.int ta), .val (.int tb), .val (.int qa), .val (.int qb), .val (.int ra), .val (.int rb), .val (.int sa), .val (.int sb), .val (.int nb), .val (.int ca0), .val (.int ca1), .val (.int cb0), .val (.int cb1), .val (.int (1 : Int32)), .val (.int (2 : Int32)), .val (.ref b_2), .unset, .unset, .unset]
abbrev lc81 (p1 : Int32) (p2 : Int32) (p3 : Int64) (p4 : Int64) (sn : Int32) (cn : Int32) (ta : Int32) (tb : Int32) (qa : Int32) (qb : Int32) (ra : Int32) (rb : Int32) (sa : Int32) (sb : Int32) (nb : Int32) (ca0 : Int32) (ca1 : Int32) (cb0 : Int32) (cb1 : Int32) (b_2 : Addr) (b_7 : Addr) : Array Slot := #[.val (.int p1), .val (.int p2), .val (.long p3), .second, .val (.long p4), .second, .val (.int sn), .val (.int cn), .val (.int ta), .val (.int tb), .val (.int qa), .val (.int qb), .val (.int ra), .val (.int rb), .val (.int sa), .val (.int sb), .val (.int nb), .val (.int ca0), .val (.int ca1), .val (.int cb0), .val (.int cb1), .val (.int (1 : Int32)), .val (.int (2 : Int32)), .val (.ref b_2), .val (.ref b_7), .unset, .unset]
abbrev lc82 (p1 : Int32) (p2 : Int32) (p3 : Int64) (p4 : Int64) (sn : Int32) (cn : Int32) (ta : Int32) (tb : Int32) (qa : Int32) (qb : Int32) (ra : Int32) (rb : Int32) (sa : Int32) (sb : Int32) (nb : Int32) (ca0 : Int32) (ca1 : Int32) (cb0 : Int32) (cb1 : Int32) (b_2 : Addr) (b_7 : Addr) : Array Slot := #[.val (.int p1), .val (.int p2), .val (.long p3), .second, .val (.long p4), .second, .val (.int sn), .val (.int cn), .val (.int ta), .val (.int tb), .val (.int qa), .val (.int qb), .val (.int ra), .val (.int rb), .val (.int sa), .val (.int sb), .val (.int nb), .val (.int ca0), .val (.int ca1), .val (.int cb0), .val (.int cb1), .val (.int (1 : Int32)), .val (.int (2 : Int32)), .val (.ref b_2), .val (.ref b_7), .val (.int (0 : Int32)), .unset]
abbrev lc83 (p1 : Int32) (p2 : Int32) (p3 : Int64) (p4 : Int64) (sn : Int32) (cn : Int32) (ta : Int32) (tb : Int32) (qa : Int32) (qb : Int32) (ra : Int32) (rb : Int32) (sa : Int32) (sb : Int32) (nb : Int32) (ca0 : Int32) (ca1 : Int32) (cb0 : Int32) (cb1 : Int32) (b_2 : Addr) (b_7 : Addr) : Array Slot := #[.val (.int p1), .val (.int p2), .val (.long p3), .second, .val (.long p4), .second, .val (.int sn), .val (.int cn), .val (.int ta), .val (.int tb), .val (.int qa), .val (.int qb), .val (.int ra), .val (.int rb), .val (.int sa), .val (.int sb), .val (.int nb), .val (.int ca0), .val (.int ca1), .val (.int cb0), .val (.int cb1), .val (.int (1 : Int32)), .val (.int (2 : Int32)), .val (.ref b_2), .val (.ref b_7), .val (.int (0 : Int32)), .val (.int (0 : Int32))]
theorem ef_law12 (mM : MethodId) (x0 : Int32) (x1 : Int32) (x2 : Int64) (x3 : Int64) : entryFrame mM #[(.int x0), (.int x1), (.long x2), (.long x3)] maxLocals = mkF mM 0 #[.val (.int x0), .val (.int x1), .val (.long x2), .second, .val (.long x3), .second, .unset, .unset, .unset, .unset, .unset, .unset, .unset, .unset, .unset, .unset, .unset, .unset, .unset, .unset, .unset, .unset, .unset, .unset, .unset, .unset, .unset] [] := by first | (simp [entryFrame, mkF, argsToLocals, Value.category, maxLocals]; done) | rfl
def Q_law12 (Z : State) (p1 : Int32) (p2 : Int32) (p3 : Int64) (p4 : Int64) (sn : Int32) (cn : Int32) (qa : Int32) (qb : Int32) (ra : Int32) (rb : Int32) (ta : Int32) (sa : Int32) (sb : Int32) (ca0 : Int32) (ca1 : Int32) (tb : Int32) (nb : Int32) (cb0 : Int32) (cb1 : Int32) (t0 : Addr) (t1 : Addr) (t2 : Addr) (t3 : Addr) (t4 : Addr) (t5 : Addr) (t6 : Addr) (t7 : Addr) (t8 : Addr) (es0 : Addr) (es1 : Addr) (es2 : Addr) (es3 : Addr) (cs : Int32) (h0 : Heap) (n0 : Nat) (v_ : Option Value) (h_ : Heap) (L_ : List Loc) : Prop := v_ = some (.int (1 : Int32)) ∧ Fr n0 L_
set_option maxRecDepth 65536 in
set_option maxHeartbeats 40000000 in
theorem rm_law12 (l : Launch) (Z : State) (a0 : Array Value) (hw : ∀ d ∈ tables_1, d.before a0 Z = true) (ws : List Jvm.Cond) (p1 : Int32) (p2 : Int32) (p3 : Int64) (p4 : Int64) (sn : Int32) (cn : Int32) (qa : Int32) (qb : Int32) (ra : Int32) (rb : Int32) (ta : Int32) (sa : Int32) (sb : Int32) (ca0 : Int32) (ca1 : Int32) (tb : Int32) (nb : Int32) (cb0 : Int32) (cb1 : Int32) (t0 : Addr) (t1 : Addr) (t2 : Addr) (t3 : Addr) (t4 : Addr) (t5 : Addr) (t6 : Addr) (t7 : Addr) (t8 : Addr) (es0 : Addr) (es1 : Addr) (es2 : Addr) (es3 : Addr) (cs : Int32) (h0 : Heap) (n0 : Nat) (Z0 : n0 ≤ h0.size) (hEQ : own_eqs p1 p2 p3 p4 sn cn qa qb ra rb ta sa sb ca0 ca1 (1 : Int32) (2 : Int32) tb nb cb0 cb1) (S_String_COMPACT_STRINGS : Sta Z h0 "java/lang/String" "COMPACT_STRINGS" "Z" (.int cs)) (hcs : ¬ cs = 0) (S_FieldType_STRING : Sta Z h0 "com/example/rolling_rung/rollingrung/schema/FieldType" "STRING" "Lcom/example/rolling_rung/rollingrung/schema/FieldType;" (.ref t0)) (S_FieldType_BYTES : Sta Z h0 "com/example/rolling_rung/rollingrung/schema/FieldType" "BYTES" "Lcom/example/rolling_rung/rollingrung/schema/FieldType;" (.ref t1)) (S_FieldType_BOOL : Sta Z h0 "com/example/rolling_rung/rollingrung/schema/FieldType" "BOOL" "Lcom/example/rolling_rung/rollingrung/schema/FieldType;" (.ref t2)) (S_FieldType_INT32 : Sta Z h0 "com/example/rolling_rung/rollingrung/schema/FieldType" "INT32" "Lcom/example/rolling_rung/rollingrung/schema/FieldType;" (.ref t3)) (S_FieldType_INT64 : Sta Z h0 "com/example/rolling_rung/rollingrung/schema/FieldType" "INT64" "Lcom/example/rolling_rung/rollingrung/schema/FieldType;" (.ref t4)) (S_FieldType_SINT32 : Sta Z h0 "com/example/rolling_rung/rollingrung/schema/FieldType" "SINT32" "Lcom/example/rolling_rung/rollingrung/schema/FieldType;" (.ref t5)) (S_FieldType_SINT64 : Sta Z h0 "com/example/rolling_rung/rollingrung/schema/FieldType" "SINT64" "Lcom/example/rolling_rung/rollingrung/schema/FieldType;" (.ref t6)) (S_FieldType_DOUBLE : Sta Z h0 "com/example/rolling_rung/rollingrung/schema/FieldType" "DOUBLE" "Lcom/example/rolling_rung/rollingrung/schema/FieldType;" (.ref t7)) (S_FieldType_FLOAT : Sta Z h0 "com/example/rolling_rung/rollingrung/schema/FieldType" "FLOAT" "Lcom/example/rolling_rung/rollingrung/schema/FieldType;" (.ref t8)) (S_ElementState_ABSENT : Sta Z h0 "com/example/rolling_rung/rollingrung/schema/ElementState" "ABSENT" "Lcom/example/rolling_rung/rollingrung/schema/ElementState;" (.ref es0)) (S_ElementState_DELETE_ONLY : Sta Z h0 "com/example/rolling_rung/rollingrung/schema/ElementState" "DELETE_ONLY" "Lcom/example/rolling_rung/rollingrung/schema/ElementState;" (.ref es1)) (S_ElementState_WRITE_ONLY : Sta Z h0 "com/example/rolling_rung/rollingrung/schema/ElementState" "WRITE_ONLY" "Lcom/example/rolling_rung/rollingrung/schema/ElementState;" (.ref es2)) (S_ElementState_PUBLIC : Sta Z h0 "com/example/rolling_rung/rollingrung/schema/ElementState" "PUBLIC" "Lcom/example/rolling_rung/rollingrung/schema/ElementState;" (.ref es3)) (hq_ca0 : own_ch ca0) (hq_ca1 : own_ch ca1) (hq_cb0 : own_ch cb0) (hq_cb1 : own_ch cb1) (hfin : (own_sd (own_nz (0 : Int32)) p1 nb (own_ty ta t0 t1 t2 t3 t4 t5 t6 t7 t8) (own_ty tb t0 t1 t2 t3 t4 t5 t6 t7 t8) (nar .boolean qa) (nar .boolean qb) (nar .boolean ra) (nar .boolean rb)) = (0 : Int32)) :
    MetFree l x (head1 (Jvm.Cond.code x code maxLocals ret :: ws) room_1) (fun aa_ U_ => aa_ = #[(.int p1), (.int p2), (.long p3), (.long p4)] ∧ Z.Warmed39 U_.vm ∧ U_.heap = h0 ∧ CHv Z own_EL U_.vm h0) (fun _ _ _ _ _ => True) (fun _ U_ o_ U'_ => ∃ v_ L_, o_ = .returned v_ ∧ Q_law12 Z p1 p2 p3 p4 sn cn qa qb ra rb ta sa sb ca0 ca1 tb nb cb0 cb1 t0 t1 t2 t3 t4 t5 t6 t7 t8 es0 es1 es2 es3 cs h0 n0 v_ U'_.heap L_ ∧ ReturnedEndW U_ o_ U'_ L_ 20 154) := by
  refine MetFree.of_bodySF (plainFor_of_name pn_1) hisR ?_
  intro pP eE sS mM argsA below meth cC s₁ Bd hml0 hP hK
  obtain ⟨rfl, hZ, hh, hCH⟩ := hP
  have hx := Bd.exec
  have hby := Bd.bytes
  have hml : cC.maxLocals = 27 := hml0
  have hown : sS.vm.findClass "com/example/rolling_rung/rollingrung/schema/FieldSameDefinitionPinLaw" = some mM.cls := findClass_of_methodNamed Bd.named
  have hnm := (name_of_methodNamed Bd.named Bd.method).1
  have X0 : Stand pP l eE room_1 (sS.setVm sS.vm) mM #[(.int p1), (.int p2), (.long p3), (.long p4)] below meth cC s₁ [] 0 0 := Stand.of_body Bd
  have e0 : s₁.heap = h0 := by rw [← hh, Bd.state]; rfl
  have N0 := Fr.nil n0
  have pre0 : ∀ t_, Steps pP.tables eE below (s₁.setTop (mkF mM 0 #[.val (.int p1), .val (.int p2), .val (.long p3), .second, .val (.long p4), .second, .unset, .unset, .unset, .unset, .unset, .unset, .unset, .unset, .unset, .unset, .unset, .unset, .unset, .unset, .unset, .unset, .unset, .unset, .unset, .unset, .unset] [])) t_ → Steps pP.tables eE below (s₁.setTop (entryFrame mM #[(.int p1), (.int p2), (.long p3), (.long p4)] maxLocals)) t_ := fun t_ k_ => castTop (ef_law12 mM p1 p2 p3 p4) k_
  have hZ : Z.Warmed39 (sS.setVm sS.vm).vm := hZ
  have hown : (sS.setVm sS.vm).vm.findClass "com/example/rolling_rung/rollingrung/schema/FieldSameDefinitionPinLaw" = some mM.cls := hown
  have hS0 : sS.Since sS.vm 0 := (State.WarmedH.refl sS).since 0
  have hk0 : 0 ≤ h0.size := Nat.zero_le _
  have CR0 := CHr.refl hCH
  obtain ⟨T_1, h_1, L_1, X_1, e_1, N_1, Kc_1, st_1⟩ := pc_pre p1 p2 p3 p4 sn cn qa qb ra rb ta sa sb ca0 ca1 (1 : Int32) (2 : Int32) tb nb cb0 cb1 X0 hx hZ hw hby hml hown e0 N0 Z0 hEQ
  have Z_1 : n0 ≤ h_1.size := (Nat.le_trans Z0 Kc_1.1)
  have K_1 : Keep h0 h_1 [] := (Keep.refl h0 []).trans Kc_1 all0
  have hk_1 : _ ≤ h_1.size := Nat.le_trans hk0 Kc_1.1
  have Ca_1 := CHr.keep Kc_1 all0 CR0.1
  have CR_1 := CR0.trans Ca_1
  obtain ⟨T_2, h_2, X_2, e_2, E_2, A_2, D_2, -, st_2⟩ := newO X_1 hx hZ hown (ow hw 3 rfl) (ow hw 4 rfl) (ow hw 5 rfl) e_1 (g := (mkF mM 283 (lc79 p1 p2 p3 p4 sn cn ta tb qa qb ra rb sa sb nb ca0 ca1 cb0 cb1) [])) rfl (hb hby at_283) (by decide) (by decide)
  obtain ⟨b_2, g_2⟩ : ∃ z, z = h_1.size := ⟨_, rfl⟩
  rw [← g_2] at A_2 D_2 st_2
  have g_b_2 : n0 ≤ b_2 := Nat.le_trans Z_1 (Nat.le_of_eq g_2.symm)
  have sz_b_2 : h0.size ≤ b_2 := Nat.le_trans K_1.1 (Nat.le_of_eq g_2.symm)
  have Z_2 : n0 ≤ h_2.size := (Nat.le_trans Z_1 E_2.1)
  have K_2 : Keep h0 h_2 [] := K_1.ext E_2
  have hk_2 : _ ≤ h_2.size := Nat.le_trans hk_1 E_2.1
  have Ca_2 := CHr.ext E_2 CR_1.1
  have CR_2 := CR_1.trans Ca_2
  have F_name_b_2__2 : Fld Z h_2 b_2 "com/example/rolling_rung/rollingrung/schema/Field" "name" "Ljava/lang/String;" .null := D_2 (Or.inr (ow hw 61 rfl)) (ty := (.object "java/lang/String")) (by decide)
  have F_number_b_2__2 : Fld Z h_2 b_2 "com/example/rolling_rung/rollingrung/schema/Field" "number" "I" (.int (0 : Int32)) := D_2 (Or.inr (ow hw 63 rfl)) (ty := .int) (by decide)
  have F_type_b_2__2 : Fld Z h_2 b_2 "com/example/rolling_rung/rollingrung/schema/Field" "type" "Lcom/example/rolling_rung/rollingrung/schema/FieldType;" .null := D_2 (Or.inr (ow hw 65 rfl)) (ty := (.object "com/example/rolling_rung/rollingrung/schema/FieldType")) (by decide)
  have F_required_b_2__2 : Fld Z h_2 b_2 "com/example/rolling_rung/rollingrung/schema/Field" "required" "Z" (.int (0 : Int32)) := D_2 (Or.inr (ow hw 67 rfl)) (ty := .boolean) (by decide)
  have F_repeated_b_2__2 : Fld Z h_2 b_2 "com/example/rolling_rung/rollingrung/schema/Field" "repeated" "Z" (.int (0 : Int32)) := D_2 (Or.inr (ow hw 69 rfl)) (ty := .boolean) (by decide)
  have F_state_b_2__2 : Fld Z h_2 b_2 "com/example/rolling_rung/rollingrung/schema/Field" "state" "Lcom/example/rolling_rung/rollingrung/schema/ElementState;" .null := D_2 (Or.inr (ow hw 71 rfl)) (ty := (.object "com/example/rolling_rung/rollingrung/schema/ElementState")) (by decide)
  have St_2_1 := ((own_sta_keep S_String_COMPACT_STRINGS Kc_1 all0).ext E_2)
  obtain ⟨_, _, ⟨T_3, L_3, k_3, n_3⟩, -, Xc_3, hSc_3, hgr_3, ⟨Lc_3, hQ_3, l_3, y_3, z_3, CHc_3⟩, st_3⟩ := callSS X_2 hx (y := MN9) hown (mvT hZ (ow hw 6 rfl)) (mvT hZ (ow hw 7 rfl)) (mvT hZ (ow hw 8 rfl)) (mvT hZ (ow hw 9 rfl)) (by decide) (backOfSH (W := 2) (rm_mk1 l Z a0 hw [] cs ca0 ca1 h_2 n0 Z_2 St_2_1 hcs hq_ca0) hZ (ow hw 9 rfl) (ow hw 8 rfl) (by decide) (by decide) (own_EW hw) CR_2.1) (g := (mkF mM 293 (lc79 p1 p2 p3 p4 sn cn ta tb qa qb ra rb sa sb nb ca0 ca1 cb0 cb1) [(.int ca1), (.int ca0), (.int (1 : Int32)), (.ref b_2), (.ref b_2)])) rfl (by rw [hml]; rfl) (argsL := [(.int (1 : Int32)), (.int ca0), (.int ca1)]) (rest := [(.ref b_2), (.ref b_2)]) (lenOf pd_9 rfl) rfl (by show 2 * 0 + _ ≤ _; exact Nat.le_of_eq rfl) (hb hby at_293) (fun _ _ => ⟨rfl, e_2, (by decide : 1 + 3 ≤ _), (by decide : 6 + 6 ≤ _)⟩)
  dsimp only [Pt.U, Pt.locs, Pt.cells, Pt.slots] at Xc_3 hSc_3 hgr_3 l_3 y_3 z_3 st_3 hQ_3 CHc_3
  subst l_3 y_3 z_3
  obtain ⟨X_3, hS_3, hZ_3, hown_3⟩ := rebS hS0 (show _ ≤ T_2.heap.size by rw [e_2]; exact hk_2) Xc_3 hSc_3 hgr_3 hZ hown
  obtain ⟨g__3, ⟨d__3, ⟨kd__3, ⟨rfl, N_3q, Kc_3, pfsz_g_3, pfsz_d_3, pfE_g_3, pfF_value_g_3, pfF_coder_g_3, pfV_d_3⟩⟩⟩⟩ := hQ_3
  have Z_3 : n0 ≤ T_3.heap.size := (Nat.le_trans Z_2 Kc_3.1)
  have K_3 : Keep h0 T_3.heap [] := K_2.trans Kc_3 all0
  have Ca_3 := CHc_3
  have CR_3 := CR_2.trans Ca_3
  have hk_3 : _ ≤ T_3.heap.size := Nat.le_refl _
  have sz_g__3 : h0.size ≤ g__3 := Nat.le_trans K_2.1 pfsz_g_3
  have g_g__3 : n0 ≤ g__3 := Nat.le_trans Z_2 pfsz_g_3
  have sz_d__3 : h0.size ≤ d__3 := Nat.le_trans K_2.1 pfsz_d_3
  have g_d__3 : n0 ≤ d__3 := Nat.le_trans Z_2 pfsz_d_3
  have N_3 := Fr.app N_1 N_3q
  have St_3_3 := (own_sta_keep ((own_sta_keep S_FieldType_STRING Kc_1 all0).ext E_2) Kc_3 all0)
  have St_3_4 := (own_sta_keep ((own_sta_keep S_FieldType_BYTES Kc_1 all0).ext E_2) Kc_3 all0)
  have St_3_5 := (own_sta_keep ((own_sta_keep S_FieldType_BOOL Kc_1 all0).ext E_2) Kc_3 all0)
  have St_3_6 := (own_sta_keep ((own_sta_keep S_FieldType_INT32 Kc_1 all0).ext E_2) Kc_3 all0)
  have St_3_7 := (own_sta_keep ((own_sta_keep S_FieldType_INT64 Kc_1 all0).ext E_2) Kc_3 all0)
  have St_3_8 := (own_sta_keep ((own_sta_keep S_FieldType_SINT32 Kc_1 all0).ext E_2) Kc_3 all0)
  have St_3_9 := (own_sta_keep ((own_sta_keep S_FieldType_SINT64 Kc_1 all0).ext E_2) Kc_3 all0)
  have St_3_10 := (own_sta_keep ((own_sta_keep S_FieldType_DOUBLE Kc_1 all0).ext E_2) Kc_3 all0)
  have St_3_11 := (own_sta_keep ((own_sta_keep S_FieldType_FLOAT Kc_1 all0).ext E_2) Kc_3 all0)
  obtain ⟨_, _, ⟨T_4, L_4, k_4, n_4⟩, -, X_4, ⟨Lc_4, hQ_4, l_4, y_4, z_4⟩, st_4⟩ := Jvm.LawKit.callS X_3 hx (y := MN10) hown_3 (mvT hZ_3 (ow hw 32 rfl)) (mvT hZ_3 (ow hw 33 rfl)) (mvT hZ_3 (ow hw 8 rfl)) (mvT hZ_3 (ow hw 34 rfl)) (by decide) (backOf (W := 4) (rm_typ l Z a0 hw [] ta t0 t1 t2 t3 t4 t5 t6 t7 t8 T_3.heap n0 Z_3 St_3_3 St_3_4 St_3_5 St_3_6 St_3_7 St_3_8 St_3_9 St_3_10 St_3_11) hZ_3 (ow hw 34 rfl) (ow hw 8 rfl) (by decide) (by decide)) (g := (mkF mM 299 (lc79 p1 p2 p3 p4 sn cn ta tb qa qb ra rb sa sb nb ca0 ca1 cb0 cb1) [(.int ta), (.int p1), (.ref g__3), (.ref b_2), (.ref b_2)])) rfl (by rw [hml]; rfl) (argsL := [(.int ta)]) (rest := [(.int p1), (.ref g__3), (.ref b_2), (.ref b_2)]) (lenOf pd_10 rfl) rfl (by show 2 * 0 + _ ≤ _; exact Nat.le_of_eq rfl) (hb hby at_299) (fun _ _ => ⟨rfl, rfl, (by decide : 4 + 0 ≤ _), (by decide : 12 + 0 ≤ _)⟩)
  dsimp only [Pt.U, Pt.locs, Pt.cells, Pt.slots] at X_4 l_4 y_4 z_4 st_4 hQ_4
  subst l_4 y_4 z_4
  obtain ⟨rfl, N_4q, eh_4⟩ := hQ_4
  have N_4 := Fr.app N_3 N_4q
  have St_3_12 := (own_sta_keep ((own_sta_keep S_ElementState_ABSENT Kc_1 all0).ext E_2) Kc_3 all0)
  have St_3_13 := (own_sta_keep ((own_sta_keep S_ElementState_DELETE_ONLY Kc_1 all0).ext E_2) Kc_3 all0)
  have St_3_14 := (own_sta_keep ((own_sta_keep S_ElementState_WRITE_ONLY Kc_1 all0).ext E_2) Kc_3 all0)
  have St_3_15 := (own_sta_keep ((own_sta_keep S_ElementState_PUBLIC Kc_1 all0).ext E_2) Kc_3 all0)
  obtain ⟨_, _, ⟨T_5, L_5, k_5, n_5⟩, -, X_5, ⟨Lc_5, hQ_5, l_5, y_5, z_5⟩, st_5⟩ := Jvm.LawKit.callS X_4 hx (y := MN11) hown_3 (mvT hZ_3 (ow hw 38 rfl)) (mvT hZ_3 (ow hw 39 rfl)) (mvT hZ_3 (ow hw 8 rfl)) (mvT hZ_3 (ow hw 40 rfl)) (by decide) (backOf (W := 7) (rm_sta l Z a0 hw [] sa es0 es1 es2 es3 T_3.heap n0 Z_3 St_3_12 St_3_13 St_3_14 St_3_15) hZ_3 (ow hw 40 rfl) (ow hw 8 rfl) (by decide) (by decide)) (g := (mkF mM 308 (lc79 p1 p2 p3 p4 sn cn ta tb qa qb ra rb sa sb nb ca0 ca1 cb0 cb1) [(.int sa), (.int ra), (.int qa), (.ref (own_ty ta t0 t1 t2 t3 t4 t5 t6 t7 t8)), (.int p1), (.ref g__3), (.ref b_2), (.ref b_2)])) rfl (by rw [hml]; rfl) (argsL := [(.int sa)]) (rest := [(.int ra), (.int qa), (.ref (own_ty ta t0 t1 t2 t3 t4 t5 t6 t7 t8)), (.int p1), (.ref g__3), (.ref b_2), (.ref b_2)]) (lenOf pd_11 rfl) rfl (by show 2 * 0 + _ ≤ _; exact Nat.le_of_eq rfl) (hb hby at_308) (fun _ _ => ⟨rfl, eh_4, (by decide : 4 + 0 ≤ _), (by decide : 12 + 0 ≤ _)⟩)
  dsimp only [Pt.U, Pt.locs, Pt.cells, Pt.slots] at X_5 l_5 y_5 z_5 st_5 hQ_5
  subst l_5 y_5 z_5
  obtain ⟨rfl, N_5q, eh_5⟩ := hQ_5
  have N_5 := Fr.app N_4 N_5q
  obtain ⟨_, _, ⟨T_6, L_6, k_6, n_6⟩, -, Xc_6, hSc_6, hgr_6, ⟨Lc_6, hQ_6, l_6, y_6, z_6, CHc_6⟩, st_6⟩ := X_5.specialBackS hx (y := MN12) rfl hown_3 (mvT hZ_3 (ow hw 44 rfl)) (mvT hZ_3 (ow hw 45 rfl)) (mvT hZ_3 (ow hw 46 rfl)) (by decide) (backOfSH (W := 1) (rm_fini l Z a0 hw [] b_2 g__3 p1 (own_ty ta t0 t1 t2 t3 t4 t5 t6 t7 t8) qa ra (own_st sa es0 es1 es2 es3) T_3.heap n0 Z_3 (F_name_b_2__2.keep Kc_3 nin0) (F_number_b_2__2.keep Kc_3 nin0) (F_type_b_2__2.keep Kc_3 nin0) (F_required_b_2__2.keep Kc_3 nin0) (F_repeated_b_2__2.keep Kc_3 nin0) (F_state_b_2__2.keep Kc_3 nin0) (A_2.keep Kc_3) g_b_2) hZ_3 (ow hw 46 rfl) (ow hw 5 rfl) (by decide) (by decide) (own_EW hw) CR_3.1) (g := (mkF mM 311 (lc79 p1 p2 p3 p4 sn cn ta tb qa qb ra rb sa sb nb ca0 ca1 cb0 cb1) [(.ref (own_st sa es0 es1 es2 es3)), (.int ra), (.int qa), (.ref (own_ty ta t0 t1 t2 t3 t4 t5 t6 t7 t8)), (.int p1), (.ref g__3), (.ref b_2), (.ref b_2)])) rfl (by rw [hml]; rfl) (Steps.refl _) (a := b_2) (argsL := [(.ref g__3), (.int p1), (.ref (own_ty ta t0 t1 t2 t3 t4 t5 t6 t7 t8)), (.int qa), (.int ra), (.ref (own_st sa es0 es1 es2 es3))]) (rest := [(.ref b_2)]) (lenOf pd_12 rfl) rfl (by show 2 * 0 + _ ≤ _; exact Nat.le_of_eq rfl) (hb hby at_311) (fun _ _ => ⟨rfl, eh_5, (by decide : 4 + 6 ≤ _), (by decide : 12 + 64 ≤ _)⟩)
  dsimp only [Pt.U, Pt.locs, Pt.cells, Pt.slots] at Xc_6 hSc_6 hgr_6 l_6 y_6 z_6 st_6 hQ_6 CHc_6
  subst l_6 y_6 z_6
  obtain ⟨X_6, hS_6, hZ_6, hown_6⟩ := rebS hS_3 (show _ ≤ T_5.heap.size by rw [eh_5]; exact hk_3) Xc_6 hSc_6 hgr_6 hZ_3 hown_3
  obtain ⟨rfl, N_6q, Kc_6, pfF_name_a_6, pfF_number_a_6, pfF_type_a_6, pfF_required_a_6, pfF_repeated_a_6, pfF_state_a_6, pfE_a_6⟩ := hQ_6
  have Z_6 : n0 ≤ T_6.heap.size := (Nat.le_trans Z_3 Kc_6.1)
  have K_6 : Keep h0 T_6.heap [] := K_3.trans Kc_6 (allS (Or.inr sz_b_2) all0)
  have Ca_6 := CHc_6
  have CR_6 := CR_3.trans Ca_6
  have hk_6 : _ ≤ T_6.heap.size := Nat.le_refl _
  have N_6 := Fr.app N_5 N_6q
  obtain ⟨T_7, h_7, X_7, e_7, E_7, A_7, D_7, -, st_7⟩ := newO X_6 hx hZ_6 hown_6 (ow hw 3 rfl) (ow hw 4 rfl) (ow hw 5 rfl) rfl (g := (mkF mM 316 (lc80 p1 p2 p3 p4 sn cn ta tb qa qb ra rb sa sb nb ca0 ca1 cb0 cb1 b_2) [])) rfl (hb hby at_316) (by decide) (by decide)
  obtain ⟨b_7, g_7⟩ : ∃ z, z = T_6.heap.size := ⟨_, rfl⟩
  rw [← g_7] at A_7 D_7 st_7
  have g_b_7 : n0 ≤ b_7 := Nat.le_trans Z_6 (Nat.le_of_eq g_7.symm)
  have sz_b_7 : h0.size ≤ b_7 := Nat.le_trans K_6.1 (Nat.le_of_eq g_7.symm)
  have Z_7 : n0 ≤ h_7.size := (Nat.le_trans Z_6 E_7.1)
  have K_7 : Keep h0 h_7 [] := K_6.ext E_7
  have hk_7 : _ ≤ h_7.size := Nat.le_trans hk_6 E_7.1
  have Ca_7 := CHr.ext E_7 CR_6.1
  have CR_7 := CR_6.trans Ca_7
  have F_name_b_7__7 : Fld Z h_7 b_7 "com/example/rolling_rung/rollingrung/schema/Field" "name" "Ljava/lang/String;" .null := D_7 (Or.inr (ow hw 61 rfl)) (ty := (.object "java/lang/String")) (by decide)
  have F_number_b_7__7 : Fld Z h_7 b_7 "com/example/rolling_rung/rollingrung/schema/Field" "number" "I" (.int (0 : Int32)) := D_7 (Or.inr (ow hw 63 rfl)) (ty := .int) (by decide)
  have F_type_b_7__7 : Fld Z h_7 b_7 "com/example/rolling_rung/rollingrung/schema/Field" "type" "Lcom/example/rolling_rung/rollingrung/schema/FieldType;" .null := D_7 (Or.inr (ow hw 65 rfl)) (ty := (.object "com/example/rolling_rung/rollingrung/schema/FieldType")) (by decide)
  have F_required_b_7__7 : Fld Z h_7 b_7 "com/example/rolling_rung/rollingrung/schema/Field" "required" "Z" (.int (0 : Int32)) := D_7 (Or.inr (ow hw 67 rfl)) (ty := .boolean) (by decide)
  have F_repeated_b_7__7 : Fld Z h_7 b_7 "com/example/rolling_rung/rollingrung/schema/Field" "repeated" "Z" (.int (0 : Int32)) := D_7 (Or.inr (ow hw 69 rfl)) (ty := .boolean) (by decide)
  have F_state_b_7__7 : Fld Z h_7 b_7 "com/example/rolling_rung/rollingrung/schema/Field" "state" "Lcom/example/rolling_rung/rollingrung/schema/ElementState;" .null := D_7 (Or.inr (ow hw 71 rfl)) (ty := (.object "com/example/rolling_rung/rollingrung/schema/ElementState")) (by decide)
  have St_5_1 := ((own_sta_keep (own_sta_keep St_2_1 Kc_3 all0) Kc_6 (allS (own_exa_ns (A_2.keep Kc_3)) all0)).ext E_7)
  obtain ⟨_, _, ⟨T_8, L_8, k_8, n_8⟩, -, Xc_8, hSc_8, hgr_8, ⟨Lc_8, hQ_8, l_8, y_8, z_8, CHc_8⟩, st_8⟩ := callSS X_7 hx (y := MN9) hown_6 (mvT hZ_6 (ow hw 6 rfl)) (mvT hZ_6 (ow hw 7 rfl)) (mvT hZ_6 (ow hw 8 rfl)) (mvT hZ_6 (ow hw 9 rfl)) (by decide) (backOfSH (W := 2) (rm_mk2 l Z a0 hw [] cs cb0 cb1 h_7 n0 Z_7 St_5_1 hcs hq_cb0 hq_cb1) hZ_6 (ow hw 9 rfl) (ow hw 8 rfl) (by decide) (by decide) (own_EW hw) CR_7.1) (g := (mkF mM 326 (lc80 p1 p2 p3 p4 sn cn ta tb qa qb ra rb sa sb nb ca0 ca1 cb0 cb1 b_2) [(.int cb1), (.int cb0), (.int (2 : Int32)), (.ref b_7), (.ref b_7)])) rfl (by rw [hml]; rfl) (argsL := [(.int (2 : Int32)), (.int cb0), (.int cb1)]) (rest := [(.ref b_7), (.ref b_7)]) (lenOf pd_9 rfl) rfl (by show 2 * 0 + _ ≤ _; exact Nat.le_of_eq rfl) (hb hby at_326) (fun _ _ => ⟨rfl, e_7, (by decide : 11 + 3 ≤ _), (by decide : 82 + 8 ≤ _)⟩)
  dsimp only [Pt.U, Pt.locs, Pt.cells, Pt.slots] at Xc_8 hSc_8 hgr_8 l_8 y_8 z_8 st_8 hQ_8 CHc_8
  subst l_8 y_8 z_8
  obtain ⟨X_8, hS_8, hZ_8, hown_8⟩ := rebS hS_6 (show _ ≤ T_7.heap.size by rw [e_7]; exact hk_7) Xc_8 hSc_8 hgr_8 hZ_6 hown_6
  obtain ⟨g__8, ⟨d__8, ⟨kd__8, ⟨rfl, N_8q, Kc_8, pfsz_g_8, pfsz_d_8, pfE_g_8, pfF_value_g_8, pfF_coder_g_8, pfV_d_8⟩⟩⟩⟩ := hQ_8
  have Z_8 : n0 ≤ T_8.heap.size := (Nat.le_trans Z_7 Kc_8.1)
  have K_8 : Keep h0 T_8.heap [] := K_7.trans Kc_8 all0
  have Ca_8 := CHc_8
  have CR_8 := CR_7.trans Ca_8
  have hk_8 : _ ≤ T_8.heap.size := Nat.le_refl _
  have sz_g__8 : h0.size ≤ g__8 := Nat.le_trans K_7.1 pfsz_g_8
  have g_g__8 : n0 ≤ g__8 := Nat.le_trans Z_7 pfsz_g_8
  have sz_d__8 : h0.size ≤ d__8 := Nat.le_trans K_7.1 pfsz_d_8
  have g_d__8 : n0 ≤ d__8 := Nat.le_trans Z_7 pfsz_d_8
  have N_8 := Fr.app N_6 N_8q
  have St_6_3 := (own_sta_keep ((own_sta_keep St_3_3 Kc_6 (allS (own_exa_ns (A_2.keep Kc_3)) all0)).ext E_7) Kc_8 all0)
  have St_6_4 := (own_sta_keep ((own_sta_keep St_3_4 Kc_6 (allS (own_exa_ns (A_2.keep Kc_3)) all0)).ext E_7) Kc_8 all0)
  have St_6_5 := (own_sta_keep ((own_sta_keep St_3_5 Kc_6 (allS (own_exa_ns (A_2.keep Kc_3)) all0)).ext E_7) Kc_8 all0)
  have St_6_6 := (own_sta_keep ((own_sta_keep St_3_6 Kc_6 (allS (own_exa_ns (A_2.keep Kc_3)) all0)).ext E_7) Kc_8 all0)
  have St_6_7 := (own_sta_keep ((own_sta_keep St_3_7 Kc_6 (allS (own_exa_ns (A_2.keep Kc_3)) all0)).ext E_7) Kc_8 all0)
  have St_6_8 := (own_sta_keep ((own_sta_keep St_3_8 Kc_6 (allS (own_exa_ns (A_2.keep Kc_3)) all0)).ext E_7) Kc_8 all0)
  have St_6_9 := (own_sta_keep ((own_sta_keep St_3_9 Kc_6 (allS (own_exa_ns (A_2.keep Kc_3)) all0)).ext E_7) Kc_8 all0)
  have St_6_10 := (own_sta_keep ((own_sta_keep St_3_10 Kc_6 (allS (own_exa_ns (A_2.keep Kc_3)) all0)).ext E_7) Kc_8 all0)
  have St_6_11 := (own_sta_keep ((own_sta_keep St_3_11 Kc_6 (allS (own_exa_ns (A_2.keep Kc_3)) all0)).ext E_7) Kc_8 all0)
  obtain ⟨_, _, ⟨T_9, L_9, k_9, n_9⟩, -, X_9, ⟨Lc_9, hQ_9, l_9, y_9, z_9⟩, st_9⟩ := Jvm.LawKit.callS X_8 hx (y := MN10) hown_8 (mvT hZ_8 (ow hw 32 rfl)) (mvT hZ_8 (ow hw 33 rfl)) (mvT hZ_8 (ow hw 8 rfl)) (mvT hZ_8 (ow hw 34 rfl)) (by decide) (backOf (W := 4) (rm_typ l Z a0 hw [] tb t0 t1 t2 t3 t4 t5 t6 t7 t8 T_8.heap n0 Z_8 St_6_3 St_6_4 St_6_5 St_6_6 St_6_7 St_6_8 St_6_9 St_6_10 St_6_11) hZ_8 (ow hw 34 rfl) (ow hw 8 rfl) (by decide) (by decide)) (g := (mkF mM 333 (lc80 p1 p2 p3 p4 sn cn ta tb qa qb ra rb sa sb nb ca0 ca1 cb0 cb1 b_2) [(.int tb), (.int nb), (.ref g__8), (.ref b_7), (.ref b_7)])) rfl (by rw [hml]; rfl) (argsL := [(.int tb)]) (rest := [(.int nb), (.ref g__8), (.ref b_7), (.ref b_7)]) (lenOf pd_10 rfl) rfl (by show 2 * 0 + _ ≤ _; exact Nat.le_of_eq rfl) (hb hby at_333) (fun _ _ => ⟨rfl, rfl, (by decide : 14 + 0 ≤ _), (by decide : 90 + 0 ≤ _)⟩)
  dsimp only [Pt.U, Pt.locs, Pt.cells, Pt.slots] at X_9 l_9 y_9 z_9 st_9 hQ_9
  subst l_9 y_9 z_9
  obtain ⟨rfl, N_9q, eh_9⟩ := hQ_9
  have N_9 := Fr.app N_8 N_9q
  have St_6_12 := (own_sta_keep ((own_sta_keep St_3_12 Kc_6 (allS (own_exa_ns (A_2.keep Kc_3)) all0)).ext E_7) Kc_8 all0)
  have St_6_13 := (own_sta_keep ((own_sta_keep St_3_13 Kc_6 (allS (own_exa_ns (A_2.keep Kc_3)) all0)).ext E_7) Kc_8 all0)
  have St_6_14 := (own_sta_keep ((own_sta_keep St_3_14 Kc_6 (allS (own_exa_ns (A_2.keep Kc_3)) all0)).ext E_7) Kc_8 all0)
  have St_6_15 := (own_sta_keep ((own_sta_keep St_3_15 Kc_6 (allS (own_exa_ns (A_2.keep Kc_3)) all0)).ext E_7) Kc_8 all0)
  obtain ⟨_, _, ⟨T_10, L_10, k_10, n_10⟩, -, X_10, ⟨Lc_10, hQ_10, l_10, y_10, z_10⟩, st_10⟩ := Jvm.LawKit.callS X_9 hx (y := MN11) hown_8 (mvT hZ_8 (ow hw 38 rfl)) (mvT hZ_8 (ow hw 39 rfl)) (mvT hZ_8 (ow hw 8 rfl)) (mvT hZ_8 (ow hw 40 rfl)) (by decide) (backOf (W := 7) (rm_sta l Z a0 hw [] sb es0 es1 es2 es3 T_8.heap n0 Z_8 St_6_12 St_6_13 St_6_14 St_6_15) hZ_8 (ow hw 40 rfl) (ow hw 8 rfl) (by decide) (by decide)) (g := (mkF mM 342 (lc80 p1 p2 p3 p4 sn cn ta tb qa qb ra rb sa sb nb ca0 ca1 cb0 cb1 b_2) [(.int sb), (.int rb), (.int qb), (.ref (own_ty tb t0 t1 t2 t3 t4 t5 t6 t7 t8)), (.int nb), (.ref g__8), (.ref b_7), (.ref b_7)])) rfl (by rw [hml]; rfl) (argsL := [(.int sb)]) (rest := [(.int rb), (.int qb), (.ref (own_ty tb t0 t1 t2 t3 t4 t5 t6 t7 t8)), (.int nb), (.ref g__8), (.ref b_7), (.ref b_7)]) (lenOf pd_11 rfl) rfl (by show 2 * 0 + _ ≤ _; exact Nat.le_of_eq rfl) (hb hby at_342) (fun _ _ => ⟨rfl, eh_9, (by decide : 14 + 0 ≤ _), (by decide : 90 + 0 ≤ _)⟩)
  dsimp only [Pt.U, Pt.locs, Pt.cells, Pt.slots] at X_10 l_10 y_10 z_10 st_10 hQ_10
  subst l_10 y_10 z_10
  obtain ⟨rfl, N_10q, eh_10⟩ := hQ_10
  have N_10 := Fr.app N_9 N_10q
  obtain ⟨_, _, ⟨T_11, L_11, k_11, n_11⟩, -, Xc_11, hSc_11, hgr_11, ⟨Lc_11, hQ_11, l_11, y_11, z_11, CHc_11⟩, st_11⟩ := X_10.specialBackS hx (y := MN12) rfl hown_8 (mvT hZ_8 (ow hw 44 rfl)) (mvT hZ_8 (ow hw 45 rfl)) (mvT hZ_8 (ow hw 46 rfl)) (by decide) (backOfSH (W := 1) (rm_fini l Z a0 hw [] b_7 g__8 nb (own_ty tb t0 t1 t2 t3 t4 t5 t6 t7 t8) qb rb (own_st sb es0 es1 es2 es3) T_8.heap n0 Z_8 (F_name_b_7__7.keep Kc_8 nin0) (F_number_b_7__7.keep Kc_8 nin0) (F_type_b_7__7.keep Kc_8 nin0) (F_required_b_7__7.keep Kc_8 nin0) (F_repeated_b_7__7.keep Kc_8 nin0) (F_state_b_7__7.keep Kc_8 nin0) (A_7.keep Kc_8) g_b_7) hZ_8 (ow hw 46 rfl) (ow hw 5 rfl) (by decide) (by decide) (own_EW hw) CR_8.1) (g := (mkF mM 345 (lc80 p1 p2 p3 p4 sn cn ta tb qa qb ra rb sa sb nb ca0 ca1 cb0 cb1 b_2) [(.ref (own_st sb es0 es1 es2 es3)), (.int rb), (.int qb), (.ref (own_ty tb t0 t1 t2 t3 t4 t5 t6 t7 t8)), (.int nb), (.ref g__8), (.ref b_7), (.ref b_7)])) rfl (by rw [hml]; rfl) (Steps.refl _) (a := b_7) (argsL := [(.ref g__8), (.int nb), (.ref (own_ty tb t0 t1 t2 t3 t4 t5 t6 t7 t8)), (.int qb), (.int rb), (.ref (own_st sb es0 es1 es2 es3))]) (rest := [(.ref b_7)]) (lenOf pd_12 rfl) rfl (by show 2 * 0 + _ ≤ _; exact Nat.le_of_eq rfl) (hb hby at_345) (fun _ _ => ⟨rfl, eh_10, (by decide : 14 + 6 ≤ _), (by decide : 90 + 64 ≤ _)⟩)
  dsimp only [Pt.U, Pt.locs, Pt.cells, Pt.slots] at Xc_11 hSc_11 hgr_11 l_11 y_11 z_11 st_11 hQ_11 CHc_11
  subst l_11 y_11 z_11
  obtain ⟨X_11, hS_11, hZ_11, hown_11⟩ := rebS hS_8 (show _ ≤ T_10.heap.size by rw [eh_10]; exact hk_8) Xc_11 hSc_11 hgr_11 hZ_8 hown_8
  obtain ⟨rfl, N_11q, Kc_11, pfF_name_a_11, pfF_number_a_11, pfF_type_a_11, pfF_required_a_11, pfF_repeated_a_11, pfF_state_a_11, pfE_a_11⟩ := hQ_11
  have Z_11 : n0 ≤ T_11.heap.size := (Nat.le_trans Z_8 Kc_11.1)
  have K_11 : Keep h0 T_11.heap [] := K_8.trans Kc_11 (allS (Or.inr sz_b_7) all0)
  have Ca_11 := CHc_11
  have CR_11 := CR_8.trans Ca_11
  have hk_11 : _ ≤ T_11.heap.size := Nat.le_refl _
  have N_11 := Fr.app N_10 N_11q
  have St_7_1 := (own_sta_keep (own_sta_keep St_5_1 Kc_8 all0) Kc_11 (allS (own_exa_ns (A_7.keep Kc_8)) all0))
  obtain ⟨cq_12, kq_12, q_12a, q_12b, q_12c⟩ := isOf hZ_11 rfl (((pfE_a_6.ext E_7).keep Kc_8).keep Kc_11)
  obtain ⟨_, _, ⟨T_12, L_12, k_12, n_12⟩, -, X_12, ⟨Lc_12, hQ_12, l_12, y_12, z_12⟩, st_12⟩ := X_11.virtualBack hx (y := MN13) (z := MN13) hown_11 (mvT hZ_11 (ow hw 76 rfl)) (mvT hZ_11 (ow hw 77 rfl)) (notFace_of_selects (args := #[]) (mvT hZ_11 (ow hw 79 rfl))) (mvT hZ_11 (ow hw 79 rfl)) (mvT hZ_11 (ow hw 78 rfl)) (by decide) (backOf (W := 0) (rm_sd l Z a0 hw [] b_2 b_7 g__3 g__8 p1 (own_ty ta t0 t1 t2 t3 t4 t5 t6 t7 t8) (nar .boolean qa) (nar .boolean ra) nb (own_ty tb t0 t1 t2 t3 t4 t5 t6 t7 t8) (nar .boolean qb) (nar .boolean rb) d__3 d__8 (0 : Int32) cs T_11.heap n0 Z_11 (((pfF_name_a_6.ext E_7).keep Kc_8 nin0).keep Kc_11 (ninS (Nat.ne_of_lt (Nat.lt_of_lt_of_le pfE_a_6.lt (Nat.le_of_eq g_7.symm))) nin0)) (((pfF_number_a_6.ext E_7).keep Kc_8 nin0).keep Kc_11 (ninS (Nat.ne_of_lt (Nat.lt_of_lt_of_le pfE_a_6.lt (Nat.le_of_eq g_7.symm))) nin0)) (((pfF_type_a_6.ext E_7).keep Kc_8 nin0).keep Kc_11 (ninS (Nat.ne_of_lt (Nat.lt_of_lt_of_le pfE_a_6.lt (Nat.le_of_eq g_7.symm))) nin0)) (((pfF_required_a_6.ext E_7).keep Kc_8 nin0).keep Kc_11 (ninS (Nat.ne_of_lt (Nat.lt_of_lt_of_le pfE_a_6.lt (Nat.le_of_eq g_7.symm))) nin0)) (((pfF_repeated_a_6.ext E_7).keep Kc_8 nin0).keep Kc_11 (ninS (Nat.ne_of_lt (Nat.lt_of_lt_of_le pfE_a_6.lt (Nat.le_of_eq g_7.symm))) nin0)) pfF_name_a_11 pfF_number_a_11 pfF_type_a_11 pfF_required_a_11 pfF_repeated_a_11 ((((pfF_value_g_3.keep Kc_6 (ninS (Ne.symm (Nat.ne_of_lt (Nat.lt_of_lt_of_le A_2.lt pfsz_g_3))) nin0)).ext E_7).keep Kc_8 nin0).keep Kc_11 (ninS (Nat.ne_of_lt (Nat.lt_of_lt_of_le (pfE_g_3.keep Kc_6).lt (Nat.le_of_eq g_7.symm))) nin0)) ((((pfF_coder_g_3.keep Kc_6 (ninS (Ne.symm (Nat.ne_of_lt (Nat.lt_of_lt_of_le A_2.lt pfsz_g_3))) nin0)).ext E_7).keep Kc_8 nin0).keep Kc_11 (ninS (Nat.ne_of_lt (Nat.lt_of_lt_of_le (pfE_g_3.keep Kc_6).lt (Nat.le_of_eq g_7.symm))) nin0)) ((((pfE_g_3.keep Kc_6).ext E_7).keep Kc_8).keep Kc_11) (pfF_value_g_8.keep Kc_11 (ninS (Ne.symm (Nat.ne_of_lt (Nat.lt_of_lt_of_le A_7.lt pfsz_g_8))) nin0)) (pfF_coder_g_8.keep Kc_11 (ninS (Ne.symm (Nat.ne_of_lt (Nat.lt_of_lt_of_le A_7.lt pfsz_g_8))) nin0)) (pfE_g_8.keep Kc_11) St_7_1 hcs (rm_leq12 l Z a0 hw [] d__3 kd__3 d__8 kd__8 (nar .byte ((nar .char ca0).toInt8.toInt32)) (nar .byte ((nar .char cb0).toInt8.toInt32)) (nar .byte ((nar .char cb1).toInt8.toInt32)) T_11.heap n0 Z_11 ((((pfV_d_3.keep Kc_6 (ninS (Ne.symm (Nat.ne_of_lt (Nat.lt_of_lt_of_le A_2.lt pfsz_d_3))) nin0)).ext E_7).keep Kc_8 nin0).keep Kc_11 (ninS (Nat.ne_of_lt (Nat.lt_of_lt_of_le (pfV_d_3.keep Kc_6 (ninS (Ne.symm (Nat.ne_of_lt (Nat.lt_of_lt_of_le A_2.lt pfsz_d_3))) nin0)).lt (Nat.le_of_eq g_7.symm))) nin0)) (pfV_d_8.keep Kc_11 (ninS (Ne.symm (Nat.ne_of_lt (Nat.lt_of_lt_of_le A_7.lt pfsz_d_8))) nin0))) (Nat.ne_of_lt (Nat.lt_of_lt_of_le ((pfE_g_3.keep Kc_6).ext E_7).lt pfsz_g_8))) hZ_11 (ow hw 80 rfl) (ow hw 5 rfl) (by decide) (by decide)) q_12a q_12c (g := (mkF mM 433 (lc83 p1 p2 p3 p4 sn cn ta tb qa qb ra rb sa sb nb ca0 ca1 cb0 cb1 b_2 b_7) [(.ref b_7), (.ref b_2)])) rfl (by rw [hml]; rfl) (Steps.refl _) (argsL := [(.ref b_7)]) (rest := []) (lenOf pd_13 rfl) rfl (by show 2 * 0 + _ ≤ _; exact Nat.le_of_eq rfl) (hb hby at_433) (fun _ _ => ⟨rfl, rfl, (by decide : 20 + 0 ≤ _), (by decide : 154 + 0 ≤ _)⟩)
  dsimp only [Pt.U, Pt.locs, Pt.cells, Pt.slots] at X_12 l_12 y_12 z_12 st_12 hQ_12
  subst l_12 y_12 z_12
  obtain ⟨rfl, N_12q, eh_12⟩ := hQ_12
  have N_12 := Fr.app N_11 N_12q
  obtain ⟨fs, hr, hrun, hended, hRE⟩ := X_12.leaveW hS_11 (show _ ≤ T_12.heap.size by rw [eh_12]; exact hk_11) (v := some (.int (1 : Int32))) (fun h => by rw [Bd.returns] at h; cases h)
  refine ⟨_, _, pre0 _ ?_, hrun, hended, _, _, rfl, ?_, ⟨_, rfl⟩, hRE.2.1, hRE.2.2.1, hRE.2.2.2.mono (by decide) (by decide)⟩
  · show oS pP eE below s₁ (mkF mM 0 (lc36 p1 p2 p3 p4) []) _
    refine st_1 _ ?_
    show oS pP eE below T_1 (mkF mM 283 (lc79 p1 p2 p3 p4 sn cn ta tb qa qb ra rb sa sb nb ca0 ca1 cb0 cb1) []) _
    refine st_2 _ ?_
    show oS pP eE below T_2 (mkF mM 286 (lc79 p1 p2 p3 p4 sn cn ta tb qa qb ra rb sa sb nb ca0 ca1 cb0 cb1) [(.ref b_2)]) _
    refine XS.dup X_2.here hx rfl (hb hby at_286) rfl rfl ?_
    refine XS.iload X_2.here hx rfl (hb hby at_287) rfl ?_
    refine XS.iload X_2.here hx rfl (hb hby at_289) rfl ?_
    refine XS.iload X_2.here hx rfl (hb hby at_291) rfl ?_
    show oS pP eE below T_2 (mkF mM 293 (lc79 p1 p2 p3 p4 sn cn ta tb qa qb ra rb sa sb nb ca0 ca1 cb0 cb1) [(.int ca1), (.int ca0), (.int (1 : Int32)), (.ref b_2), (.ref b_2)]) _
    refine st_3.trans ?_
    show oS pP eE below T_3 (mkF mM 296 (lc79 p1 p2 p3 p4 sn cn ta tb qa qb ra rb sa sb nb ca0 ca1 cb0 cb1) [(.ref g__3), (.ref b_2), (.ref b_2)]) _
    refine XS.iloadN X_3.here hx rfl (hb hby at_296) rfl ?_
    refine XS.iload X_3.here hx rfl (hb hby at_297) rfl ?_
    show oS pP eE below T_3 (mkF mM 299 (lc79 p1 p2 p3 p4 sn cn ta tb qa qb ra rb sa sb nb ca0 ca1 cb0 cb1) [(.int ta), (.int p1), (.ref g__3), (.ref b_2), (.ref b_2)]) _
    refine st_4 _ ?_
    show oS pP eE below T_4 (mkF mM 302 (lc79 p1 p2 p3 p4 sn cn ta tb qa qb ra rb sa sb nb ca0 ca1 cb0 cb1) [(.ref (own_ty ta t0 t1 t2 t3 t4 t5 t6 t7 t8)), (.int p1), (.ref g__3), (.ref b_2), (.ref b_2)]) _
    refine XS.iload X_4.here hx rfl (hb hby at_302) rfl ?_
    refine XS.iload X_4.here hx rfl (hb hby at_304) rfl ?_
    refine XS.iload X_4.here hx rfl (hb hby at_306) rfl ?_
    show oS pP eE below T_4 (mkF mM 308 (lc79 p1 p2 p3 p4 sn cn ta tb qa qb ra rb sa sb nb ca0 ca1 cb0 cb1) [(.int sa), (.int ra), (.int qa), (.ref (own_ty ta t0 t1 t2 t3 t4 t5 t6 t7 t8)), (.int p1), (.ref g__3), (.ref b_2), (.ref b_2)]) _
    refine st_5 _ ?_
    show oS pP eE below T_5 (mkF mM 311 (lc79 p1 p2 p3 p4 sn cn ta tb qa qb ra rb sa sb nb ca0 ca1 cb0 cb1) [(.ref (own_st sa es0 es1 es2 es3)), (.int ra), (.int qa), (.ref (own_ty ta t0 t1 t2 t3 t4 t5 t6 t7 t8)), (.int p1), (.ref g__3), (.ref b_2), (.ref b_2)]) _
    refine st_6.trans ?_
    show oS pP eE below T_6 (mkF mM 314 (lc79 p1 p2 p3 p4 sn cn ta tb qa qb ra rb sa sb nb ca0 ca1 cb0 cb1) [(.ref b_2)]) _
    refine XS.astore X_6.here hx rfl (hb hby at_314) rfl rfl (l' := (lc80 p1 p2 p3 p4 sn cn ta tb qa qb ra rb sa sb nb ca0 ca1 cb0 cb1 b_2)) rfl ?_
    show oS pP eE below T_6 (mkF mM 316 (lc80 p1 p2 p3 p4 sn cn ta tb qa qb ra rb sa sb nb ca0 ca1 cb0 cb1 b_2) []) _
    refine st_7 _ ?_
    show oS pP eE below T_7 (mkF mM 319 (lc80 p1 p2 p3 p4 sn cn ta tb qa qb ra rb sa sb nb ca0 ca1 cb0 cb1 b_2) [(.ref b_7)]) _
    refine XS.dup X_7.here hx rfl (hb hby at_319) rfl rfl ?_
    refine XS.iload X_7.here hx rfl (hb hby at_320) rfl ?_
    refine XS.iload X_7.here hx rfl (hb hby at_322) rfl ?_
    refine XS.iload X_7.here hx rfl (hb hby at_324) rfl ?_
    show oS pP eE below T_7 (mkF mM 326 (lc80 p1 p2 p3 p4 sn cn ta tb qa qb ra rb sa sb nb ca0 ca1 cb0 cb1 b_2) [(.int cb1), (.int cb0), (.int (2 : Int32)), (.ref b_7), (.ref b_7)]) _
    refine st_8.trans ?_
    show oS pP eE below T_8 (mkF mM 329 (lc80 p1 p2 p3 p4 sn cn ta tb qa qb ra rb sa sb nb ca0 ca1 cb0 cb1 b_2) [(.ref g__8), (.ref b_7), (.ref b_7)]) _
    refine XS.iload X_8.here hx rfl (hb hby at_329) rfl ?_
    refine XS.iload X_8.here hx rfl (hb hby at_331) rfl ?_
    show oS pP eE below T_8 (mkF mM 333 (lc80 p1 p2 p3 p4 sn cn ta tb qa qb ra rb sa sb nb ca0 ca1 cb0 cb1 b_2) [(.int tb), (.int nb), (.ref g__8), (.ref b_7), (.ref b_7)]) _
    refine st_9 _ ?_
    show oS pP eE below T_9 (mkF mM 336 (lc80 p1 p2 p3 p4 sn cn ta tb qa qb ra rb sa sb nb ca0 ca1 cb0 cb1 b_2) [(.ref (own_ty tb t0 t1 t2 t3 t4 t5 t6 t7 t8)), (.int nb), (.ref g__8), (.ref b_7), (.ref b_7)]) _
    refine XS.iload X_9.here hx rfl (hb hby at_336) rfl ?_
    refine XS.iload X_9.here hx rfl (hb hby at_338) rfl ?_
    refine XS.iload X_9.here hx rfl (hb hby at_340) rfl ?_
    show oS pP eE below T_9 (mkF mM 342 (lc80 p1 p2 p3 p4 sn cn ta tb qa qb ra rb sa sb nb ca0 ca1 cb0 cb1 b_2) [(.int sb), (.int rb), (.int qb), (.ref (own_ty tb t0 t1 t2 t3 t4 t5 t6 t7 t8)), (.int nb), (.ref g__8), (.ref b_7), (.ref b_7)]) _
    refine st_10 _ ?_
    show oS pP eE below T_10 (mkF mM 345 (lc80 p1 p2 p3 p4 sn cn ta tb qa qb ra rb sa sb nb ca0 ca1 cb0 cb1 b_2) [(.ref (own_st sb es0 es1 es2 es3)), (.int rb), (.int qb), (.ref (own_ty tb t0 t1 t2 t3 t4 t5 t6 t7 t8)), (.int nb), (.ref g__8), (.ref b_7), (.ref b_7)]) _
    refine st_11.trans ?_
    show oS pP eE below T_11 (mkF mM 348 (lc80 p1 p2 p3 p4 sn cn ta tb qa qb ra rb sa sb nb ca0 ca1 cb0 cb1 b_2) [(.ref b_7)]) _
    refine XS.astore X_11.here hx rfl (hb hby at_348) rfl rfl (l' := (lc81 p1 p2 p3 p4 sn cn ta tb qa qb ra rb sa sb nb ca0 ca1 cb0 cb1 b_2 b_7)) rfl ?_
    refine XS.iload X_11.here hx rfl (hb hby at_350) rfl ?_
    refine XS.iload X_11.here hx rfl (hb hby at_352) rfl ?_
    refine XS.icmpYes X_11.here hx rfl (pc0 := 354) (pc' := 387) rfl (hb hby at_354) rfl (by decide) (by decide) (by decide) ?_
    refine XS.iconst X_11.here hx rfl (hb hby at_387) ?_
    refine XS.istore X_11.here hx rfl (hb hby at_388) rfl (l' := (lc82 p1 p2 p3 p4 sn cn ta tb qa qb ra rb sa sb nb ca0 ca1 cb0 cb1 b_2 b_7)) rfl ?_
    refine XS.iload X_11.here hx rfl (hb hby at_390) rfl ?_
    refine XS.ifYes X_11.here hx rfl (pc0 := 392) (pc' := 426) rfl (hb hby at_392) rfl (by decide) (by decide) (by decide) ?_
    refine XS.iconst X_11.here hx rfl (hb hby at_426) ?_
    refine XS.istore X_11.here hx rfl (hb hby at_427) rfl (l' := (lc83 p1 p2 p3 p4 sn cn ta tb qa qb ra rb sa sb nb ca0 ca1 cb0 cb1 b_2 b_7)) rfl ?_
    refine XS.aload X_11.here hx rfl (hb hby at_429) rfl rfl ?_
    refine XS.aload X_11.here hx rfl (hb hby at_431) rfl rfl ?_
    show oS pP eE below T_11 (mkF mM 433 (lc83 p1 p2 p3 p4 sn cn ta tb qa qb ra rb sa sb nb ca0 ca1 cb0 cb1 b_2 b_7) [(.ref b_7), (.ref b_2)]) _
    refine st_12.trans ?_
    show oS pP eE below T_12 (mkF mM 436 (lc83 p1 p2 p3 p4 sn cn ta tb qa qb ra rb sa sb nb ca0 ca1 cb0 cb1 b_2 b_7) [(.int (own_sd (own_nz (0 : Int32)) p1 nb (own_ty ta t0 t1 t2 t3 t4 t5 t6 t7 t8) (own_ty tb t0 t1 t2 t3 t4 t5 t6 t7 t8) (nar .boolean qa) (nar .boolean qb) (nar .boolean ra) (nar .boolean rb)))]) _
    refine XS.iload X_12.here hx rfl (hb hby at_436) rfl ?_
    refine XS.icmpNo X_12.here hx rfl (hb hby at_438) rfl (XT.ii_ne_f hfin) ?_
    refine XS.iconst X_12.here hx rfl (hb hby at_441) ?_
    refine XS.goto X_12.here hx rfl (pc0 := 442) (pc' := 446) rfl (hb hby at_442) (by decide) (by decide) ?_
    show oS pP eE below T_12 (mkF mM 446 (lc83 p1 p2 p3 p4 sn cn ta tb qa qb ra rb sa sb nb ca0 ca1 cb0 cb1 b_2 b_7) [(.int (1 : Int32))]) _
    exact retN X_12 hx (t := .boolean) Bd.returns (by simp) (hb hby at_446) hr
  · show Q_law12 Z p1 p2 p3 p4 sn cn qa qb ra rb ta sa sb ca0 ca1 tb nb cb0 cb1 t0 t1 t2 t3 t4 t5 t6 t7 t8 es0 es1 es2 es3 cs h0 n0 _ T_12.heap _
    exact ⟨rfl, N_12⟩
abbrev lc84 (p1 : Int32) (p2 : Int32) (p3 : Int64) (p4 : Int64) (sn : Int32) (cn : Int32) (ta : Int32) (tb : Int32) (qa : Int32) (qb : Int32) (ra : Int32) (rb : Int32) (sa : Int32) (sb : Int32) (nb : Int32) (ca0 : Int32) (ca1 : Int32) (cb0 : Int32) (cb1 : Int32) : Array Slot := #[.val (.int p1), .val (.int p2), .val (.long p3), .second, .val (.long p4), .second, .val (.int sn), .val (.int cn), .val (.int ta), .val (.int tb), .val (.int qa), .val (.int qb), .val (.int ra), .val (.int rb), .val (.int sa), .val (.int sb), .val (.int nb), .val (.int ca0), .val (.int ca1), .val (.int cb0), .val (.int cb1), .val (.int (2 : Int32)), .val (.int (0 : Int32)), .unset, .unset, .unset, .unset]
abbrev lc85 (p1 : Int32) (p2 : Int32) (p3 : Int64) (p4 : Int64) (sn : Int32) (cn : Int32) (ta : Int32) (tb : Int32) (qa : Int32) (qb : Int32) (ra : Int32) (rb : Int32) (sa : Int32) (sb : Int32) (nb : Int32) (ca0 : Int32) (ca1 : Int32) (cb0 : Int32) (cb1 : Int32) (b_2 : Addr) : Array Slot := #[.val (.int p1), .val (.int p2), .val (.long p3), .second, .val (.long p4), .second, .val (.int sn), .val (.int cn), .val (.int ta), .val (.int tb), .val (.int qa), .val (.int qb), .val (.int ra), .val (.int rb), .val (.int sa), .val (.int sb), .val (.int nb), .val (.int ca0), .val (.int ca1), .val (.int cb0), .val (.int cb1), .val (.int (2 : Int32)), .val (.int (0 : Int32)), .val (.ref b_2), .unset, .unset, .unset]
abbrev lc86 (p1 : Int32) (p2 : Int32) (p3 : Int64) (p4 : Int64) (sn : Int32) (cn : Int32) (ta : Int32) (tb : Int32) (qa : Int32) (qb : Int32) (ra : Int32) (rb : Int32) (sa : Int32) (sb : Int32) (nb : Int32) (ca0 : Int32) (ca1 : Int32) (cb0 : Int32) (cb1 : Int32) (b_2 : Addr) (b_7 : Addr) : Array Slot := #[.val (.int p1), .val (.int p2), .val (.long p3), .second, .val (.long p4), .second, .val (.int sn), .val (.int cn), .val (.int ta), .val (.int tb), .val (.int qa), .val (.int qb), .val (.int ra), .val (.int rb), .val (.int sa), .val (.int sb), .val (.int nb), .val (.int ca0), .val (.int ca1), .val (.int cb0), .val (.int cb1), .val (.int (2 : Int32)), .val (.int (0 : Int32)), .val (.ref b_2), .val (.ref b_7), .unset, .unset]
abbrev lc87 (p1 : Int32) (p2 : Int32) (p3 : Int64) (p4 : Int64) (sn : Int32) (cn : Int32) (ta : Int32) (tb : Int32) (qa : Int32) (qb : Int32) (ra : Int32) (rb : Int32) (sa : Int32) (sb : Int32) (nb : Int32) (ca0 : Int32) (ca1 : Int32) (cb0 : Int32) (cb1 : Int32) (b_2 : Addr) (b_7 : Addr) : Array Slot := #[.val (.int p1), .val (.int p2), .val (.long p3), .second, .val (.long p4), .second, .val (.int sn), .val (.int cn), .val (.int ta), .val (.int tb), .val (.int qa), .val (.int qb), .val (.int ra), .val (.int rb), .val (.int sa), .val (.int sb), .val (.int nb), .val (.int ca0), .val (.int ca1), .val (.int cb0), .val (.int cb1), .val (.int (2 : Int32)), .val (.int (0 : Int32)), .val (.ref b_2), .val (.ref b_7), .val (.int (0 : Int32)), .unset]
abbrev lc88 (p1 : Int32) (p2 : Int32) (p3 : Int64) (p4 : Int64) (sn : Int32) (cn : Int32) (ta : Int32) (tb : Int32) (qa : Int32) (qb : Int32) (ra : Int32) (rb : Int32) (sa : Int32) (sb : Int32) (nb : Int32) (ca0 : Int32) (ca1 : Int32) (cb0 : Int32) (cb1 : Int32) (b_2 : Addr) (b_7 : Addr) : Array Slot := #[.val (.int p1), .val (.int p2), .val (.long p3), .second, .val (.long p4), .second, .val (.int sn), .val (.int cn), .val (.int ta), .val (.int tb), .val (.int qa), .val (.int qb), .val (.int ra), .val (.int rb), .val (.int sa), .val (.int sb), .val (.int nb), .val (.int ca0), .val (.int ca1), .val (.int cb0), .val (.int cb1), .val (.int (2 : Int32)), .val (.int (0 : Int32)), .val (.ref b_2), .val (.ref b_7), .val (.int (0 : Int32)), .val (.int (0 : Int32))]
theorem ef_law20 (mM : MethodId) (x0 : Int32) (x1 : Int32) (x2 : Int64) (x3 : Int64) : entryFrame mM #[(.int x0), (.int x1), (.long x2), (.long x3)] maxLocals = mkF mM 0 #[.val (.int x0), .val (.int x1), .val (.long x2), .second, .val (.long x3), .second, .unset, .unset, .unset, .unset, .unset, .unset, .unset, .unset, .unset, .unset, .unset, .unset, .unset, .unset, .unset, .unset, .unset, .unset, .unset, .unset, .unset] [] := by first | (simp [entryFrame, mkF, argsToLocals, Value.category, maxLocals]; done) | rfl
def Q_law20 (Z : State) (p1 : Int32) (p2 : Int32) (p3 : Int64) (p4 : Int64) (sn : Int32) (cn : Int32) (qa : Int32) (qb : Int32) (ra : Int32) (rb : Int32) (ta : Int32) (sa : Int32) (sb : Int32) (ca0 : Int32) (ca1 : Int32) (tb : Int32) (nb : Int32) (cb0 : Int32) (cb1 : Int32) (t0 : Addr) (t1 : Addr) (t2 : Addr) (t3 : Addr) (t4 : Addr) (t5 : Addr) (t6 : Addr) (t7 : Addr) (t8 : Addr) (es0 : Addr) (es1 : Addr) (es2 : Addr) (es3 : Addr) (cs : Int32) (h0 : Heap) (n0 : Nat) (v_ : Option Value) (h_ : Heap) (L_ : List Loc) : Prop := v_ = some (.int (1 : Int32)) ∧ Fr n0 L_
set_option maxRecDepth 65536 in
set_option maxHeartbeats 40000000 in
theorem rm_law20 (l : Launch) (Z : State) (a0 : Array Value) (hw : ∀ d ∈ tables_1, d.before a0 Z = true) (ws : List Jvm.Cond) (p1 : Int32) (p2 : Int32) (p3 : Int64) (p4 : Int64) (sn : Int32) (cn : Int32) (qa : Int32) (qb : Int32) (ra : Int32) (rb : Int32) (ta : Int32) (sa : Int32) (sb : Int32) (ca0 : Int32) (ca1 : Int32) (tb : Int32) (nb : Int32) (cb0 : Int32) (cb1 : Int32) (t0 : Addr) (t1 : Addr) (t2 : Addr) (t3 : Addr) (t4 : Addr) (t5 : Addr) (t6 : Addr) (t7 : Addr) (t8 : Addr) (es0 : Addr) (es1 : Addr) (es2 : Addr) (es3 : Addr) (cs : Int32) (h0 : Heap) (n0 : Nat) (Z0 : n0 ≤ h0.size) (hEQ : own_eqs p1 p2 p3 p4 sn cn qa qb ra rb ta sa sb ca0 ca1 (2 : Int32) (0 : Int32) tb nb cb0 cb1) (S_String_COMPACT_STRINGS : Sta Z h0 "java/lang/String" "COMPACT_STRINGS" "Z" (.int cs)) (hcs : ¬ cs = 0) (S_FieldType_STRING : Sta Z h0 "com/example/rolling_rung/rollingrung/schema/FieldType" "STRING" "Lcom/example/rolling_rung/rollingrung/schema/FieldType;" (.ref t0)) (S_FieldType_BYTES : Sta Z h0 "com/example/rolling_rung/rollingrung/schema/FieldType" "BYTES" "Lcom/example/rolling_rung/rollingrung/schema/FieldType;" (.ref t1)) (S_FieldType_BOOL : Sta Z h0 "com/example/rolling_rung/rollingrung/schema/FieldType" "BOOL" "Lcom/example/rolling_rung/rollingrung/schema/FieldType;" (.ref t2)) (S_FieldType_INT32 : Sta Z h0 "com/example/rolling_rung/rollingrung/schema/FieldType" "INT32" "Lcom/example/rolling_rung/rollingrung/schema/FieldType;" (.ref t3)) (S_FieldType_INT64 : Sta Z h0 "com/example/rolling_rung/rollingrung/schema/FieldType" "INT64" "Lcom/example/rolling_rung/rollingrung/schema/FieldType;" (.ref t4)) (S_FieldType_SINT32 : Sta Z h0 "com/example/rolling_rung/rollingrung/schema/FieldType" "SINT32" "Lcom/example/rolling_rung/rollingrung/schema/FieldType;" (.ref t5)) (S_FieldType_SINT64 : Sta Z h0 "com/example/rolling_rung/rollingrung/schema/FieldType" "SINT64" "Lcom/example/rolling_rung/rollingrung/schema/FieldType;" (.ref t6)) (S_FieldType_DOUBLE : Sta Z h0 "com/example/rolling_rung/rollingrung/schema/FieldType" "DOUBLE" "Lcom/example/rolling_rung/rollingrung/schema/FieldType;" (.ref t7)) (S_FieldType_FLOAT : Sta Z h0 "com/example/rolling_rung/rollingrung/schema/FieldType" "FLOAT" "Lcom/example/rolling_rung/rollingrung/schema/FieldType;" (.ref t8)) (S_ElementState_ABSENT : Sta Z h0 "com/example/rolling_rung/rollingrung/schema/ElementState" "ABSENT" "Lcom/example/rolling_rung/rollingrung/schema/ElementState;" (.ref es0)) (S_ElementState_DELETE_ONLY : Sta Z h0 "com/example/rolling_rung/rollingrung/schema/ElementState" "DELETE_ONLY" "Lcom/example/rolling_rung/rollingrung/schema/ElementState;" (.ref es1)) (S_ElementState_WRITE_ONLY : Sta Z h0 "com/example/rolling_rung/rollingrung/schema/ElementState" "WRITE_ONLY" "Lcom/example/rolling_rung/rollingrung/schema/ElementState;" (.ref es2)) (S_ElementState_PUBLIC : Sta Z h0 "com/example/rolling_rung/rollingrung/schema/ElementState" "PUBLIC" "Lcom/example/rolling_rung/rollingrung/schema/ElementState;" (.ref es3)) (hq_ca0 : own_ch ca0) (hq_ca1 : own_ch ca1) (hq_cb0 : own_ch cb0) (hq_cb1 : own_ch cb1) (hfin : (own_sd (own_nz (0 : Int32)) p1 nb (own_ty ta t0 t1 t2 t3 t4 t5 t6 t7 t8) (own_ty tb t0 t1 t2 t3 t4 t5 t6 t7 t8) (nar .boolean qa) (nar .boolean qb) (nar .boolean ra) (nar .boolean rb)) = (0 : Int32)) :
    MetFree l x (head1 (Jvm.Cond.code x code maxLocals ret :: ws) room_1) (fun aa_ U_ => aa_ = #[(.int p1), (.int p2), (.long p3), (.long p4)] ∧ Z.Warmed39 U_.vm ∧ U_.heap = h0 ∧ CHv Z own_EL U_.vm h0) (fun _ _ _ _ _ => True) (fun _ U_ o_ U'_ => ∃ v_ L_, o_ = .returned v_ ∧ Q_law20 Z p1 p2 p3 p4 sn cn qa qb ra rb ta sa sb ca0 ca1 tb nb cb0 cb1 t0 t1 t2 t3 t4 t5 t6 t7 t8 es0 es1 es2 es3 cs h0 n0 v_ U'_.heap L_ ∧ ReturnedEndW U_ o_ U'_ L_ 23 160) := by
  refine MetFree.of_bodySF (plainFor_of_name pn_1) hisR ?_
  intro pP eE sS mM argsA below meth cC s₁ Bd hml0 hP hK
  obtain ⟨rfl, hZ, hh, hCH⟩ := hP
  have hx := Bd.exec
  have hby := Bd.bytes
  have hml : cC.maxLocals = 27 := hml0
  have hown : sS.vm.findClass "com/example/rolling_rung/rollingrung/schema/FieldSameDefinitionPinLaw" = some mM.cls := findClass_of_methodNamed Bd.named
  have hnm := (name_of_methodNamed Bd.named Bd.method).1
  have X0 : Stand pP l eE room_1 (sS.setVm sS.vm) mM #[(.int p1), (.int p2), (.long p3), (.long p4)] below meth cC s₁ [] 0 0 := Stand.of_body Bd
  have e0 : s₁.heap = h0 := by rw [← hh, Bd.state]; rfl
  have N0 := Fr.nil n0
  have pre0 : ∀ t_, Steps pP.tables eE below (s₁.setTop (mkF mM 0 #[.val (.int p1), .val (.int p2), .val (.long p3), .second, .val (.long p4), .second, .unset, .unset, .unset, .unset, .unset, .unset, .unset, .unset, .unset, .unset, .unset, .unset, .unset, .unset, .unset, .unset, .unset, .unset, .unset, .unset, .unset] [])) t_ → Steps pP.tables eE below (s₁.setTop (entryFrame mM #[(.int p1), (.int p2), (.long p3), (.long p4)] maxLocals)) t_ := fun t_ k_ => castTop (ef_law20 mM p1 p2 p3 p4) k_
  have hZ : Z.Warmed39 (sS.setVm sS.vm).vm := hZ
  have hown : (sS.setVm sS.vm).vm.findClass "com/example/rolling_rung/rollingrung/schema/FieldSameDefinitionPinLaw" = some mM.cls := hown
  have hS0 : sS.Since sS.vm 0 := (State.WarmedH.refl sS).since 0
  have hk0 : 0 ≤ h0.size := Nat.zero_le _
  have CR0 := CHr.refl hCH
  obtain ⟨T_1, h_1, L_1, X_1, e_1, N_1, Kc_1, st_1⟩ := pc_pre p1 p2 p3 p4 sn cn qa qb ra rb ta sa sb ca0 ca1 (2 : Int32) (0 : Int32) tb nb cb0 cb1 X0 hx hZ hw hby hml hown e0 N0 Z0 hEQ
  have Z_1 : n0 ≤ h_1.size := (Nat.le_trans Z0 Kc_1.1)
  have K_1 : Keep h0 h_1 [] := (Keep.refl h0 []).trans Kc_1 all0
  have hk_1 : _ ≤ h_1.size := Nat.le_trans hk0 Kc_1.1
  have Ca_1 := CHr.keep Kc_1 all0 CR0.1
  have CR_1 := CR0.trans Ca_1
  obtain ⟨T_2, h_2, X_2, e_2, E_2, A_2, D_2, -, st_2⟩ := newO X_1 hx hZ hown (ow hw 3 rfl) (ow hw 4 rfl) (ow hw 5 rfl) e_1 (g := (mkF mM 283 (lc84 p1 p2 p3 p4 sn cn ta tb qa qb ra rb sa sb nb ca0 ca1 cb0 cb1) [])) rfl (hb hby at_283) (by decide) (by decide)
  obtain ⟨b_2, g_2⟩ : ∃ z, z = h_1.size := ⟨_, rfl⟩
  rw [← g_2] at A_2 D_2 st_2
  have g_b_2 : n0 ≤ b_2 := Nat.le_trans Z_1 (Nat.le_of_eq g_2.symm)
  have sz_b_2 : h0.size ≤ b_2 := Nat.le_trans K_1.1 (Nat.le_of_eq g_2.symm)
  have Z_2 : n0 ≤ h_2.size := (Nat.le_trans Z_1 E_2.1)
  have K_2 : Keep h0 h_2 [] := K_1.ext E_2
  have hk_2 : _ ≤ h_2.size := Nat.le_trans hk_1 E_2.1
  have Ca_2 := CHr.ext E_2 CR_1.1
  have CR_2 := CR_1.trans Ca_2
  have F_name_b_2__2 : Fld Z h_2 b_2 "com/example/rolling_rung/rollingrung/schema/Field" "name" "Ljava/lang/String;" .null := D_2 (Or.inr (ow hw 61 rfl)) (ty := (.object "java/lang/String")) (by decide)
  have F_number_b_2__2 : Fld Z h_2 b_2 "com/example/rolling_rung/rollingrung/schema/Field" "number" "I" (.int (0 : Int32)) := D_2 (Or.inr (ow hw 63 rfl)) (ty := .int) (by decide)
  have F_type_b_2__2 : Fld Z h_2 b_2 "com/example/rolling_rung/rollingrung/schema/Field" "type" "Lcom/example/rolling_rung/rollingrung/schema/FieldType;" .null := D_2 (Or.inr (ow hw 65 rfl)) (ty := (.object "com/example/rolling_rung/rollingrung/schema/FieldType")) (by decide)
  have F_required_b_2__2 : Fld Z h_2 b_2 "com/example/rolling_rung/rollingrung/schema/Field" "required" "Z" (.int (0 : Int32)) := D_2 (Or.inr (ow hw 67 rfl)) (ty := .boolean) (by decide)
  have F_repeated_b_2__2 : Fld Z h_2 b_2 "com/example/rolling_rung/rollingrung/schema/Field" "repeated" "Z" (.int (0 : Int32)) := D_2 (Or.inr (ow hw 69 rfl)) (ty := .boolean) (by decide)
  have F_state_b_2__2 : Fld Z h_2 b_2 "com/example/rolling_rung/rollingrung/schema/Field" "state" "Lcom/example/rolling_rung/rollingrung/schema/ElementState;" .null := D_2 (Or.inr (ow hw 71 rfl)) (ty := (.object "com/example/rolling_rung/rollingrung/schema/ElementState")) (by decide)
  have St_2_1 := ((own_sta_keep S_String_COMPACT_STRINGS Kc_1 all0).ext E_2)
  obtain ⟨_, _, ⟨T_3, L_3, k_3, n_3⟩, -, Xc_3, hSc_3, hgr_3, ⟨Lc_3, hQ_3, l_3, y_3, z_3, CHc_3⟩, st_3⟩ := callSS X_2 hx (y := MN9) hown (mvT hZ (ow hw 6 rfl)) (mvT hZ (ow hw 7 rfl)) (mvT hZ (ow hw 8 rfl)) (mvT hZ (ow hw 9 rfl)) (by decide) (backOfSH (W := 2) (rm_mk2 l Z a0 hw [] cs ca0 ca1 h_2 n0 Z_2 St_2_1 hcs hq_ca0 hq_ca1) hZ (ow hw 9 rfl) (ow hw 8 rfl) (by decide) (by decide) (own_EW hw) CR_2.1) (g := (mkF mM 293 (lc84 p1 p2 p3 p4 sn cn ta tb qa qb ra rb sa sb nb ca0 ca1 cb0 cb1) [(.int ca1), (.int ca0), (.int (2 : Int32)), (.ref b_2), (.ref b_2)])) rfl (by rw [hml]; rfl) (argsL := [(.int (2 : Int32)), (.int ca0), (.int ca1)]) (rest := [(.ref b_2), (.ref b_2)]) (lenOf pd_9 rfl) rfl (by show 2 * 0 + _ ≤ _; exact Nat.le_of_eq rfl) (hb hby at_293) (fun _ _ => ⟨rfl, e_2, (by decide : 1 + 3 ≤ _), (by decide : 6 + 8 ≤ _)⟩)
  dsimp only [Pt.U, Pt.locs, Pt.cells, Pt.slots] at Xc_3 hSc_3 hgr_3 l_3 y_3 z_3 st_3 hQ_3 CHc_3
  subst l_3 y_3 z_3
  obtain ⟨X_3, hS_3, hZ_3, hown_3⟩ := rebS hS0 (show _ ≤ T_2.heap.size by rw [e_2]; exact hk_2) Xc_3 hSc_3 hgr_3 hZ hown
  obtain ⟨g__3, ⟨d__3, ⟨kd__3, ⟨rfl, N_3q, Kc_3, pfsz_g_3, pfsz_d_3, pfE_g_3, pfF_value_g_3, pfF_coder_g_3, pfV_d_3⟩⟩⟩⟩ := hQ_3
  have Z_3 : n0 ≤ T_3.heap.size := (Nat.le_trans Z_2 Kc_3.1)
  have K_3 : Keep h0 T_3.heap [] := K_2.trans Kc_3 all0
  have Ca_3 := CHc_3
  have CR_3 := CR_2.trans Ca_3
  have hk_3 : _ ≤ T_3.heap.size := Nat.le_refl _
  have sz_g__3 : h0.size ≤ g__3 := Nat.le_trans K_2.1 pfsz_g_3
  have g_g__3 : n0 ≤ g__3 := Nat.le_trans Z_2 pfsz_g_3
  have sz_d__3 : h0.size ≤ d__3 := Nat.le_trans K_2.1 pfsz_d_3
  have g_d__3 : n0 ≤ d__3 := Nat.le_trans Z_2 pfsz_d_3
  have N_3 := Fr.app N_1 N_3q
  have St_3_3 := (own_sta_keep ((own_sta_keep S_FieldType_STRING Kc_1 all0).ext E_2) Kc_3 all0)
  have St_3_4 := (own_sta_keep ((own_sta_keep S_FieldType_BYTES Kc_1 all0).ext E_2) Kc_3 all0)
  have St_3_5 := (own_sta_keep ((own_sta_keep S_FieldType_BOOL Kc_1 all0).ext E_2) Kc_3 all0)
  have St_3_6 := (own_sta_keep ((own_sta_keep S_FieldType_INT32 Kc_1 all0).ext E_2) Kc_3 all0)
  have St_3_7 := (own_sta_keep ((own_sta_keep S_FieldType_INT64 Kc_1 all0).ext E_2) Kc_3 all0)
  have St_3_8 := (own_sta_keep ((own_sta_keep S_FieldType_SINT32 Kc_1 all0).ext E_2) Kc_3 all0)
  have St_3_9 := (own_sta_keep ((own_sta_keep S_FieldType_SINT64 Kc_1 all0).ext E_2) Kc_3 all0)
  have St_3_10 := (own_sta_keep ((own_sta_keep S_FieldType_DOUBLE Kc_1 all0).ext E_2) Kc_3 all0)
  have St_3_11 := (own_sta_keep ((own_sta_keep S_FieldType_FLOAT Kc_1 all0).ext E_2) Kc_3 all0)
  obtain ⟨_, _, ⟨T_4, L_4, k_4, n_4⟩, -, X_4, ⟨Lc_4, hQ_4, l_4, y_4, z_4⟩, st_4⟩ := Jvm.LawKit.callS X_3 hx (y := MN10) hown_3 (mvT hZ_3 (ow hw 32 rfl)) (mvT hZ_3 (ow hw 33 rfl)) (mvT hZ_3 (ow hw 8 rfl)) (mvT hZ_3 (ow hw 34 rfl)) (by decide) (backOf (W := 4) (rm_typ l Z a0 hw [] ta t0 t1 t2 t3 t4 t5 t6 t7 t8 T_3.heap n0 Z_3 St_3_3 St_3_4 St_3_5 St_3_6 St_3_7 St_3_8 St_3_9 St_3_10 St_3_11) hZ_3 (ow hw 34 rfl) (ow hw 8 rfl) (by decide) (by decide)) (g := (mkF mM 299 (lc84 p1 p2 p3 p4 sn cn ta tb qa qb ra rb sa sb nb ca0 ca1 cb0 cb1) [(.int ta), (.int p1), (.ref g__3), (.ref b_2), (.ref b_2)])) rfl (by rw [hml]; rfl) (argsL := [(.int ta)]) (rest := [(.int p1), (.ref g__3), (.ref b_2), (.ref b_2)]) (lenOf pd_10 rfl) rfl (by show 2 * 0 + _ ≤ _; exact Nat.le_of_eq rfl) (hb hby at_299) (fun _ _ => ⟨rfl, rfl, (by decide : 4 + 0 ≤ _), (by decide : 14 + 0 ≤ _)⟩)
  dsimp only [Pt.U, Pt.locs, Pt.cells, Pt.slots] at X_4 l_4 y_4 z_4 st_4 hQ_4
  subst l_4 y_4 z_4
  obtain ⟨rfl, N_4q, eh_4⟩ := hQ_4
  have N_4 := Fr.app N_3 N_4q
  have St_3_12 := (own_sta_keep ((own_sta_keep S_ElementState_ABSENT Kc_1 all0).ext E_2) Kc_3 all0)
  have St_3_13 := (own_sta_keep ((own_sta_keep S_ElementState_DELETE_ONLY Kc_1 all0).ext E_2) Kc_3 all0)
  have St_3_14 := (own_sta_keep ((own_sta_keep S_ElementState_WRITE_ONLY Kc_1 all0).ext E_2) Kc_3 all0)
  have St_3_15 := (own_sta_keep ((own_sta_keep S_ElementState_PUBLIC Kc_1 all0).ext E_2) Kc_3 all0)
  obtain ⟨_, _, ⟨T_5, L_5, k_5, n_5⟩, -, X_5, ⟨Lc_5, hQ_5, l_5, y_5, z_5⟩, st_5⟩ := Jvm.LawKit.callS X_4 hx (y := MN11) hown_3 (mvT hZ_3 (ow hw 38 rfl)) (mvT hZ_3 (ow hw 39 rfl)) (mvT hZ_3 (ow hw 8 rfl)) (mvT hZ_3 (ow hw 40 rfl)) (by decide) (backOf (W := 7) (rm_sta l Z a0 hw [] sa es0 es1 es2 es3 T_3.heap n0 Z_3 St_3_12 St_3_13 St_3_14 St_3_15) hZ_3 (ow hw 40 rfl) (ow hw 8 rfl) (by decide) (by decide)) (g := (mkF mM 308 (lc84 p1 p2 p3 p4 sn cn ta tb qa qb ra rb sa sb nb ca0 ca1 cb0 cb1) [(.int sa), (.int ra), (.int qa), (.ref (own_ty ta t0 t1 t2 t3 t4 t5 t6 t7 t8)), (.int p1), (.ref g__3), (.ref b_2), (.ref b_2)])) rfl (by rw [hml]; rfl) (argsL := [(.int sa)]) (rest := [(.int ra), (.int qa), (.ref (own_ty ta t0 t1 t2 t3 t4 t5 t6 t7 t8)), (.int p1), (.ref g__3), (.ref b_2), (.ref b_2)]) (lenOf pd_11 rfl) rfl (by show 2 * 0 + _ ≤ _; exact Nat.le_of_eq rfl) (hb hby at_308) (fun _ _ => ⟨rfl, eh_4, (by decide : 4 + 0 ≤ _), (by decide : 14 + 0 ≤ _)⟩)
  dsimp only [Pt.U, Pt.locs, Pt.cells, Pt.slots] at X_5 l_5 y_5 z_5 st_5 hQ_5
  subst l_5 y_5 z_5
  obtain ⟨rfl, N_5q, eh_5⟩ := hQ_5
  have N_5 := Fr.app N_4 N_5q
  obtain ⟨_, _, ⟨T_6, L_6, k_6, n_6⟩, -, Xc_6, hSc_6, hgr_6, ⟨Lc_6, hQ_6, l_6, y_6, z_6, CHc_6⟩, st_6⟩ := X_5.specialBackS hx (y := MN12) rfl hown_3 (mvT hZ_3 (ow hw 44 rfl)) (mvT hZ_3 (ow hw 45 rfl)) (mvT hZ_3 (ow hw 46 rfl)) (by decide) (backOfSH (W := 1) (rm_fini l Z a0 hw [] b_2 g__3 p1 (own_ty ta t0 t1 t2 t3 t4 t5 t6 t7 t8) qa ra (own_st sa es0 es1 es2 es3) T_3.heap n0 Z_3 (F_name_b_2__2.keep Kc_3 nin0) (F_number_b_2__2.keep Kc_3 nin0) (F_type_b_2__2.keep Kc_3 nin0) (F_required_b_2__2.keep Kc_3 nin0) (F_repeated_b_2__2.keep Kc_3 nin0) (F_state_b_2__2.keep Kc_3 nin0) (A_2.keep Kc_3) g_b_2) hZ_3 (ow hw 46 rfl) (ow hw 5 rfl) (by decide) (by decide) (own_EW hw) CR_3.1) (g := (mkF mM 311 (lc84 p1 p2 p3 p4 sn cn ta tb qa qb ra rb sa sb nb ca0 ca1 cb0 cb1) [(.ref (own_st sa es0 es1 es2 es3)), (.int ra), (.int qa), (.ref (own_ty ta t0 t1 t2 t3 t4 t5 t6 t7 t8)), (.int p1), (.ref g__3), (.ref b_2), (.ref b_2)])) rfl (by rw [hml]; rfl) (Steps.refl _) (a := b_2) (argsL := [(.ref g__3), (.int p1), (.ref (own_ty ta t0 t1 t2 t3 t4 t5 t6 t7 t8)), (.int qa), (.int ra), (.ref (own_st sa es0 es1 es2 es3))]) (rest := [(.ref b_2)]) (lenOf pd_12 rfl) rfl (by show 2 * 0 + _ ≤ _; exact Nat.le_of_eq rfl) (hb hby at_311) (fun _ _ => ⟨rfl, eh_5, (by decide : 4 + 6 ≤ _), (by decide : 14 + 64 ≤ _)⟩)
  dsimp only [Pt.U, Pt.locs, Pt.cells, Pt.slots] at Xc_6 hSc_6 hgr_6 l_6 y_6 z_6 st_6 hQ_6 CHc_6
  subst l_6 y_6 z_6
  obtain ⟨X_6, hS_6, hZ_6, hown_6⟩ := rebS hS_3 (show _ ≤ T_5.heap.size by rw [eh_5]; exact hk_3) Xc_6 hSc_6 hgr_6 hZ_3 hown_3
  obtain ⟨rfl, N_6q, Kc_6, pfF_name_a_6, pfF_number_a_6, pfF_type_a_6, pfF_required_a_6, pfF_repeated_a_6, pfF_state_a_6, pfE_a_6⟩ := hQ_6
  have Z_6 : n0 ≤ T_6.heap.size := (Nat.le_trans Z_3 Kc_6.1)
  have K_6 : Keep h0 T_6.heap [] := K_3.trans Kc_6 (allS (Or.inr sz_b_2) all0)
  have Ca_6 := CHc_6
  have CR_6 := CR_3.trans Ca_6
  have hk_6 : _ ≤ T_6.heap.size := Nat.le_refl _
  have N_6 := Fr.app N_5 N_6q
  obtain ⟨T_7, h_7, X_7, e_7, E_7, A_7, D_7, -, st_7⟩ := newO X_6 hx hZ_6 hown_6 (ow hw 3 rfl) (ow hw 4 rfl) (ow hw 5 rfl) rfl (g := (mkF mM 316 (lc85 p1 p2 p3 p4 sn cn ta tb qa qb ra rb sa sb nb ca0 ca1 cb0 cb1 b_2) [])) rfl (hb hby at_316) (by decide) (by decide)
  obtain ⟨b_7, g_7⟩ : ∃ z, z = T_6.heap.size := ⟨_, rfl⟩
  rw [← g_7] at A_7 D_7 st_7
  have g_b_7 : n0 ≤ b_7 := Nat.le_trans Z_6 (Nat.le_of_eq g_7.symm)
  have sz_b_7 : h0.size ≤ b_7 := Nat.le_trans K_6.1 (Nat.le_of_eq g_7.symm)
  have Z_7 : n0 ≤ h_7.size := (Nat.le_trans Z_6 E_7.1)
  have K_7 : Keep h0 h_7 [] := K_6.ext E_7
  have hk_7 : _ ≤ h_7.size := Nat.le_trans hk_6 E_7.1
  have Ca_7 := CHr.ext E_7 CR_6.1
  have CR_7 := CR_6.trans Ca_7
  have F_name_b_7__7 : Fld Z h_7 b_7 "com/example/rolling_rung/rollingrung/schema/Field" "name" "Ljava/lang/String;" .null := D_7 (Or.inr (ow hw 61 rfl)) (ty := (.object "java/lang/String")) (by decide)
  have F_number_b_7__7 : Fld Z h_7 b_7 "com/example/rolling_rung/rollingrung/schema/Field" "number" "I" (.int (0 : Int32)) := D_7 (Or.inr (ow hw 63 rfl)) (ty := .int) (by decide)
  have F_type_b_7__7 : Fld Z h_7 b_7 "com/example/rolling_rung/rollingrung/schema/Field" "type" "Lcom/example/rolling_rung/rollingrung/schema/FieldType;" .null := D_7 (Or.inr (ow hw 65 rfl)) (ty := (.object "com/example/rolling_rung/rollingrung/schema/FieldType")) (by decide)
  have F_required_b_7__7 : Fld Z h_7 b_7 "com/example/rolling_rung/rollingrung/schema/Field" "required" "Z" (.int (0 : Int32)) := D_7 (Or.inr (ow hw 67 rfl)) (ty := .boolean) (by decide)
  have F_repeated_b_7__7 : Fld Z h_7 b_7 "com/example/rolling_rung/rollingrung/schema/Field" "repeated" "Z" (.int (0 : Int32)) := D_7 (Or.inr (ow hw 69 rfl)) (ty := .boolean) (by decide)
  have F_state_b_7__7 : Fld Z h_7 b_7 "com/example/rolling_rung/rollingrung/schema/Field" "state" "Lcom/example/rolling_rung/rollingrung/schema/ElementState;" .null := D_7 (Or.inr (ow hw 71 rfl)) (ty := (.object "com/example/rolling_rung/rollingrung/schema/ElementState")) (by decide)
  obtain ⟨_, _, ⟨T_8, L_8, k_8, n_8⟩, -, Xc_8, hSc_8, hgr_8, ⟨Lc_8, hQ_8, l_8, y_8, z_8, CHc_8⟩, st_8⟩ := callSS X_7 hx (y := MN9) hown_6 (mvT hZ_6 (ow hw 6 rfl)) (mvT hZ_6 (ow hw 7 rfl)) (mvT hZ_6 (ow hw 8 rfl)) (mvT hZ_6 (ow hw 9 rfl)) (by decide) (backOfSH (W := 2) (rm_mk0 l Z a0 hw [] cb0 cb1 h_7 n0 Z_7 ) hZ_6 (ow hw 9 rfl) (ow hw 8 rfl) (by decide) (by decide) (own_EW hw) CR_7.1) (g := (mkF mM 326 (lc85 p1 p2 p3 p4 sn cn ta tb qa qb ra rb sa sb nb ca0 ca1 cb0 cb1 b_2) [(.int cb1), (.int cb0), (.int (0 : Int32)), (.ref b_7), (.ref b_7)])) rfl (by rw [hml]; rfl) (argsL := [(.int (0 : Int32)), (.int cb0), (.int cb1)]) (rest := [(.ref b_7), (.ref b_7)]) (lenOf pd_9 rfl) rfl (by show 2 * 0 + _ ≤ _; exact Nat.le_of_eq rfl) (hb hby at_326) (fun _ _ => ⟨rfl, e_7, (by decide : 11 + 6 ≤ _), (by decide : 84 + 12 ≤ _)⟩)
  dsimp only [Pt.U, Pt.locs, Pt.cells, Pt.slots] at Xc_8 hSc_8 hgr_8 l_8 y_8 z_8 st_8 hQ_8 CHc_8
  subst l_8 y_8 z_8
  obtain ⟨X_8, hS_8, hZ_8, hown_8⟩ := rebS hS_6 (show _ ≤ T_7.heap.size by rw [e_7]; exact hk_7) Xc_8 hSc_8 hgr_8 hZ_6 hown_6
  obtain ⟨g__8, ⟨d__8, ⟨kd__8, ⟨rfl, N_8q, Kc_8, pfsz_g_8, pfE_g_8, pfF_value_g_8, pfF_coder_g_8, pfV_d_8⟩⟩⟩⟩ := hQ_8
  have Z_8 : n0 ≤ T_8.heap.size := (Nat.le_trans Z_7 Kc_8.1)
  have K_8 : Keep h0 T_8.heap [] := K_7.trans Kc_8 all0
  have Ca_8 := CHc_8
  have CR_8 := CR_7.trans Ca_8
  have hk_8 : _ ≤ T_8.heap.size := Nat.le_refl _
  have sz_g__8 : h0.size ≤ g__8 := Nat.le_trans K_7.1 pfsz_g_8
  have g_g__8 : n0 ≤ g__8 := Nat.le_trans Z_7 pfsz_g_8
  have N_8 := Fr.app N_6 N_8q
  have St_6_3 := (own_sta_keep ((own_sta_keep St_3_3 Kc_6 (allS (own_exa_ns (A_2.keep Kc_3)) all0)).ext E_7) Kc_8 all0)
  have St_6_4 := (own_sta_keep ((own_sta_keep St_3_4 Kc_6 (allS (own_exa_ns (A_2.keep Kc_3)) all0)).ext E_7) Kc_8 all0)
  have St_6_5 := (own_sta_keep ((own_sta_keep St_3_5 Kc_6 (allS (own_exa_ns (A_2.keep Kc_3)) all0)).ext E_7) Kc_8 all0)
  have St_6_6 := (own_sta_keep ((own_sta_keep St_3_6 Kc_6 (allS (own_exa_ns (A_2.keep Kc_3)) all0)).ext E_7) Kc_8 all0)
  have St_6_7 := (own_sta_keep ((own_sta_keep St_3_7 Kc_6 (allS (own_exa_ns (A_2.keep Kc_3)) all0)).ext E_7) Kc_8 all0)
  have St_6_8 := (own_sta_keep ((own_sta_keep St_3_8 Kc_6 (allS (own_exa_ns (A_2.keep Kc_3)) all0)).ext E_7) Kc_8 all0)
  have St_6_9 := (own_sta_keep ((own_sta_keep St_3_9 Kc_6 (allS (own_exa_ns (A_2.keep Kc_3)) all0)).ext E_7) Kc_8 all0)
  have St_6_10 := (own_sta_keep ((own_sta_keep St_3_10 Kc_6 (allS (own_exa_ns (A_2.keep Kc_3)) all0)).ext E_7) Kc_8 all0)
  have St_6_11 := (own_sta_keep ((own_sta_keep St_3_11 Kc_6 (allS (own_exa_ns (A_2.keep Kc_3)) all0)).ext E_7) Kc_8 all0)
  obtain ⟨_, _, ⟨T_9, L_9, k_9, n_9⟩, -, X_9, ⟨Lc_9, hQ_9, l_9, y_9, z_9⟩, st_9⟩ := Jvm.LawKit.callS X_8 hx (y := MN10) hown_8 (mvT hZ_8 (ow hw 32 rfl)) (mvT hZ_8 (ow hw 33 rfl)) (mvT hZ_8 (ow hw 8 rfl)) (mvT hZ_8 (ow hw 34 rfl)) (by decide) (backOf (W := 4) (rm_typ l Z a0 hw [] tb t0 t1 t2 t3 t4 t5 t6 t7 t8 T_8.heap n0 Z_8 St_6_3 St_6_4 St_6_5 St_6_6 St_6_7 St_6_8 St_6_9 St_6_10 St_6_11) hZ_8 (ow hw 34 rfl) (ow hw 8 rfl) (by decide) (by decide)) (g := (mkF mM 333 (lc85 p1 p2 p3 p4 sn cn ta tb qa qb ra rb sa sb nb ca0 ca1 cb0 cb1 b_2) [(.int tb), (.int nb), (.ref g__8), (.ref b_7), (.ref b_7)])) rfl (by rw [hml]; rfl) (argsL := [(.int tb)]) (rest := [(.int nb), (.ref g__8), (.ref b_7), (.ref b_7)]) (lenOf pd_10 rfl) rfl (by show 2 * 0 + _ ≤ _; exact Nat.le_of_eq rfl) (hb hby at_333) (fun _ _ => ⟨rfl, rfl, (by decide : 17 + 0 ≤ _), (by decide : 96 + 0 ≤ _)⟩)
  dsimp only [Pt.U, Pt.locs, Pt.cells, Pt.slots] at X_9 l_9 y_9 z_9 st_9 hQ_9
  subst l_9 y_9 z_9
  obtain ⟨rfl, N_9q, eh_9⟩ := hQ_9
  have N_9 := Fr.app N_8 N_9q
  have St_6_12 := (own_sta_keep ((own_sta_keep St_3_12 Kc_6 (allS (own_exa_ns (A_2.keep Kc_3)) all0)).ext E_7) Kc_8 all0)
  have St_6_13 := (own_sta_keep ((own_sta_keep St_3_13 Kc_6 (allS (own_exa_ns (A_2.keep Kc_3)) all0)).ext E_7) Kc_8 all0)
  have St_6_14 := (own_sta_keep ((own_sta_keep St_3_14 Kc_6 (allS (own_exa_ns (A_2.keep Kc_3)) all0)).ext E_7) Kc_8 all0)
  have St_6_15 := (own_sta_keep ((own_sta_keep St_3_15 Kc_6 (allS (own_exa_ns (A_2.keep Kc_3)) all0)).ext E_7) Kc_8 all0)
  obtain ⟨_, _, ⟨T_10, L_10, k_10, n_10⟩, -, X_10, ⟨Lc_10, hQ_10, l_10, y_10, z_10⟩, st_10⟩ := Jvm.LawKit.callS X_9 hx (y := MN11) hown_8 (mvT hZ_8 (ow hw 38 rfl)) (mvT hZ_8 (ow hw 39 rfl)) (mvT hZ_8 (ow hw 8 rfl)) (mvT hZ_8 (ow hw 40 rfl)) (by decide) (backOf (W := 7) (rm_sta l Z a0 hw [] sb es0 es1 es2 es3 T_8.heap n0 Z_8 St_6_12 St_6_13 St_6_14 St_6_15) hZ_8 (ow hw 40 rfl) (ow hw 8 rfl) (by decide) (by decide)) (g := (mkF mM 342 (lc85 p1 p2 p3 p4 sn cn ta tb qa qb ra rb sa sb nb ca0 ca1 cb0 cb1 b_2) [(.int sb), (.int rb), (.int qb), (.ref (own_ty tb t0 t1 t2 t3 t4 t5 t6 t7 t8)), (.int nb), (.ref g__8), (.ref b_7), (.ref b_7)])) rfl (by rw [hml]; rfl) (argsL := [(.int sb)]) (rest := [(.int rb), (.int qb), (.ref (own_ty tb t0 t1 t2 t3 t4 t5 t6 t7 t8)), (.int nb), (.ref g__8), (.ref b_7), (.ref b_7)]) (lenOf pd_11 rfl) rfl (by show 2 * 0 + _ ≤ _; exact Nat.le_of_eq rfl) (hb hby at_342) (fun _ _ => ⟨rfl, eh_9, (by decide : 17 + 0 ≤ _), (by decide : 96 + 0 ≤ _)⟩)
  dsimp only [Pt.U, Pt.locs, Pt.cells, Pt.slots] at X_10 l_10 y_10 z_10 st_10 hQ_10
  subst l_10 y_10 z_10
  obtain ⟨rfl, N_10q, eh_10⟩ := hQ_10
  have N_10 := Fr.app N_9 N_10q
  obtain ⟨_, _, ⟨T_11, L_11, k_11, n_11⟩, -, Xc_11, hSc_11, hgr_11, ⟨Lc_11, hQ_11, l_11, y_11, z_11, CHc_11⟩, st_11⟩ := X_10.specialBackS hx (y := MN12) rfl hown_8 (mvT hZ_8 (ow hw 44 rfl)) (mvT hZ_8 (ow hw 45 rfl)) (mvT hZ_8 (ow hw 46 rfl)) (by decide) (backOfSH (W := 1) (rm_fini l Z a0 hw [] b_7 g__8 nb (own_ty tb t0 t1 t2 t3 t4 t5 t6 t7 t8) qb rb (own_st sb es0 es1 es2 es3) T_8.heap n0 Z_8 (F_name_b_7__7.keep Kc_8 nin0) (F_number_b_7__7.keep Kc_8 nin0) (F_type_b_7__7.keep Kc_8 nin0) (F_required_b_7__7.keep Kc_8 nin0) (F_repeated_b_7__7.keep Kc_8 nin0) (F_state_b_7__7.keep Kc_8 nin0) (A_7.keep Kc_8) g_b_7) hZ_8 (ow hw 46 rfl) (ow hw 5 rfl) (by decide) (by decide) (own_EW hw) CR_8.1) (g := (mkF mM 345 (lc85 p1 p2 p3 p4 sn cn ta tb qa qb ra rb sa sb nb ca0 ca1 cb0 cb1 b_2) [(.ref (own_st sb es0 es1 es2 es3)), (.int rb), (.int qb), (.ref (own_ty tb t0 t1 t2 t3 t4 t5 t6 t7 t8)), (.int nb), (.ref g__8), (.ref b_7), (.ref b_7)])) rfl (by rw [hml]; rfl) (Steps.refl _) (a := b_7) (argsL := [(.ref g__8), (.int nb), (.ref (own_ty tb t0 t1 t2 t3 t4 t5 t6 t7 t8)), (.int qb), (.int rb), (.ref (own_st sb es0 es1 es2 es3))]) (rest := [(.ref b_7)]) (lenOf pd_12 rfl) rfl (by show 2 * 0 + _ ≤ _; exact Nat.le_of_eq rfl) (hb hby at_345) (fun _ _ => ⟨rfl, eh_10, (by decide : 17 + 6 ≤ _), (by decide : 96 + 64 ≤ _)⟩)
  dsimp only [Pt.U, Pt.locs, Pt.cells, Pt.slots] at Xc_11 hSc_11 hgr_11 l_11 y_11 z_11 st_11 hQ_11 CHc_11
  subst l_11 y_11 z_11
  obtain ⟨X_11, hS_11, hZ_11, hown_11⟩ := rebS hS_8 (show _ ≤ T_10.heap.size by rw [eh_10]; exact hk_8) Xc_11 hSc_11 hgr_11 hZ_8 hown_8
  obtain ⟨rfl, N_11q, Kc_11, pfF_name_a_11, pfF_number_a_11, pfF_type_a_11, pfF_required_a_11, pfF_repeated_a_11, pfF_state_a_11, pfE_a_11⟩ := hQ_11
  have Z_11 : n0 ≤ T_11.heap.size := (Nat.le_trans Z_8 Kc_11.1)
  have K_11 : Keep h0 T_11.heap [] := K_8.trans Kc_11 (allS (Or.inr sz_b_7) all0)
  have Ca_11 := CHc_11
  have CR_11 := CR_8.trans Ca_11
  have hk_11 : _ ≤ T_11.heap.size := Nat.le_refl _
  have N_11 := Fr.app N_10 N_11q
  have St_7_1 := (own_sta_keep (own_sta_keep ((own_sta_keep (own_sta_keep St_2_1 Kc_3 all0) Kc_6 (allS (own_exa_ns (A_2.keep Kc_3)) all0)).ext E_7) Kc_8 all0) Kc_11 (allS (own_exa_ns (A_7.keep Kc_8)) all0))
  obtain ⟨cq_12, kq_12, q_12a, q_12b, q_12c⟩ := isOf hZ_11 rfl (((pfE_a_6.ext E_7).keep Kc_8).keep Kc_11)
  obtain ⟨_, _, ⟨T_12, L_12, k_12, n_12⟩, -, X_12, ⟨Lc_12, hQ_12, l_12, y_12, z_12⟩, st_12⟩ := X_11.virtualBack hx (y := MN13) (z := MN13) hown_11 (mvT hZ_11 (ow hw 76 rfl)) (mvT hZ_11 (ow hw 77 rfl)) (notFace_of_selects (args := #[]) (mvT hZ_11 (ow hw 79 rfl))) (mvT hZ_11 (ow hw 79 rfl)) (mvT hZ_11 (ow hw 78 rfl)) (by decide) (backOf (W := 0) (rm_sd l Z a0 hw [] b_2 b_7 g__3 g__8 p1 (own_ty ta t0 t1 t2 t3 t4 t5 t6 t7 t8) (nar .boolean qa) (nar .boolean ra) nb (own_ty tb t0 t1 t2 t3 t4 t5 t6 t7 t8) (nar .boolean qb) (nar .boolean rb) d__3 d__8 (0 : Int32) cs T_11.heap n0 Z_11 (((pfF_name_a_6.ext E_7).keep Kc_8 nin0).keep Kc_11 (ninS (Nat.ne_of_lt (Nat.lt_of_lt_of_le pfE_a_6.lt (Nat.le_of_eq g_7.symm))) nin0)) (((pfF_number_a_6.ext E_7).keep Kc_8 nin0).keep Kc_11 (ninS (Nat.ne_of_lt (Nat.lt_of_lt_of_le pfE_a_6.lt (Nat.le_of_eq g_7.symm))) nin0)) (((pfF_type_a_6.ext E_7).keep Kc_8 nin0).keep Kc_11 (ninS (Nat.ne_of_lt (Nat.lt_of_lt_of_le pfE_a_6.lt (Nat.le_of_eq g_7.symm))) nin0)) (((pfF_required_a_6.ext E_7).keep Kc_8 nin0).keep Kc_11 (ninS (Nat.ne_of_lt (Nat.lt_of_lt_of_le pfE_a_6.lt (Nat.le_of_eq g_7.symm))) nin0)) (((pfF_repeated_a_6.ext E_7).keep Kc_8 nin0).keep Kc_11 (ninS (Nat.ne_of_lt (Nat.lt_of_lt_of_le pfE_a_6.lt (Nat.le_of_eq g_7.symm))) nin0)) pfF_name_a_11 pfF_number_a_11 pfF_type_a_11 pfF_required_a_11 pfF_repeated_a_11 ((((pfF_value_g_3.keep Kc_6 (ninS (Ne.symm (Nat.ne_of_lt (Nat.lt_of_lt_of_le A_2.lt pfsz_g_3))) nin0)).ext E_7).keep Kc_8 nin0).keep Kc_11 (ninS (Nat.ne_of_lt (Nat.lt_of_lt_of_le (pfE_g_3.keep Kc_6).lt (Nat.le_of_eq g_7.symm))) nin0)) ((((pfF_coder_g_3.keep Kc_6 (ninS (Ne.symm (Nat.ne_of_lt (Nat.lt_of_lt_of_le A_2.lt pfsz_g_3))) nin0)).ext E_7).keep Kc_8 nin0).keep Kc_11 (ninS (Nat.ne_of_lt (Nat.lt_of_lt_of_le (pfE_g_3.keep Kc_6).lt (Nat.le_of_eq g_7.symm))) nin0)) ((((pfE_g_3.keep Kc_6).ext E_7).keep Kc_8).keep Kc_11) (pfF_value_g_8.keep Kc_11 (ninS (Ne.symm (Nat.ne_of_lt (Nat.lt_of_lt_of_le A_7.lt pfsz_g_8))) nin0)) (pfF_coder_g_8.keep Kc_11 (ninS (Ne.symm (Nat.ne_of_lt (Nat.lt_of_lt_of_le A_7.lt pfsz_g_8))) nin0)) (pfE_g_8.keep Kc_11) St_7_1 hcs (rm_leq20 l Z a0 hw [] d__3 kd__3 d__8 kd__8 (nar .byte ((nar .char ca0).toInt8.toInt32)) (nar .byte ((nar .char ca1).toInt8.toInt32)) T_11.heap n0 Z_11 ((((pfV_d_3.keep Kc_6 (ninS (Ne.symm (Nat.ne_of_lt (Nat.lt_of_lt_of_le A_2.lt pfsz_d_3))) nin0)).ext E_7).keep Kc_8 nin0).keep Kc_11 (ninS (Nat.ne_of_lt (Nat.lt_of_lt_of_le (pfV_d_3.keep Kc_6 (ninS (Ne.symm (Nat.ne_of_lt (Nat.lt_of_lt_of_le A_2.lt pfsz_d_3))) nin0)).lt (Nat.le_of_eq g_7.symm))) nin0)) (pfV_d_8.keep Kc_11 (ninS (Ne.symm (Exa.neArv (A_7.keep Kc_8) pfV_d_8 (ow hw 4 rfl))) nin0))) (Nat.ne_of_lt (Nat.lt_of_lt_of_le ((pfE_g_3.keep Kc_6).ext E_7).lt pfsz_g_8))) hZ_11 (ow hw 80 rfl) (ow hw 5 rfl) (by decide) (by decide)) q_12a q_12c (g := (mkF mM 433 (lc88 p1 p2 p3 p4 sn cn ta tb qa qb ra rb sa sb nb ca0 ca1 cb0 cb1 b_2 b_7) [(.ref b_7), (.ref b_2)])) rfl (by rw [hml]; rfl) (Steps.refl _) (argsL := [(.ref b_7)]) (rest := []) (lenOf pd_13 rfl) rfl (by show 2 * 0 + _ ≤ _; exact Nat.le_of_eq rfl) (hb hby at_433) (fun _ _ => ⟨rfl, rfl, (by decide : 23 + 0 ≤ _), (by decide : 160 + 0 ≤ _)⟩)
  dsimp only [Pt.U, Pt.locs, Pt.cells, Pt.slots] at X_12 l_12 y_12 z_12 st_12 hQ_12
  subst l_12 y_12 z_12
  obtain ⟨rfl, N_12q, eh_12⟩ := hQ_12
  have N_12 := Fr.app N_11 N_12q
  obtain ⟨fs, hr, hrun, hended, hRE⟩ := X_12.leaveW hS_11 (show _ ≤ T_12.heap.size by rw [eh_12]; exact hk_11) (v := some (.int (1 : Int32))) (fun h => by rw [Bd.returns] at h; cases h)
  refine ⟨_, _, pre0 _ ?_, hrun, hended, _, _, rfl, ?_, ⟨_, rfl⟩, hRE.2.1, hRE.2.2.1, hRE.2.2.2.mono (by decide) (by decide)⟩
  · show oS pP eE below s₁ (mkF mM 0 (lc36 p1 p2 p3 p4) []) _
    refine st_1 _ ?_
    show oS pP eE below T_1 (mkF mM 283 (lc84 p1 p2 p3 p4 sn cn ta tb qa qb ra rb sa sb nb ca0 ca1 cb0 cb1) []) _
    refine st_2 _ ?_
    show oS pP eE below T_2 (mkF mM 286 (lc84 p1 p2 p3 p4 sn cn ta tb qa qb ra rb sa sb nb ca0 ca1 cb0 cb1) [(.ref b_2)]) _
    refine XS.dup X_2.here hx rfl (hb hby at_286) rfl rfl ?_
    refine XS.iload X_2.here hx rfl (hb hby at_287) rfl ?_
    refine XS.iload X_2.here hx rfl (hb hby at_289) rfl ?_
    refine XS.iload X_2.here hx rfl (hb hby at_291) rfl ?_
    show oS pP eE below T_2 (mkF mM 293 (lc84 p1 p2 p3 p4 sn cn ta tb qa qb ra rb sa sb nb ca0 ca1 cb0 cb1) [(.int ca1), (.int ca0), (.int (2 : Int32)), (.ref b_2), (.ref b_2)]) _
    refine st_3.trans ?_
    show oS pP eE below T_3 (mkF mM 296 (lc84 p1 p2 p3 p4 sn cn ta tb qa qb ra rb sa sb nb ca0 ca1 cb0 cb1) [(.ref g__3), (.ref b_2), (.ref b_2)]) _
    refine XS.iloadN X_3.here hx rfl (hb hby at_296) rfl ?_
    refine XS.iload X_3.here hx rfl (hb hby at_297) rfl ?_
    show oS pP eE below T_3 (mkF mM 299 (lc84 p1 p2 p3 p4 sn cn ta tb qa qb ra rb sa sb nb ca0 ca1 cb0 cb1) [(.int ta), (.int p1), (.ref g__3), (.ref b_2), (.ref b_2)]) _
    refine st_4 _ ?_
    show oS pP eE below T_4 (mkF mM 302 (lc84 p1 p2 p3 p4 sn cn ta tb qa qb ra rb sa sb nb ca0 ca1 cb0 cb1) [(.ref (own_ty ta t0 t1 t2 t3 t4 t5 t6 t7 t8)), (.int p1), (.ref g__3), (.ref b_2), (.ref b_2)]) _
    refine XS.iload X_4.here hx rfl (hb hby at_302) rfl ?_
    refine XS.iload X_4.here hx rfl (hb hby at_304) rfl ?_
    refine XS.iload X_4.here hx rfl (hb hby at_306) rfl ?_
    show oS pP eE below T_4 (mkF mM 308 (lc84 p1 p2 p3 p4 sn cn ta tb qa qb ra rb sa sb nb ca0 ca1 cb0 cb1) [(.int sa), (.int ra), (.int qa), (.ref (own_ty ta t0 t1 t2 t3 t4 t5 t6 t7 t8)), (.int p1), (.ref g__3), (.ref b_2), (.ref b_2)]) _
    refine st_5 _ ?_
    show oS pP eE below T_5 (mkF mM 311 (lc84 p1 p2 p3 p4 sn cn ta tb qa qb ra rb sa sb nb ca0 ca1 cb0 cb1) [(.ref (own_st sa es0 es1 es2 es3)), (.int ra), (.int qa), (.ref (own_ty ta t0 t1 t2 t3 t4 t5 t6 t7 t8)), (.int p1), (.ref g__3), (.ref b_2), (.ref b_2)]) _
    refine st_6.trans ?_
    show oS pP eE below T_6 (mkF mM 314 (lc84 p1 p2 p3 p4 sn cn ta tb qa qb ra rb sa sb nb ca0 ca1 cb0 cb1) [(.ref b_2)]) _
    refine XS.astore X_6.here hx rfl (hb hby at_314) rfl rfl (l' := (lc85 p1 p2 p3 p4 sn cn ta tb qa qb ra rb sa sb nb ca0 ca1 cb0 cb1 b_2)) rfl ?_
    show oS pP eE below T_6 (mkF mM 316 (lc85 p1 p2 p3 p4 sn cn ta tb qa qb ra rb sa sb nb ca0 ca1 cb0 cb1 b_2) []) _
    refine st_7 _ ?_
    show oS pP eE below T_7 (mkF mM 319 (lc85 p1 p2 p3 p4 sn cn ta tb qa qb ra rb sa sb nb ca0 ca1 cb0 cb1 b_2) [(.ref b_7)]) _
    refine XS.dup X_7.here hx rfl (hb hby at_319) rfl rfl ?_
    refine XS.iload X_7.here hx rfl (hb hby at_320) rfl ?_
    refine XS.iload X_7.here hx rfl (hb hby at_322) rfl ?_
    refine XS.iload X_7.here hx rfl (hb hby at_324) rfl ?_
    show oS pP eE below T_7 (mkF mM 326 (lc85 p1 p2 p3 p4 sn cn ta tb qa qb ra rb sa sb nb ca0 ca1 cb0 cb1 b_2) [(.int cb1), (.int cb0), (.int (0 : Int32)), (.ref b_7), (.ref b_7)]) _
    refine st_8.trans ?_
    show oS pP eE below T_8 (mkF mM 329 (lc85 p1 p2 p3 p4 sn cn ta tb qa qb ra rb sa sb nb ca0 ca1 cb0 cb1 b_2) [(.ref g__8), (.ref b_7), (.ref b_7)]) _
    refine XS.iload X_8.here hx rfl (hb hby at_329) rfl ?_
    refine XS.iload X_8.here hx rfl (hb hby at_331) rfl ?_
    show oS pP eE below T_8 (mkF mM 333 (lc85 p1 p2 p3 p4 sn cn ta tb qa qb ra rb sa sb nb ca0 ca1 cb0 cb1 b_2) [(.int tb), (.int nb), (.ref g__8), (.ref b_7), (.ref b_7)]) _
    refine st_9 _ ?_
    show oS pP eE below T_9 (mkF mM 336 (lc85 p1 p2 p3 p4 sn cn ta tb qa qb ra rb sa sb nb ca0 ca1 cb0 cb1 b_2) [(.ref (own_ty tb t0 t1 t2 t3 t4 t5 t6 t7 t8)), (.int nb), (.ref g__8), (.ref b_7), (.ref b_7)]) _
    refine XS.iload X_9.here hx rfl (hb hby at_336) rfl ?_
    refine XS.iload X_9.here hx rfl (hb hby at_338) rfl ?_
    refine XS.iload X_9.here hx rfl (hb hby at_340) rfl ?_
    show oS pP eE below T_9 (mkF mM 342 (lc85 p1 p2 p3 p4 sn cn ta tb qa qb ra rb sa sb nb ca0 ca1 cb0 cb1 b_2) [(.int sb), (.int rb), (.int qb), (.ref (own_ty tb t0 t1 t2 t3 t4 t5 t6 t7 t8)), (.int nb), (.ref g__8), (.ref b_7), (.ref b_7)]) _
    refine st_10 _ ?_
    show oS pP eE below T_10 (mkF mM 345 (lc85 p1 p2 p3 p4 sn cn ta tb qa qb ra rb sa sb nb ca0 ca1 cb0 cb1 b_2) [(.ref (own_st sb es0 es1 es2 es3)), (.int rb), (.int qb), (.ref (own_ty tb t0 t1 t2 t3 t4 t5 t6 t7 t8)), (.int nb), (.ref g__8), (.ref b_7), (.ref b_7)]) _
    refine st_11.trans ?_
    show oS pP eE below T_11 (mkF mM 348 (lc85 p1 p2 p3 p4 sn cn ta tb qa qb ra rb sa sb nb ca0 ca1 cb0 cb1 b_2) [(.ref b_7)]) _
    refine XS.astore X_11.here hx rfl (hb hby at_348) rfl rfl (l' := (lc86 p1 p2 p3 p4 sn cn ta tb qa qb ra rb sa sb nb ca0 ca1 cb0 cb1 b_2 b_7)) rfl ?_
    refine XS.iload X_11.here hx rfl (hb hby at_350) rfl ?_
    refine XS.iload X_11.here hx rfl (hb hby at_352) rfl ?_
    refine XS.icmpYes X_11.here hx rfl (pc0 := 354) (pc' := 387) rfl (hb hby at_354) rfl (by decide) (by decide) (by decide) ?_
    refine XS.iconst X_11.here hx rfl (hb hby at_387) ?_
    refine XS.istore X_11.here hx rfl (hb hby at_388) rfl (l' := (lc87 p1 p2 p3 p4 sn cn ta tb qa qb ra rb sa sb nb ca0 ca1 cb0 cb1 b_2 b_7)) rfl ?_
    refine XS.iload X_11.here hx rfl (hb hby at_390) rfl ?_
    refine XS.ifYes X_11.here hx rfl (pc0 := 392) (pc' := 426) rfl (hb hby at_392) rfl (by decide) (by decide) (by decide) ?_
    refine XS.iconst X_11.here hx rfl (hb hby at_426) ?_
    refine XS.istore X_11.here hx rfl (hb hby at_427) rfl (l' := (lc88 p1 p2 p3 p4 sn cn ta tb qa qb ra rb sa sb nb ca0 ca1 cb0 cb1 b_2 b_7)) rfl ?_
    refine XS.aload X_11.here hx rfl (hb hby at_429) rfl rfl ?_
    refine XS.aload X_11.here hx rfl (hb hby at_431) rfl rfl ?_
    show oS pP eE below T_11 (mkF mM 433 (lc88 p1 p2 p3 p4 sn cn ta tb qa qb ra rb sa sb nb ca0 ca1 cb0 cb1 b_2 b_7) [(.ref b_7), (.ref b_2)]) _
    refine st_12.trans ?_
    show oS pP eE below T_12 (mkF mM 436 (lc88 p1 p2 p3 p4 sn cn ta tb qa qb ra rb sa sb nb ca0 ca1 cb0 cb1 b_2 b_7) [(.int (own_sd (own_nz (0 : Int32)) p1 nb (own_ty ta t0 t1 t2 t3 t4 t5 t6 t7 t8) (own_ty tb t0 t1 t2 t3 t4 t5 t6 t7 t8) (nar .boolean qa) (nar .boolean qb) (nar .boolean ra) (nar .boolean rb)))]) _
    refine XS.iload X_12.here hx rfl (hb hby at_436) rfl ?_
    refine XS.icmpNo X_12.here hx rfl (hb hby at_438) rfl (XT.ii_ne_f hfin) ?_
    refine XS.iconst X_12.here hx rfl (hb hby at_441) ?_
    refine XS.goto X_12.here hx rfl (pc0 := 442) (pc' := 446) rfl (hb hby at_442) (by decide) (by decide) ?_
    show oS pP eE below T_12 (mkF mM 446 (lc88 p1 p2 p3 p4 sn cn ta tb qa qb ra rb sa sb nb ca0 ca1 cb0 cb1 b_2 b_7) [(.int (1 : Int32))]) _
    exact retN X_12 hx (t := .boolean) Bd.returns (by simp) (hb hby at_446) hr
  · show Q_law20 Z p1 p2 p3 p4 sn cn qa qb ra rb ta sa sb ca0 ca1 tb nb cb0 cb1 t0 t1 t2 t3 t4 t5 t6 t7 t8 es0 es1 es2 es3 cs h0 n0 _ T_12.heap _
    exact ⟨rfl, N_12⟩
abbrev lc89 (p1 : Int32) (p2 : Int32) (p3 : Int64) (p4 : Int64) (sn : Int32) (cn : Int32) (ta : Int32) (tb : Int32) (qa : Int32) (qb : Int32) (ra : Int32) (rb : Int32) (sa : Int32) (sb : Int32) (nb : Int32) (ca0 : Int32) (ca1 : Int32) (cb0 : Int32) (cb1 : Int32) : Array Slot := #[.val (.int p1), .val (.int p2), .val (.long p3), .second, .val (.long p4), .second, .val (.int sn), .val (.int cn), .val (.int ta), .val (.int tb), .val (.int qa), .val (.int qb), .val (.int ra), .val (.int rb), .val (.int sa), .val (.int sb), .val (.int nb), .val (.int ca0), .val (.int ca1), .val (.int cb0), .val (.int cb1), .val (.int (2 : Int32)), .val (.int (1 : Int32)), .unset, .unset, .unset, .unset]
abbrev lc90 (p1 : Int32) (p2 : Int32) (p3 : Int64) (p4 : Int64) (sn : Int32) (cn : Int32) (ta : Int32) (tb : Int32) (qa : Int32) (qb : Int32) (ra : Int32) (rb : Int32) (sa : Int32) (sb : Int32) (nb : Int32) (ca0 : Int32) (ca1 : Int32) (cb0 : Int32) (cb1 : Int32) (b_2 : Addr) : Array Slot := #[.val (.int p1), .val (.int p2), .val (.long p3), .second, .val (.long p4), .second, .val (.int sn), .val (.int cn), .val (.int ta), .val (.int tb), .val (.int qa), .val (.int qb), .val (.int ra), .val (.int rb), .val (.int sa), .val (.int sb), .val (.int nb), .val (.int ca0), .val (.int ca1), .val (.int cb0), .val (.int cb1), .val (.int (2 : Int32)), .val (.int (1 : Int32)), .val (.ref b_2), .unset, .unset, .unset]
abbrev lc91 (p1 : Int32) (p2 : Int32) (p3 : Int64) (p4 : Int64) (sn : Int32) (cn : Int32) (ta : Int32) (tb : Int32) (qa : Int32) (qb : Int32) (ra : Int32) (rb : Int32) (sa : Int32) (sb : Int32) (nb : Int32) (ca0 : Int32) (ca1 : Int32) (cb0 : Int32) (cb1 : Int32) (b_2 : Addr) (b_7 : Addr) : Array Slot := #[.val (.int p1), .val (.int p2), .val (.long p3), .second, .val (.long p4), .second, .val (.int sn), .val (.int cn), .val (.int ta), .val (.int tb), .val (.int qa), .val (.int qb), .val (.int ra), .val (.int rb), .val (.int sa), .val (.int sb), .val (.int nb), .val (.int ca0), .val (.int ca1), .val (.int cb0), .val (.int cb1), .val (.int (2 : Int32)), .val (.int (1 : Int32)), .val (.ref b_2), .val (.ref b_7), .unset, .unset]
abbrev lc92 (p1 : Int32) (p2 : Int32) (p3 : Int64) (p4 : Int64) (sn : Int32) (cn : Int32) (ta : Int32) (tb : Int32) (qa : Int32) (qb : Int32) (ra : Int32) (rb : Int32) (sa : Int32) (sb : Int32) (nb : Int32) (ca0 : Int32) (ca1 : Int32) (cb0 : Int32) (cb1 : Int32) (b_2 : Addr) (b_7 : Addr) : Array Slot := #[.val (.int p1), .val (.int p2), .val (.long p3), .second, .val (.long p4), .second, .val (.int sn), .val (.int cn), .val (.int ta), .val (.int tb), .val (.int qa), .val (.int qb), .val (.int ra), .val (.int rb), .val (.int sa), .val (.int sb), .val (.int nb), .val (.int ca0), .val (.int ca1), .val (.int cb0), .val (.int cb1), .val (.int (2 : Int32)), .val (.int (1 : Int32)), .val (.ref b_2), .val (.ref b_7), .val (.int (0 : Int32)), .unset]
abbrev lc93 (p1 : Int32) (p2 : Int32) (p3 : Int64) (p4 : Int64) (sn : Int32) (cn : Int32) (ta : Int32) (tb : Int32) (qa : Int32) (qb : Int32) (ra : Int32) (rb : Int32) (sa : Int32) (sb : Int32) (nb : Int32) (ca0 : Int32) (ca1 : Int32) (cb0 : Int32) (cb1 : Int32) (b_2 : Addr) (b_7 : Addr) : Array Slot := #[.val (.int p1), .val (.int p2), .val (.long p3), .second, .val (.long p4), .second, .val (.int sn), .val (.int cn), .val (.int ta), .val (.int tb), .val (.int qa), .val (.int qb), .val (.int ra), .val (.int rb), .val (.int sa), .val (.int sb), .val (.int nb), .val (.int ca0), .val (.int ca1), .val (.int cb0), .val (.int cb1), .val (.int (2 : Int32)), .val (.int (1 : Int32)), .val (.ref b_2), .val (.ref b_7), .val (.int (0 : Int32)), .val (.int (0 : Int32))]
theorem ef_law21 (mM : MethodId) (x0 : Int32) (x1 : Int32) (x2 : Int64) (x3 : Int64) : entryFrame mM #[(.int x0), (.int x1), (.long x2), (.long x3)] maxLocals = mkF mM 0 #[.val (.int x0), .val (.int x1), .val (.long x2), .second, .val (.long x3), .second, .unset, .unset, .unset, .unset, .unset, .unset, .unset, .unset, .unset, .unset, .unset, .unset, .unset, .unset, .unset, .unset, .unset, .unset, .unset, .unset, .unset] [] := by first | (simp [entryFrame, mkF, argsToLocals, Value.category, maxLocals]; done) | rfl
def Q_law21 (Z : State) (p1 : Int32) (p2 : Int32) (p3 : Int64) (p4 : Int64) (sn : Int32) (cn : Int32) (qa : Int32) (qb : Int32) (ra : Int32) (rb : Int32) (ta : Int32) (sa : Int32) (sb : Int32) (ca0 : Int32) (ca1 : Int32) (tb : Int32) (nb : Int32) (cb0 : Int32) (cb1 : Int32) (t0 : Addr) (t1 : Addr) (t2 : Addr) (t3 : Addr) (t4 : Addr) (t5 : Addr) (t6 : Addr) (t7 : Addr) (t8 : Addr) (es0 : Addr) (es1 : Addr) (es2 : Addr) (es3 : Addr) (cs : Int32) (h0 : Heap) (n0 : Nat) (v_ : Option Value) (h_ : Heap) (L_ : List Loc) : Prop := v_ = some (.int (1 : Int32)) ∧ Fr n0 L_
set_option maxRecDepth 65536 in
set_option maxHeartbeats 40000000 in
theorem rm_law21 (l : Launch) (Z : State) (a0 : Array Value) (hw : ∀ d ∈ tables_1, d.before a0 Z = true) (ws : List Jvm.Cond) (p1 : Int32) (p2 : Int32) (p3 : Int64) (p4 : Int64) (sn : Int32) (cn : Int32) (qa : Int32) (qb : Int32) (ra : Int32) (rb : Int32) (ta : Int32) (sa : Int32) (sb : Int32) (ca0 : Int32) (ca1 : Int32) (tb : Int32) (nb : Int32) (cb0 : Int32) (cb1 : Int32) (t0 : Addr) (t1 : Addr) (t2 : Addr) (t3 : Addr) (t4 : Addr) (t5 : Addr) (t6 : Addr) (t7 : Addr) (t8 : Addr) (es0 : Addr) (es1 : Addr) (es2 : Addr) (es3 : Addr) (cs : Int32) (h0 : Heap) (n0 : Nat) (Z0 : n0 ≤ h0.size) (hEQ : own_eqs p1 p2 p3 p4 sn cn qa qb ra rb ta sa sb ca0 ca1 (2 : Int32) (1 : Int32) tb nb cb0 cb1) (S_String_COMPACT_STRINGS : Sta Z h0 "java/lang/String" "COMPACT_STRINGS" "Z" (.int cs)) (hcs : ¬ cs = 0) (S_FieldType_STRING : Sta Z h0 "com/example/rolling_rung/rollingrung/schema/FieldType" "STRING" "Lcom/example/rolling_rung/rollingrung/schema/FieldType;" (.ref t0)) (S_FieldType_BYTES : Sta Z h0 "com/example/rolling_rung/rollingrung/schema/FieldType" "BYTES" "Lcom/example/rolling_rung/rollingrung/schema/FieldType;" (.ref t1)) (S_FieldType_BOOL : Sta Z h0 "com/example/rolling_rung/rollingrung/schema/FieldType" "BOOL" "Lcom/example/rolling_rung/rollingrung/schema/FieldType;" (.ref t2)) (S_FieldType_INT32 : Sta Z h0 "com/example/rolling_rung/rollingrung/schema/FieldType" "INT32" "Lcom/example/rolling_rung/rollingrung/schema/FieldType;" (.ref t3)) (S_FieldType_INT64 : Sta Z h0 "com/example/rolling_rung/rollingrung/schema/FieldType" "INT64" "Lcom/example/rolling_rung/rollingrung/schema/FieldType;" (.ref t4)) (S_FieldType_SINT32 : Sta Z h0 "com/example/rolling_rung/rollingrung/schema/FieldType" "SINT32" "Lcom/example/rolling_rung/rollingrung/schema/FieldType;" (.ref t5)) (S_FieldType_SINT64 : Sta Z h0 "com/example/rolling_rung/rollingrung/schema/FieldType" "SINT64" "Lcom/example/rolling_rung/rollingrung/schema/FieldType;" (.ref t6)) (S_FieldType_DOUBLE : Sta Z h0 "com/example/rolling_rung/rollingrung/schema/FieldType" "DOUBLE" "Lcom/example/rolling_rung/rollingrung/schema/FieldType;" (.ref t7)) (S_FieldType_FLOAT : Sta Z h0 "com/example/rolling_rung/rollingrung/schema/FieldType" "FLOAT" "Lcom/example/rolling_rung/rollingrung/schema/FieldType;" (.ref t8)) (S_ElementState_ABSENT : Sta Z h0 "com/example/rolling_rung/rollingrung/schema/ElementState" "ABSENT" "Lcom/example/rolling_rung/rollingrung/schema/ElementState;" (.ref es0)) (S_ElementState_DELETE_ONLY : Sta Z h0 "com/example/rolling_rung/rollingrung/schema/ElementState" "DELETE_ONLY" "Lcom/example/rolling_rung/rollingrung/schema/ElementState;" (.ref es1)) (S_ElementState_WRITE_ONLY : Sta Z h0 "com/example/rolling_rung/rollingrung/schema/ElementState" "WRITE_ONLY" "Lcom/example/rolling_rung/rollingrung/schema/ElementState;" (.ref es2)) (S_ElementState_PUBLIC : Sta Z h0 "com/example/rolling_rung/rollingrung/schema/ElementState" "PUBLIC" "Lcom/example/rolling_rung/rollingrung/schema/ElementState;" (.ref es3)) (hq_ca0 : own_ch ca0) (hq_ca1 : own_ch ca1) (hq_cb0 : own_ch cb0) (hq_cb1 : own_ch cb1) (hfin : (own_sd (own_nz (0 : Int32)) p1 nb (own_ty ta t0 t1 t2 t3 t4 t5 t6 t7 t8) (own_ty tb t0 t1 t2 t3 t4 t5 t6 t7 t8) (nar .boolean qa) (nar .boolean qb) (nar .boolean ra) (nar .boolean rb)) = (0 : Int32)) :
    MetFree l x (head1 (Jvm.Cond.code x code maxLocals ret :: ws) room_1) (fun aa_ U_ => aa_ = #[(.int p1), (.int p2), (.long p3), (.long p4)] ∧ Z.Warmed39 U_.vm ∧ U_.heap = h0 ∧ CHv Z own_EL U_.vm h0) (fun _ _ _ _ _ => True) (fun _ U_ o_ U'_ => ∃ v_ L_, o_ = .returned v_ ∧ Q_law21 Z p1 p2 p3 p4 sn cn qa qb ra rb ta sa sb ca0 ca1 tb nb cb0 cb1 t0 t1 t2 t3 t4 t5 t6 t7 t8 es0 es1 es2 es3 cs h0 n0 v_ U'_.heap L_ ∧ ReturnedEndW U_ o_ U'_ L_ 20 154) := by
  refine MetFree.of_bodySF (plainFor_of_name pn_1) hisR ?_
  intro pP eE sS mM argsA below meth cC s₁ Bd hml0 hP hK
  obtain ⟨rfl, hZ, hh, hCH⟩ := hP
  have hx := Bd.exec
  have hby := Bd.bytes
  have hml : cC.maxLocals = 27 := hml0
  have hown : sS.vm.findClass "com/example/rolling_rung/rollingrung/schema/FieldSameDefinitionPinLaw" = some mM.cls := findClass_of_methodNamed Bd.named
  have hnm := (name_of_methodNamed Bd.named Bd.method).1
  have X0 : Stand pP l eE room_1 (sS.setVm sS.vm) mM #[(.int p1), (.int p2), (.long p3), (.long p4)] below meth cC s₁ [] 0 0 := Stand.of_body Bd
  have e0 : s₁.heap = h0 := by rw [← hh, Bd.state]; rfl
  have N0 := Fr.nil n0
  have pre0 : ∀ t_, Steps pP.tables eE below (s₁.setTop (mkF mM 0 #[.val (.int p1), .val (.int p2), .val (.long p3), .second, .val (.long p4), .second, .unset, .unset, .unset, .unset, .unset, .unset, .unset, .unset, .unset, .unset, .unset, .unset, .unset, .unset, .unset, .unset, .unset, .unset, .unset, .unset, .unset] [])) t_ → Steps pP.tables eE below (s₁.setTop (entryFrame mM #[(.int p1), (.int p2), (.long p3), (.long p4)] maxLocals)) t_ := fun t_ k_ => castTop (ef_law21 mM p1 p2 p3 p4) k_
  have hZ : Z.Warmed39 (sS.setVm sS.vm).vm := hZ
  have hown : (sS.setVm sS.vm).vm.findClass "com/example/rolling_rung/rollingrung/schema/FieldSameDefinitionPinLaw" = some mM.cls := hown
  have hS0 : sS.Since sS.vm 0 := (State.WarmedH.refl sS).since 0
  have hk0 : 0 ≤ h0.size := Nat.zero_le _
  have CR0 := CHr.refl hCH
  obtain ⟨T_1, h_1, L_1, X_1, e_1, N_1, Kc_1, st_1⟩ := pc_pre p1 p2 p3 p4 sn cn qa qb ra rb ta sa sb ca0 ca1 (2 : Int32) (1 : Int32) tb nb cb0 cb1 X0 hx hZ hw hby hml hown e0 N0 Z0 hEQ
  have Z_1 : n0 ≤ h_1.size := (Nat.le_trans Z0 Kc_1.1)
  have K_1 : Keep h0 h_1 [] := (Keep.refl h0 []).trans Kc_1 all0
  have hk_1 : _ ≤ h_1.size := Nat.le_trans hk0 Kc_1.1
  have Ca_1 := CHr.keep Kc_1 all0 CR0.1
  have CR_1 := CR0.trans Ca_1
  obtain ⟨T_2, h_2, X_2, e_2, E_2, A_2, D_2, -, st_2⟩ := newO X_1 hx hZ hown (ow hw 3 rfl) (ow hw 4 rfl) (ow hw 5 rfl) e_1 (g := (mkF mM 283 (lc89 p1 p2 p3 p4 sn cn ta tb qa qb ra rb sa sb nb ca0 ca1 cb0 cb1) [])) rfl (hb hby at_283) (by decide) (by decide)
  obtain ⟨b_2, g_2⟩ : ∃ z, z = h_1.size := ⟨_, rfl⟩
  rw [← g_2] at A_2 D_2 st_2
  have g_b_2 : n0 ≤ b_2 := Nat.le_trans Z_1 (Nat.le_of_eq g_2.symm)
  have sz_b_2 : h0.size ≤ b_2 := Nat.le_trans K_1.1 (Nat.le_of_eq g_2.symm)
  have Z_2 : n0 ≤ h_2.size := (Nat.le_trans Z_1 E_2.1)
  have K_2 : Keep h0 h_2 [] := K_1.ext E_2
  have hk_2 : _ ≤ h_2.size := Nat.le_trans hk_1 E_2.1
  have Ca_2 := CHr.ext E_2 CR_1.1
  have CR_2 := CR_1.trans Ca_2
  have F_name_b_2__2 : Fld Z h_2 b_2 "com/example/rolling_rung/rollingrung/schema/Field" "name" "Ljava/lang/String;" .null := D_2 (Or.inr (ow hw 61 rfl)) (ty := (.object "java/lang/String")) (by decide)
  have F_number_b_2__2 : Fld Z h_2 b_2 "com/example/rolling_rung/rollingrung/schema/Field" "number" "I" (.int (0 : Int32)) := D_2 (Or.inr (ow hw 63 rfl)) (ty := .int) (by decide)
  have F_type_b_2__2 : Fld Z h_2 b_2 "com/example/rolling_rung/rollingrung/schema/Field" "type" "Lcom/example/rolling_rung/rollingrung/schema/FieldType;" .null := D_2 (Or.inr (ow hw 65 rfl)) (ty := (.object "com/example/rolling_rung/rollingrung/schema/FieldType")) (by decide)
  have F_required_b_2__2 : Fld Z h_2 b_2 "com/example/rolling_rung/rollingrung/schema/Field" "required" "Z" (.int (0 : Int32)) := D_2 (Or.inr (ow hw 67 rfl)) (ty := .boolean) (by decide)
  have F_repeated_b_2__2 : Fld Z h_2 b_2 "com/example/rolling_rung/rollingrung/schema/Field" "repeated" "Z" (.int (0 : Int32)) := D_2 (Or.inr (ow hw 69 rfl)) (ty := .boolean) (by decide)
  have F_state_b_2__2 : Fld Z h_2 b_2 "com/example/rolling_rung/rollingrung/schema/Field" "state" "Lcom/example/rolling_rung/rollingrung/schema/ElementState;" .null := D_2 (Or.inr (ow hw 71 rfl)) (ty := (.object "com/example/rolling_rung/rollingrung/schema/ElementState")) (by decide)
  have St_2_1 := ((own_sta_keep S_String_COMPACT_STRINGS Kc_1 all0).ext E_2)
  obtain ⟨_, _, ⟨T_3, L_3, k_3, n_3⟩, -, Xc_3, hSc_3, hgr_3, ⟨Lc_3, hQ_3, l_3, y_3, z_3, CHc_3⟩, st_3⟩ := callSS X_2 hx (y := MN9) hown (mvT hZ (ow hw 6 rfl)) (mvT hZ (ow hw 7 rfl)) (mvT hZ (ow hw 8 rfl)) (mvT hZ (ow hw 9 rfl)) (by decide) (backOfSH (W := 2) (rm_mk2 l Z a0 hw [] cs ca0 ca1 h_2 n0 Z_2 St_2_1 hcs hq_ca0 hq_ca1) hZ (ow hw 9 rfl) (ow hw 8 rfl) (by decide) (by decide) (own_EW hw) CR_2.1) (g := (mkF mM 293 (lc89 p1 p2 p3 p4 sn cn ta tb qa qb ra rb sa sb nb ca0 ca1 cb0 cb1) [(.int ca1), (.int ca0), (.int (2 : Int32)), (.ref b_2), (.ref b_2)])) rfl (by rw [hml]; rfl) (argsL := [(.int (2 : Int32)), (.int ca0), (.int ca1)]) (rest := [(.ref b_2), (.ref b_2)]) (lenOf pd_9 rfl) rfl (by show 2 * 0 + _ ≤ _; exact Nat.le_of_eq rfl) (hb hby at_293) (fun _ _ => ⟨rfl, e_2, (by decide : 1 + 3 ≤ _), (by decide : 6 + 8 ≤ _)⟩)
  dsimp only [Pt.U, Pt.locs, Pt.cells, Pt.slots] at Xc_3 hSc_3 hgr_3 l_3 y_3 z_3 st_3 hQ_3 CHc_3
  subst l_3 y_3 z_3
  obtain ⟨X_3, hS_3, hZ_3, hown_3⟩ := rebS hS0 (show _ ≤ T_2.heap.size by rw [e_2]; exact hk_2) Xc_3 hSc_3 hgr_3 hZ hown
  obtain ⟨g__3, ⟨d__3, ⟨kd__3, ⟨rfl, N_3q, Kc_3, pfsz_g_3, pfsz_d_3, pfE_g_3, pfF_value_g_3, pfF_coder_g_3, pfV_d_3⟩⟩⟩⟩ := hQ_3
  have Z_3 : n0 ≤ T_3.heap.size := (Nat.le_trans Z_2 Kc_3.1)
  have K_3 : Keep h0 T_3.heap [] := K_2.trans Kc_3 all0
  have Ca_3 := CHc_3
  have CR_3 := CR_2.trans Ca_3
  have hk_3 : _ ≤ T_3.heap.size := Nat.le_refl _
  have sz_g__3 : h0.size ≤ g__3 := Nat.le_trans K_2.1 pfsz_g_3
  have g_g__3 : n0 ≤ g__3 := Nat.le_trans Z_2 pfsz_g_3
  have sz_d__3 : h0.size ≤ d__3 := Nat.le_trans K_2.1 pfsz_d_3
  have g_d__3 : n0 ≤ d__3 := Nat.le_trans Z_2 pfsz_d_3
  have N_3 := Fr.app N_1 N_3q
  have St_3_3 := (own_sta_keep ((own_sta_keep S_FieldType_STRING Kc_1 all0).ext E_2) Kc_3 all0)
  have St_3_4 := (own_sta_keep ((own_sta_keep S_FieldType_BYTES Kc_1 all0).ext E_2) Kc_3 all0)
  have St_3_5 := (own_sta_keep ((own_sta_keep S_FieldType_BOOL Kc_1 all0).ext E_2) Kc_3 all0)
  have St_3_6 := (own_sta_keep ((own_sta_keep S_FieldType_INT32 Kc_1 all0).ext E_2) Kc_3 all0)
  have St_3_7 := (own_sta_keep ((own_sta_keep S_FieldType_INT64 Kc_1 all0).ext E_2) Kc_3 all0)
  have St_3_8 := (own_sta_keep ((own_sta_keep S_FieldType_SINT32 Kc_1 all0).ext E_2) Kc_3 all0)
  have St_3_9 := (own_sta_keep ((own_sta_keep S_FieldType_SINT64 Kc_1 all0).ext E_2) Kc_3 all0)
  have St_3_10 := (own_sta_keep ((own_sta_keep S_FieldType_DOUBLE Kc_1 all0).ext E_2) Kc_3 all0)
  have St_3_11 := (own_sta_keep ((own_sta_keep S_FieldType_FLOAT Kc_1 all0).ext E_2) Kc_3 all0)
  obtain ⟨_, _, ⟨T_4, L_4, k_4, n_4⟩, -, X_4, ⟨Lc_4, hQ_4, l_4, y_4, z_4⟩, st_4⟩ := Jvm.LawKit.callS X_3 hx (y := MN10) hown_3 (mvT hZ_3 (ow hw 32 rfl)) (mvT hZ_3 (ow hw 33 rfl)) (mvT hZ_3 (ow hw 8 rfl)) (mvT hZ_3 (ow hw 34 rfl)) (by decide) (backOf (W := 4) (rm_typ l Z a0 hw [] ta t0 t1 t2 t3 t4 t5 t6 t7 t8 T_3.heap n0 Z_3 St_3_3 St_3_4 St_3_5 St_3_6 St_3_7 St_3_8 St_3_9 St_3_10 St_3_11) hZ_3 (ow hw 34 rfl) (ow hw 8 rfl) (by decide) (by decide)) (g := (mkF mM 299 (lc89 p1 p2 p3 p4 sn cn ta tb qa qb ra rb sa sb nb ca0 ca1 cb0 cb1) [(.int ta), (.int p1), (.ref g__3), (.ref b_2), (.ref b_2)])) rfl (by rw [hml]; rfl) (argsL := [(.int ta)]) (rest := [(.int p1), (.ref g__3), (.ref b_2), (.ref b_2)]) (lenOf pd_10 rfl) rfl (by show 2 * 0 + _ ≤ _; exact Nat.le_of_eq rfl) (hb hby at_299) (fun _ _ => ⟨rfl, rfl, (by decide : 4 + 0 ≤ _), (by decide : 14 + 0 ≤ _)⟩)
  dsimp only [Pt.U, Pt.locs, Pt.cells, Pt.slots] at X_4 l_4 y_4 z_4 st_4 hQ_4
  subst l_4 y_4 z_4
  obtain ⟨rfl, N_4q, eh_4⟩ := hQ_4
  have N_4 := Fr.app N_3 N_4q
  have St_3_12 := (own_sta_keep ((own_sta_keep S_ElementState_ABSENT Kc_1 all0).ext E_2) Kc_3 all0)
  have St_3_13 := (own_sta_keep ((own_sta_keep S_ElementState_DELETE_ONLY Kc_1 all0).ext E_2) Kc_3 all0)
  have St_3_14 := (own_sta_keep ((own_sta_keep S_ElementState_WRITE_ONLY Kc_1 all0).ext E_2) Kc_3 all0)
  have St_3_15 := (own_sta_keep ((own_sta_keep S_ElementState_PUBLIC Kc_1 all0).ext E_2) Kc_3 all0)
  obtain ⟨_, _, ⟨T_5, L_5, k_5, n_5⟩, -, X_5, ⟨Lc_5, hQ_5, l_5, y_5, z_5⟩, st_5⟩ := Jvm.LawKit.callS X_4 hx (y := MN11) hown_3 (mvT hZ_3 (ow hw 38 rfl)) (mvT hZ_3 (ow hw 39 rfl)) (mvT hZ_3 (ow hw 8 rfl)) (mvT hZ_3 (ow hw 40 rfl)) (by decide) (backOf (W := 7) (rm_sta l Z a0 hw [] sa es0 es1 es2 es3 T_3.heap n0 Z_3 St_3_12 St_3_13 St_3_14 St_3_15) hZ_3 (ow hw 40 rfl) (ow hw 8 rfl) (by decide) (by decide)) (g := (mkF mM 308 (lc89 p1 p2 p3 p4 sn cn ta tb qa qb ra rb sa sb nb ca0 ca1 cb0 cb1) [(.int sa), (.int ra), (.int qa), (.ref (own_ty ta t0 t1 t2 t3 t4 t5 t6 t7 t8)), (.int p1), (.ref g__3), (.ref b_2), (.ref b_2)])) rfl (by rw [hml]; rfl) (argsL := [(.int sa)]) (rest := [(.int ra), (.int qa), (.ref (own_ty ta t0 t1 t2 t3 t4 t5 t6 t7 t8)), (.int p1), (.ref g__3), (.ref b_2), (.ref b_2)]) (lenOf pd_11 rfl) rfl (by show 2 * 0 + _ ≤ _; exact Nat.le_of_eq rfl) (hb hby at_308) (fun _ _ => ⟨rfl, eh_4, (by decide : 4 + 0 ≤ _), (by decide : 14 + 0 ≤ _)⟩)
  dsimp only [Pt.U, Pt.locs, Pt.cells, Pt.slots] at X_5 l_5 y_5 z_5 st_5 hQ_5
  subst l_5 y_5 z_5
  obtain ⟨rfl, N_5q, eh_5⟩ := hQ_5
  have N_5 := Fr.app N_4 N_5q
  obtain ⟨_, _, ⟨T_6, L_6, k_6, n_6⟩, -, Xc_6, hSc_6, hgr_6, ⟨Lc_6, hQ_6, l_6, y_6, z_6, CHc_6⟩, st_6⟩ := X_5.specialBackS hx (y := MN12) rfl hown_3 (mvT hZ_3 (ow hw 44 rfl)) (mvT hZ_3 (ow hw 45 rfl)) (mvT hZ_3 (ow hw 46 rfl)) (by decide) (backOfSH (W := 1) (rm_fini l Z a0 hw [] b_2 g__3 p1 (own_ty ta t0 t1 t2 t3 t4 t5 t6 t7 t8) qa ra (own_st sa es0 es1 es2 es3) T_3.heap n0 Z_3 (F_name_b_2__2.keep Kc_3 nin0) (F_number_b_2__2.keep Kc_3 nin0) (F_type_b_2__2.keep Kc_3 nin0) (F_required_b_2__2.keep Kc_3 nin0) (F_repeated_b_2__2.keep Kc_3 nin0) (F_state_b_2__2.keep Kc_3 nin0) (A_2.keep Kc_3) g_b_2) hZ_3 (ow hw 46 rfl) (ow hw 5 rfl) (by decide) (by decide) (own_EW hw) CR_3.1) (g := (mkF mM 311 (lc89 p1 p2 p3 p4 sn cn ta tb qa qb ra rb sa sb nb ca0 ca1 cb0 cb1) [(.ref (own_st sa es0 es1 es2 es3)), (.int ra), (.int qa), (.ref (own_ty ta t0 t1 t2 t3 t4 t5 t6 t7 t8)), (.int p1), (.ref g__3), (.ref b_2), (.ref b_2)])) rfl (by rw [hml]; rfl) (Steps.refl _) (a := b_2) (argsL := [(.ref g__3), (.int p1), (.ref (own_ty ta t0 t1 t2 t3 t4 t5 t6 t7 t8)), (.int qa), (.int ra), (.ref (own_st sa es0 es1 es2 es3))]) (rest := [(.ref b_2)]) (lenOf pd_12 rfl) rfl (by show 2 * 0 + _ ≤ _; exact Nat.le_of_eq rfl) (hb hby at_311) (fun _ _ => ⟨rfl, eh_5, (by decide : 4 + 6 ≤ _), (by decide : 14 + 64 ≤ _)⟩)
  dsimp only [Pt.U, Pt.locs, Pt.cells, Pt.slots] at Xc_6 hSc_6 hgr_6 l_6 y_6 z_6 st_6 hQ_6 CHc_6
  subst l_6 y_6 z_6
  obtain ⟨X_6, hS_6, hZ_6, hown_6⟩ := rebS hS_3 (show _ ≤ T_5.heap.size by rw [eh_5]; exact hk_3) Xc_6 hSc_6 hgr_6 hZ_3 hown_3
  obtain ⟨rfl, N_6q, Kc_6, pfF_name_a_6, pfF_number_a_6, pfF_type_a_6, pfF_required_a_6, pfF_repeated_a_6, pfF_state_a_6, pfE_a_6⟩ := hQ_6
  have Z_6 : n0 ≤ T_6.heap.size := (Nat.le_trans Z_3 Kc_6.1)
  have K_6 : Keep h0 T_6.heap [] := K_3.trans Kc_6 (allS (Or.inr sz_b_2) all0)
  have Ca_6 := CHc_6
  have CR_6 := CR_3.trans Ca_6
  have hk_6 : _ ≤ T_6.heap.size := Nat.le_refl _
  have N_6 := Fr.app N_5 N_6q
  obtain ⟨T_7, h_7, X_7, e_7, E_7, A_7, D_7, -, st_7⟩ := newO X_6 hx hZ_6 hown_6 (ow hw 3 rfl) (ow hw 4 rfl) (ow hw 5 rfl) rfl (g := (mkF mM 316 (lc90 p1 p2 p3 p4 sn cn ta tb qa qb ra rb sa sb nb ca0 ca1 cb0 cb1 b_2) [])) rfl (hb hby at_316) (by decide) (by decide)
  obtain ⟨b_7, g_7⟩ : ∃ z, z = T_6.heap.size := ⟨_, rfl⟩
  rw [← g_7] at A_7 D_7 st_7
  have g_b_7 : n0 ≤ b_7 := Nat.le_trans Z_6 (Nat.le_of_eq g_7.symm)
  have sz_b_7 : h0.size ≤ b_7 := Nat.le_trans K_6.1 (Nat.le_of_eq g_7.symm)
  have Z_7 : n0 ≤ h_7.size := (Nat.le_trans Z_6 E_7.1)
  have K_7 : Keep h0 h_7 [] := K_6.ext E_7
  have hk_7 : _ ≤ h_7.size := Nat.le_trans hk_6 E_7.1
  have Ca_7 := CHr.ext E_7 CR_6.1
  have CR_7 := CR_6.trans Ca_7
  have F_name_b_7__7 : Fld Z h_7 b_7 "com/example/rolling_rung/rollingrung/schema/Field" "name" "Ljava/lang/String;" .null := D_7 (Or.inr (ow hw 61 rfl)) (ty := (.object "java/lang/String")) (by decide)
  have F_number_b_7__7 : Fld Z h_7 b_7 "com/example/rolling_rung/rollingrung/schema/Field" "number" "I" (.int (0 : Int32)) := D_7 (Or.inr (ow hw 63 rfl)) (ty := .int) (by decide)
  have F_type_b_7__7 : Fld Z h_7 b_7 "com/example/rolling_rung/rollingrung/schema/Field" "type" "Lcom/example/rolling_rung/rollingrung/schema/FieldType;" .null := D_7 (Or.inr (ow hw 65 rfl)) (ty := (.object "com/example/rolling_rung/rollingrung/schema/FieldType")) (by decide)
  have F_required_b_7__7 : Fld Z h_7 b_7 "com/example/rolling_rung/rollingrung/schema/Field" "required" "Z" (.int (0 : Int32)) := D_7 (Or.inr (ow hw 67 rfl)) (ty := .boolean) (by decide)
  have F_repeated_b_7__7 : Fld Z h_7 b_7 "com/example/rolling_rung/rollingrung/schema/Field" "repeated" "Z" (.int (0 : Int32)) := D_7 (Or.inr (ow hw 69 rfl)) (ty := .boolean) (by decide)
  have F_state_b_7__7 : Fld Z h_7 b_7 "com/example/rolling_rung/rollingrung/schema/Field" "state" "Lcom/example/rolling_rung/rollingrung/schema/ElementState;" .null := D_7 (Or.inr (ow hw 71 rfl)) (ty := (.object "com/example/rolling_rung/rollingrung/schema/ElementState")) (by decide)
  have St_5_1 := ((own_sta_keep (own_sta_keep St_2_1 Kc_3 all0) Kc_6 (allS (own_exa_ns (A_2.keep Kc_3)) all0)).ext E_7)
  obtain ⟨_, _, ⟨T_8, L_8, k_8, n_8⟩, -, Xc_8, hSc_8, hgr_8, ⟨Lc_8, hQ_8, l_8, y_8, z_8, CHc_8⟩, st_8⟩ := callSS X_7 hx (y := MN9) hown_6 (mvT hZ_6 (ow hw 6 rfl)) (mvT hZ_6 (ow hw 7 rfl)) (mvT hZ_6 (ow hw 8 rfl)) (mvT hZ_6 (ow hw 9 rfl)) (by decide) (backOfSH (W := 2) (rm_mk1 l Z a0 hw [] cs cb0 cb1 h_7 n0 Z_7 St_5_1 hcs hq_cb0) hZ_6 (ow hw 9 rfl) (ow hw 8 rfl) (by decide) (by decide) (own_EW hw) CR_7.1) (g := (mkF mM 326 (lc90 p1 p2 p3 p4 sn cn ta tb qa qb ra rb sa sb nb ca0 ca1 cb0 cb1 b_2) [(.int cb1), (.int cb0), (.int (1 : Int32)), (.ref b_7), (.ref b_7)])) rfl (by rw [hml]; rfl) (argsL := [(.int (1 : Int32)), (.int cb0), (.int cb1)]) (rest := [(.ref b_7), (.ref b_7)]) (lenOf pd_9 rfl) rfl (by show 2 * 0 + _ ≤ _; exact Nat.le_of_eq rfl) (hb hby at_326) (fun _ _ => ⟨rfl, e_7, (by decide : 11 + 3 ≤ _), (by decide : 84 + 6 ≤ _)⟩)
  dsimp only [Pt.U, Pt.locs, Pt.cells, Pt.slots] at Xc_8 hSc_8 hgr_8 l_8 y_8 z_8 st_8 hQ_8 CHc_8
  subst l_8 y_8 z_8
  obtain ⟨X_8, hS_8, hZ_8, hown_8⟩ := rebS hS_6 (show _ ≤ T_7.heap.size by rw [e_7]; exact hk_7) Xc_8 hSc_8 hgr_8 hZ_6 hown_6
  obtain ⟨g__8, ⟨d__8, ⟨kd__8, ⟨rfl, N_8q, Kc_8, pfsz_g_8, pfsz_d_8, pfE_g_8, pfF_value_g_8, pfF_coder_g_8, pfV_d_8⟩⟩⟩⟩ := hQ_8
  have Z_8 : n0 ≤ T_8.heap.size := (Nat.le_trans Z_7 Kc_8.1)
  have K_8 : Keep h0 T_8.heap [] := K_7.trans Kc_8 all0
  have Ca_8 := CHc_8
  have CR_8 := CR_7.trans Ca_8
  have hk_8 : _ ≤ T_8.heap.size := Nat.le_refl _
  have sz_g__8 : h0.size ≤ g__8 := Nat.le_trans K_7.1 pfsz_g_8
  have g_g__8 : n0 ≤ g__8 := Nat.le_trans Z_7 pfsz_g_8
  have sz_d__8 : h0.size ≤ d__8 := Nat.le_trans K_7.1 pfsz_d_8
  have g_d__8 : n0 ≤ d__8 := Nat.le_trans Z_7 pfsz_d_8
  have N_8 := Fr.app N_6 N_8q
  have St_6_3 := (own_sta_keep ((own_sta_keep St_3_3 Kc_6 (allS (own_exa_ns (A_2.keep Kc_3)) all0)).ext E_7) Kc_8 all0)
  have St_6_4 := (own_sta_keep ((own_sta_keep St_3_4 Kc_6 (allS (own_exa_ns (A_2.keep Kc_3)) all0)).ext E_7) Kc_8 all0)
  have St_6_5 := (own_sta_keep ((own_sta_keep St_3_5 Kc_6 (allS (own_exa_ns (A_2.keep Kc_3)) all0)).ext E_7) Kc_8 all0)
  have St_6_6 := (own_sta_keep ((own_sta_keep St_3_6 Kc_6 (allS (own_exa_ns (A_2.keep Kc_3)) all0)).ext E_7) Kc_8 all0)
  have St_6_7 := (own_sta_keep ((own_sta_keep St_3_7 Kc_6 (allS (own_exa_ns (A_2.keep Kc_3)) all0)).ext E_7) Kc_8 all0)
  have St_6_8 := (own_sta_keep ((own_sta_keep St_3_8 Kc_6 (allS (own_exa_ns (A_2.keep Kc_3)) all0)).ext E_7) Kc_8 all0)
  have St_6_9 := (own_sta_keep ((own_sta_keep St_3_9 Kc_6 (allS (own_exa_ns (A_2.keep Kc_3)) all0)).ext E_7) Kc_8 all0)
  have St_6_10 := (own_sta_keep ((own_sta_keep St_3_10 Kc_6 (allS (own_exa_ns (A_2.keep Kc_3)) all0)).ext E_7) Kc_8 all0)
  have St_6_11 := (own_sta_keep ((own_sta_keep St_3_11 Kc_6 (allS (own_exa_ns (A_2.keep Kc_3)) all0)).ext E_7) Kc_8 all0)
  obtain ⟨_, _, ⟨T_9, L_9, k_9, n_9⟩, -, X_9, ⟨Lc_9, hQ_9, l_9, y_9, z_9⟩, st_9⟩ := Jvm.LawKit.callS X_8 hx (y := MN10) hown_8 (mvT hZ_8 (ow hw 32 rfl)) (mvT hZ_8 (ow hw 33 rfl)) (mvT hZ_8 (ow hw 8 rfl)) (mvT hZ_8 (ow hw 34 rfl)) (by decide) (backOf (W := 4) (rm_typ l Z a0 hw [] tb t0 t1 t2 t3 t4 t5 t6 t7 t8 T_8.heap n0 Z_8 St_6_3 St_6_4 St_6_5 St_6_6 St_6_7 St_6_8 St_6_9 St_6_10 St_6_11) hZ_8 (ow hw 34 rfl) (ow hw 8 rfl) (by decide) (by decide)) (g := (mkF mM 333 (lc90 p1 p2 p3 p4 sn cn ta tb qa qb ra rb sa sb nb ca0 ca1 cb0 cb1 b_2) [(.int tb), (.int nb), (.ref g__8), (.ref b_7), (.ref b_7)])) rfl (by rw [hml]; rfl) (argsL := [(.int tb)]) (rest := [(.int nb), (.ref g__8), (.ref b_7), (.ref b_7)]) (lenOf pd_10 rfl) rfl (by show 2 * 0 + _ ≤ _; exact Nat.le_of_eq rfl) (hb hby at_333) (fun _ _ => ⟨rfl, rfl, (by decide : 14 + 0 ≤ _), (by decide : 90 + 0 ≤ _)⟩)
  dsimp only [Pt.U, Pt.locs, Pt.cells, Pt.slots] at X_9 l_9 y_9 z_9 st_9 hQ_9
  subst l_9 y_9 z_9
  obtain ⟨rfl, N_9q, eh_9⟩ := hQ_9
  have N_9 := Fr.app N_8 N_9q
  have St_6_12 := (own_sta_keep ((own_sta_keep St_3_12 Kc_6 (allS (own_exa_ns (A_2.keep Kc_3)) all0)).ext E_7) Kc_8 all0)
  have St_6_13 := (own_sta_keep ((own_sta_keep St_3_13 Kc_6 (allS (own_exa_ns (A_2.keep Kc_3)) all0)).ext E_7) Kc_8 all0)
  have St_6_14 := (own_sta_keep ((own_sta_keep St_3_14 Kc_6 (allS (own_exa_ns (A_2.keep Kc_3)) all0)).ext E_7) Kc_8 all0)
  have St_6_15 := (own_sta_keep ((own_sta_keep St_3_15 Kc_6 (allS (own_exa_ns (A_2.keep Kc_3)) all0)).ext E_7) Kc_8 all0)
  obtain ⟨_, _, ⟨T_10, L_10, k_10, n_10⟩, -, X_10, ⟨Lc_10, hQ_10, l_10, y_10, z_10⟩, st_10⟩ := Jvm.LawKit.callS X_9 hx (y := MN11) hown_8 (mvT hZ_8 (ow hw 38 rfl)) (mvT hZ_8 (ow hw 39 rfl)) (mvT hZ_8 (ow hw 8 rfl)) (mvT hZ_8 (ow hw 40 rfl)) (by decide) (backOf (W := 7) (rm_sta l Z a0 hw [] sb es0 es1 es2 es3 T_8.heap n0 Z_8 St_6_12 St_6_13 St_6_14 St_6_15) hZ_8 (ow hw 40 rfl) (ow hw 8 rfl) (by decide) (by decide)) (g := (mkF mM 342 (lc90 p1 p2 p3 p4 sn cn ta tb qa qb ra rb sa sb nb ca0 ca1 cb0 cb1 b_2) [(.int sb), (.int rb), (.int qb), (.ref (own_ty tb t0 t1 t2 t3 t4 t5 t6 t7 t8)), (.int nb), (.ref g__8), (.ref b_7), (.ref b_7)])) rfl (by rw [hml]; rfl) (argsL := [(.int sb)]) (rest := [(.int rb), (.int qb), (.ref (own_ty tb t0 t1 t2 t3 t4 t5 t6 t7 t8)), (.int nb), (.ref g__8), (.ref b_7), (.ref b_7)]) (lenOf pd_11 rfl) rfl (by show 2 * 0 + _ ≤ _; exact Nat.le_of_eq rfl) (hb hby at_342) (fun _ _ => ⟨rfl, eh_9, (by decide : 14 + 0 ≤ _), (by decide : 90 + 0 ≤ _)⟩)
  dsimp only [Pt.U, Pt.locs, Pt.cells, Pt.slots] at X_10 l_10 y_10 z_10 st_10 hQ_10
  subst l_10 y_10 z_10
  obtain ⟨rfl, N_10q, eh_10⟩ := hQ_10
  have N_10 := Fr.app N_9 N_10q
  obtain ⟨_, _, ⟨T_11, L_11, k_11, n_11⟩, -, Xc_11, hSc_11, hgr_11, ⟨Lc_11, hQ_11, l_11, y_11, z_11, CHc_11⟩, st_11⟩ := X_10.specialBackS hx (y := MN12) rfl hown_8 (mvT hZ_8 (ow hw 44 rfl)) (mvT hZ_8 (ow hw 45 rfl)) (mvT hZ_8 (ow hw 46 rfl)) (by decide) (backOfSH (W := 1) (rm_fini l Z a0 hw [] b_7 g__8 nb (own_ty tb t0 t1 t2 t3 t4 t5 t6 t7 t8) qb rb (own_st sb es0 es1 es2 es3) T_8.heap n0 Z_8 (F_name_b_7__7.keep Kc_8 nin0) (F_number_b_7__7.keep Kc_8 nin0) (F_type_b_7__7.keep Kc_8 nin0) (F_required_b_7__7.keep Kc_8 nin0) (F_repeated_b_7__7.keep Kc_8 nin0) (F_state_b_7__7.keep Kc_8 nin0) (A_7.keep Kc_8) g_b_7) hZ_8 (ow hw 46 rfl) (ow hw 5 rfl) (by decide) (by decide) (own_EW hw) CR_8.1) (g := (mkF mM 345 (lc90 p1 p2 p3 p4 sn cn ta tb qa qb ra rb sa sb nb ca0 ca1 cb0 cb1 b_2) [(.ref (own_st sb es0 es1 es2 es3)), (.int rb), (.int qb), (.ref (own_ty tb t0 t1 t2 t3 t4 t5 t6 t7 t8)), (.int nb), (.ref g__8), (.ref b_7), (.ref b_7)])) rfl (by rw [hml]; rfl) (Steps.refl _) (a := b_7) (argsL := [(.ref g__8), (.int nb), (.ref (own_ty tb t0 t1 t2 t3 t4 t5 t6 t7 t8)), (.int qb), (.int rb), (.ref (own_st sb es0 es1 es2 es3))]) (rest := [(.ref b_7)]) (lenOf pd_12 rfl) rfl (by show 2 * 0 + _ ≤ _; exact Nat.le_of_eq rfl) (hb hby at_345) (fun _ _ => ⟨rfl, eh_10, (by decide : 14 + 6 ≤ _), (by decide : 90 + 64 ≤ _)⟩)
  dsimp only [Pt.U, Pt.locs, Pt.cells, Pt.slots] at Xc_11 hSc_11 hgr_11 l_11 y_11 z_11 st_11 hQ_11 CHc_11
  subst l_11 y_11 z_11
  obtain ⟨X_11, hS_11, hZ_11, hown_11⟩ := rebS hS_8 (show _ ≤ T_10.heap.size by rw [eh_10]; exact hk_8) Xc_11 hSc_11 hgr_11 hZ_8 hown_8
  obtain ⟨rfl, N_11q, Kc_11, pfF_name_a_11, pfF_number_a_11, pfF_type_a_11, pfF_required_a_11, pfF_repeated_a_11, pfF_state_a_11, pfE_a_11⟩ := hQ_11
  have Z_11 : n0 ≤ T_11.heap.size := (Nat.le_trans Z_8 Kc_11.1)
  have K_11 : Keep h0 T_11.heap [] := K_8.trans Kc_11 (allS (Or.inr sz_b_7) all0)
  have Ca_11 := CHc_11
  have CR_11 := CR_8.trans Ca_11
  have hk_11 : _ ≤ T_11.heap.size := Nat.le_refl _
  have N_11 := Fr.app N_10 N_11q
  have St_7_1 := (own_sta_keep (own_sta_keep St_5_1 Kc_8 all0) Kc_11 (allS (own_exa_ns (A_7.keep Kc_8)) all0))
  obtain ⟨cq_12, kq_12, q_12a, q_12b, q_12c⟩ := isOf hZ_11 rfl (((pfE_a_6.ext E_7).keep Kc_8).keep Kc_11)
  obtain ⟨_, _, ⟨T_12, L_12, k_12, n_12⟩, -, X_12, ⟨Lc_12, hQ_12, l_12, y_12, z_12⟩, st_12⟩ := X_11.virtualBack hx (y := MN13) (z := MN13) hown_11 (mvT hZ_11 (ow hw 76 rfl)) (mvT hZ_11 (ow hw 77 rfl)) (notFace_of_selects (args := #[]) (mvT hZ_11 (ow hw 79 rfl))) (mvT hZ_11 (ow hw 79 rfl)) (mvT hZ_11 (ow hw 78 rfl)) (by decide) (backOf (W := 0) (rm_sd l Z a0 hw [] b_2 b_7 g__3 g__8 p1 (own_ty ta t0 t1 t2 t3 t4 t5 t6 t7 t8) (nar .boolean qa) (nar .boolean ra) nb (own_ty tb t0 t1 t2 t3 t4 t5 t6 t7 t8) (nar .boolean qb) (nar .boolean rb) d__3 d__8 (0 : Int32) cs T_11.heap n0 Z_11 (((pfF_name_a_6.ext E_7).keep Kc_8 nin0).keep Kc_11 (ninS (Nat.ne_of_lt (Nat.lt_of_lt_of_le pfE_a_6.lt (Nat.le_of_eq g_7.symm))) nin0)) (((pfF_number_a_6.ext E_7).keep Kc_8 nin0).keep Kc_11 (ninS (Nat.ne_of_lt (Nat.lt_of_lt_of_le pfE_a_6.lt (Nat.le_of_eq g_7.symm))) nin0)) (((pfF_type_a_6.ext E_7).keep Kc_8 nin0).keep Kc_11 (ninS (Nat.ne_of_lt (Nat.lt_of_lt_of_le pfE_a_6.lt (Nat.le_of_eq g_7.symm))) nin0)) (((pfF_required_a_6.ext E_7).keep Kc_8 nin0).keep Kc_11 (ninS (Nat.ne_of_lt (Nat.lt_of_lt_of_le pfE_a_6.lt (Nat.le_of_eq g_7.symm))) nin0)) (((pfF_repeated_a_6.ext E_7).keep Kc_8 nin0).keep Kc_11 (ninS (Nat.ne_of_lt (Nat.lt_of_lt_of_le pfE_a_6.lt (Nat.le_of_eq g_7.symm))) nin0)) pfF_name_a_11 pfF_number_a_11 pfF_type_a_11 pfF_required_a_11 pfF_repeated_a_11 ((((pfF_value_g_3.keep Kc_6 (ninS (Ne.symm (Nat.ne_of_lt (Nat.lt_of_lt_of_le A_2.lt pfsz_g_3))) nin0)).ext E_7).keep Kc_8 nin0).keep Kc_11 (ninS (Nat.ne_of_lt (Nat.lt_of_lt_of_le (pfE_g_3.keep Kc_6).lt (Nat.le_of_eq g_7.symm))) nin0)) ((((pfF_coder_g_3.keep Kc_6 (ninS (Ne.symm (Nat.ne_of_lt (Nat.lt_of_lt_of_le A_2.lt pfsz_g_3))) nin0)).ext E_7).keep Kc_8 nin0).keep Kc_11 (ninS (Nat.ne_of_lt (Nat.lt_of_lt_of_le (pfE_g_3.keep Kc_6).lt (Nat.le_of_eq g_7.symm))) nin0)) ((((pfE_g_3.keep Kc_6).ext E_7).keep Kc_8).keep Kc_11) (pfF_value_g_8.keep Kc_11 (ninS (Ne.symm (Nat.ne_of_lt (Nat.lt_of_lt_of_le A_7.lt pfsz_g_8))) nin0)) (pfF_coder_g_8.keep Kc_11 (ninS (Ne.symm (Nat.ne_of_lt (Nat.lt_of_lt_of_le A_7.lt pfsz_g_8))) nin0)) (pfE_g_8.keep Kc_11) St_7_1 hcs (rm_leq21 l Z a0 hw [] d__3 kd__3 d__8 kd__8 (nar .byte ((nar .char ca0).toInt8.toInt32)) (nar .byte ((nar .char ca1).toInt8.toInt32)) (nar .byte ((nar .char cb0).toInt8.toInt32)) T_11.heap n0 Z_11 ((((pfV_d_3.keep Kc_6 (ninS (Ne.symm (Nat.ne_of_lt (Nat.lt_of_lt_of_le A_2.lt pfsz_d_3))) nin0)).ext E_7).keep Kc_8 nin0).keep Kc_11 (ninS (Nat.ne_of_lt (Nat.lt_of_lt_of_le (pfV_d_3.keep Kc_6 (ninS (Ne.symm (Nat.ne_of_lt (Nat.lt_of_lt_of_le A_2.lt pfsz_d_3))) nin0)).lt (Nat.le_of_eq g_7.symm))) nin0)) (pfV_d_8.keep Kc_11 (ninS (Ne.symm (Nat.ne_of_lt (Nat.lt_of_lt_of_le A_7.lt pfsz_d_8))) nin0))) (Nat.ne_of_lt (Nat.lt_of_lt_of_le ((pfE_g_3.keep Kc_6).ext E_7).lt pfsz_g_8))) hZ_11 (ow hw 80 rfl) (ow hw 5 rfl) (by decide) (by decide)) q_12a q_12c (g := (mkF mM 433 (lc93 p1 p2 p3 p4 sn cn ta tb qa qb ra rb sa sb nb ca0 ca1 cb0 cb1 b_2 b_7) [(.ref b_7), (.ref b_2)])) rfl (by rw [hml]; rfl) (Steps.refl _) (argsL := [(.ref b_7)]) (rest := []) (lenOf pd_13 rfl) rfl (by show 2 * 0 + _ ≤ _; exact Nat.le_of_eq rfl) (hb hby at_433) (fun _ _ => ⟨rfl, rfl, (by decide : 20 + 0 ≤ _), (by decide : 154 + 0 ≤ _)⟩)
  dsimp only [Pt.U, Pt.locs, Pt.cells, Pt.slots] at X_12 l_12 y_12 z_12 st_12 hQ_12
  subst l_12 y_12 z_12
  obtain ⟨rfl, N_12q, eh_12⟩ := hQ_12
  have N_12 := Fr.app N_11 N_12q
  obtain ⟨fs, hr, hrun, hended, hRE⟩ := X_12.leaveW hS_11 (show _ ≤ T_12.heap.size by rw [eh_12]; exact hk_11) (v := some (.int (1 : Int32))) (fun h => by rw [Bd.returns] at h; cases h)
  refine ⟨_, _, pre0 _ ?_, hrun, hended, _, _, rfl, ?_, ⟨_, rfl⟩, hRE.2.1, hRE.2.2.1, hRE.2.2.2.mono (by decide) (by decide)⟩
  · show oS pP eE below s₁ (mkF mM 0 (lc36 p1 p2 p3 p4) []) _
    refine st_1 _ ?_
    show oS pP eE below T_1 (mkF mM 283 (lc89 p1 p2 p3 p4 sn cn ta tb qa qb ra rb sa sb nb ca0 ca1 cb0 cb1) []) _
    refine st_2 _ ?_
    show oS pP eE below T_2 (mkF mM 286 (lc89 p1 p2 p3 p4 sn cn ta tb qa qb ra rb sa sb nb ca0 ca1 cb0 cb1) [(.ref b_2)]) _
    refine XS.dup X_2.here hx rfl (hb hby at_286) rfl rfl ?_
    refine XS.iload X_2.here hx rfl (hb hby at_287) rfl ?_
    refine XS.iload X_2.here hx rfl (hb hby at_289) rfl ?_
    refine XS.iload X_2.here hx rfl (hb hby at_291) rfl ?_
    show oS pP eE below T_2 (mkF mM 293 (lc89 p1 p2 p3 p4 sn cn ta tb qa qb ra rb sa sb nb ca0 ca1 cb0 cb1) [(.int ca1), (.int ca0), (.int (2 : Int32)), (.ref b_2), (.ref b_2)]) _
    refine st_3.trans ?_
    show oS pP eE below T_3 (mkF mM 296 (lc89 p1 p2 p3 p4 sn cn ta tb qa qb ra rb sa sb nb ca0 ca1 cb0 cb1) [(.ref g__3), (.ref b_2), (.ref b_2)]) _
    refine XS.iloadN X_3.here hx rfl (hb hby at_296) rfl ?_
    refine XS.iload X_3.here hx rfl (hb hby at_297) rfl ?_
    show oS pP eE below T_3 (mkF mM 299 (lc89 p1 p2 p3 p4 sn cn ta tb qa qb ra rb sa sb nb ca0 ca1 cb0 cb1) [(.int ta), (.int p1), (.ref g__3), (.ref b_2), (.ref b_2)]) _
    refine st_4 _ ?_
    show oS pP eE below T_4 (mkF mM 302 (lc89 p1 p2 p3 p4 sn cn ta tb qa qb ra rb sa sb nb ca0 ca1 cb0 cb1) [(.ref (own_ty ta t0 t1 t2 t3 t4 t5 t6 t7 t8)), (.int p1), (.ref g__3), (.ref b_2), (.ref b_2)]) _
    refine XS.iload X_4.here hx rfl (hb hby at_302) rfl ?_
    refine XS.iload X_4.here hx rfl (hb hby at_304) rfl ?_
    refine XS.iload X_4.here hx rfl (hb hby at_306) rfl ?_
    show oS pP eE below T_4 (mkF mM 308 (lc89 p1 p2 p3 p4 sn cn ta tb qa qb ra rb sa sb nb ca0 ca1 cb0 cb1) [(.int sa), (.int ra), (.int qa), (.ref (own_ty ta t0 t1 t2 t3 t4 t5 t6 t7 t8)), (.int p1), (.ref g__3), (.ref b_2), (.ref b_2)]) _
    refine st_5 _ ?_
    show oS pP eE below T_5 (mkF mM 311 (lc89 p1 p2 p3 p4 sn cn ta tb qa qb ra rb sa sb nb ca0 ca1 cb0 cb1) [(.ref (own_st sa es0 es1 es2 es3)), (.int ra), (.int qa), (.ref (own_ty ta t0 t1 t2 t3 t4 t5 t6 t7 t8)), (.int p1), (.ref g__3), (.ref b_2), (.ref b_2)]) _
    refine st_6.trans ?_
    show oS pP eE below T_6 (mkF mM 314 (lc89 p1 p2 p3 p4 sn cn ta tb qa qb ra rb sa sb nb ca0 ca1 cb0 cb1) [(.ref b_2)]) _
    refine XS.astore X_6.here hx rfl (hb hby at_314) rfl rfl (l' := (lc90 p1 p2 p3 p4 sn cn ta tb qa qb ra rb sa sb nb ca0 ca1 cb0 cb1 b_2)) rfl ?_
    show oS pP eE below T_6 (mkF mM 316 (lc90 p1 p2 p3 p4 sn cn ta tb qa qb ra rb sa sb nb ca0 ca1 cb0 cb1 b_2) []) _
    refine st_7 _ ?_
    show oS pP eE below T_7 (mkF mM 319 (lc90 p1 p2 p3 p4 sn cn ta tb qa qb ra rb sa sb nb ca0 ca1 cb0 cb1 b_2) [(.ref b_7)]) _
    refine XS.dup X_7.here hx rfl (hb hby at_319) rfl rfl ?_
    refine XS.iload X_7.here hx rfl (hb hby at_320) rfl ?_
    refine XS.iload X_7.here hx rfl (hb hby at_322) rfl ?_
    refine XS.iload X_7.here hx rfl (hb hby at_324) rfl ?_
    show oS pP eE below T_7 (mkF mM 326 (lc90 p1 p2 p3 p4 sn cn ta tb qa qb ra rb sa sb nb ca0 ca1 cb0 cb1 b_2) [(.int cb1), (.int cb0), (.int (1 : Int32)), (.ref b_7), (.ref b_7)]) _
    refine st_8.trans ?_
    show oS pP eE below T_8 (mkF mM 329 (lc90 p1 p2 p3 p4 sn cn ta tb qa qb ra rb sa sb nb ca0 ca1 cb0 cb1 b_2) [(.ref g__8), (.ref b_7), (.ref b_7)]) _
    refine XS.iload X_8.here hx rfl (hb hby at_329) rfl ?_
    refine XS.iload X_8.here hx rfl (hb hby at_331) rfl ?_
    show oS pP eE below T_8 (mkF mM 333 (lc90 p1 p2 p3 p4 sn cn ta tb qa qb ra rb sa sb nb ca0 ca1 cb0 cb1 b_2) [(.int tb), (.int nb), (.ref g__8), (.ref b_7), (.ref b_7)]) _
    refine st_9 _ ?_
    show oS pP eE below T_9 (mkF mM 336 (lc90 p1 p2 p3 p4 sn cn ta tb qa qb ra rb sa sb nb ca0 ca1 cb0 cb1 b_2) [(.ref (own_ty tb t0 t1 t2 t3 t4 t5 t6 t7 t8)), (.int nb), (.ref g__8), (.ref b_7), (.ref b_7)]) _
    refine XS.iload X_9.here hx rfl (hb hby at_336) rfl ?_
    refine XS.iload X_9.here hx rfl (hb hby at_338) rfl ?_
    refine XS.iload X_9.here hx rfl (hb hby at_340) rfl ?_
    show oS pP eE below T_9 (mkF mM 342 (lc90 p1 p2 p3 p4 sn cn ta tb qa qb ra rb sa sb nb ca0 ca1 cb0 cb1 b_2) [(.int sb), (.int rb), (.int qb), (.ref (own_ty tb t0 t1 t2 t3 t4 t5 t6 t7 t8)), (.int nb), (.ref g__8), (.ref b_7), (.ref b_7)]) _
    refine st_10 _ ?_
    show oS pP eE below T_10 (mkF mM 345 (lc90 p1 p2 p3 p4 sn cn ta tb qa qb ra rb sa sb nb ca0 ca1 cb0 cb1 b_2) [(.ref (own_st sb es0 es1 es2 es3)), (.int rb), (.int qb), (.ref (own_ty tb t0 t1 t2 t3 t4 t5 t6 t7 t8)), (.int nb), (.ref g__8), (.ref b_7), (.ref b_7)]) _
    refine st_11.trans ?_
    show oS pP eE below T_11 (mkF mM 348 (lc90 p1 p2 p3 p4 sn cn ta tb qa qb ra rb sa sb nb ca0 ca1 cb0 cb1 b_2) [(.ref b_7)]) _
    refine XS.astore X_11.here hx rfl (hb hby at_348) rfl rfl (l' := (lc91 p1 p2 p3 p4 sn cn ta tb qa qb ra rb sa sb nb ca0 ca1 cb0 cb1 b_2 b_7)) rfl ?_
    refine XS.iload X_11.here hx rfl (hb hby at_350) rfl ?_
    refine XS.iload X_11.here hx rfl (hb hby at_352) rfl ?_
    refine XS.icmpYes X_11.here hx rfl (pc0 := 354) (pc' := 387) rfl (hb hby at_354) rfl (by decide) (by decide) (by decide) ?_
    refine XS.iconst X_11.here hx rfl (hb hby at_387) ?_
    refine XS.istore X_11.here hx rfl (hb hby at_388) rfl (l' := (lc92 p1 p2 p3 p4 sn cn ta tb qa qb ra rb sa sb nb ca0 ca1 cb0 cb1 b_2 b_7)) rfl ?_
    refine XS.iload X_11.here hx rfl (hb hby at_390) rfl ?_
    refine XS.ifYes X_11.here hx rfl (pc0 := 392) (pc' := 426) rfl (hb hby at_392) rfl (by decide) (by decide) (by decide) ?_
    refine XS.iconst X_11.here hx rfl (hb hby at_426) ?_
    refine XS.istore X_11.here hx rfl (hb hby at_427) rfl (l' := (lc93 p1 p2 p3 p4 sn cn ta tb qa qb ra rb sa sb nb ca0 ca1 cb0 cb1 b_2 b_7)) rfl ?_
    refine XS.aload X_11.here hx rfl (hb hby at_429) rfl rfl ?_
    refine XS.aload X_11.here hx rfl (hb hby at_431) rfl rfl ?_
    show oS pP eE below T_11 (mkF mM 433 (lc93 p1 p2 p3 p4 sn cn ta tb qa qb ra rb sa sb nb ca0 ca1 cb0 cb1 b_2 b_7) [(.ref b_7), (.ref b_2)]) _
    refine st_12.trans ?_
    show oS pP eE below T_12 (mkF mM 436 (lc93 p1 p2 p3 p4 sn cn ta tb qa qb ra rb sa sb nb ca0 ca1 cb0 cb1 b_2 b_7) [(.int (own_sd (own_nz (0 : Int32)) p1 nb (own_ty ta t0 t1 t2 t3 t4 t5 t6 t7 t8) (own_ty tb t0 t1 t2 t3 t4 t5 t6 t7 t8) (nar .boolean qa) (nar .boolean qb) (nar .boolean ra) (nar .boolean rb)))]) _
    refine XS.iload X_12.here hx rfl (hb hby at_436) rfl ?_
    refine XS.icmpNo X_12.here hx rfl (hb hby at_438) rfl (XT.ii_ne_f hfin) ?_
    refine XS.iconst X_12.here hx rfl (hb hby at_441) ?_
    refine XS.goto X_12.here hx rfl (pc0 := 442) (pc' := 446) rfl (hb hby at_442) (by decide) (by decide) ?_
    show oS pP eE below T_12 (mkF mM 446 (lc93 p1 p2 p3 p4 sn cn ta tb qa qb ra rb sa sb nb ca0 ca1 cb0 cb1 b_2 b_7) [(.int (1 : Int32))]) _
    exact retN X_12 hx (t := .boolean) Bd.returns (by simp) (hb hby at_446) hr
  · show Q_law21 Z p1 p2 p3 p4 sn cn qa qb ra rb ta sa sb ca0 ca1 tb nb cb0 cb1 t0 t1 t2 t3 t4 t5 t6 t7 t8 es0 es1 es2 es3 cs h0 n0 _ T_12.heap _
    exact ⟨rfl, N_12⟩
abbrev lc94 (p1 : Int32) (p2 : Int32) (p3 : Int64) (p4 : Int64) (sn : Int32) (cn : Int32) (ta : Int32) (tb : Int32) (qa : Int32) (qb : Int32) (ra : Int32) (rb : Int32) (sa : Int32) (sb : Int32) (nb : Int32) (ca0 : Int32) (ca1 : Int32) (cb0 : Int32) (cb1 : Int32) : Array Slot := #[.val (.int p1), .val (.int p2), .val (.long p3), .second, .val (.long p4), .second, .val (.int sn), .val (.int cn), .val (.int ta), .val (.int tb), .val (.int qa), .val (.int qb), .val (.int ra), .val (.int rb), .val (.int sa), .val (.int sb), .val (.int nb), .val (.int ca0), .val (.int ca1), .val (.int cb0), .val (.int cb1), .val (.int (2 : Int32)), .val (.int (2 : Int32)), .unset, .unset, .unset, .unset]
abbrev lc95 (p1 : Int32) (p2 : Int32) (p3 : Int64) (p4 : Int64) (sn : Int32) (cn : Int32) (ta : Int32) (tb : Int32) (qa : Int32) (qb : Int32) (ra : Int32) (rb : Int32) (sa : Int32) (sb : Int32) (nb : Int32) (ca0 : Int32) (ca1 : Int32) (cb0 : Int32) (cb1 : Int32) (b_2 : Addr) : Array Slot := #[.val (.int p1), .val (.int p2), .val (.long p3), .second, .val (.long p4), .second, .val (.int sn), .val (.int cn), .val (.int ta), .val (.int tb), .val (.int qa), .val (.int qb), .val (.int ra), .val (.int rb), .val (.int sa), .val (.int sb), .val (.int nb), .val (.int ca0), .val (.int ca1), .val (.int cb0), .val (.int cb1), .val (.int (2 : Int32)), .val (.int (2 : Int32)), .val (.ref b_2), .unset, .unset, .unset]
abbrev lc96 (p1 : Int32) (p2 : Int32) (p3 : Int64) (p4 : Int64) (sn : Int32) (cn : Int32) (ta : Int32) (tb : Int32) (qa : Int32) (qb : Int32) (ra : Int32) (rb : Int32) (sa : Int32) (sb : Int32) (nb : Int32) (ca0 : Int32) (ca1 : Int32) (cb0 : Int32) (cb1 : Int32) (b_2 : Addr) (b_7 : Addr) : Array Slot := #[.val (.int p1), .val (.int p2), .val (.long p3), .second, .val (.long p4), .second, .val (.int sn), .val (.int cn), .val (.int ta), .val (.int tb), .val (.int qa), .val (.int qb), .val (.int ra), .val (.int rb), .val (.int sa), .val (.int sb), .val (.int nb), .val (.int ca0), .val (.int ca1), .val (.int cb0), .val (.int cb1), .val (.int (2 : Int32)), .val (.int (2 : Int32)), .val (.ref b_2), .val (.ref b_7), .unset, .unset]
abbrev lc97 (p1 : Int32) (p2 : Int32) (p3 : Int64) (p4 : Int64) (sn : Int32) (cn : Int32) (ta : Int32) (tb : Int32) (qa : Int32) (qb : Int32) (ra : Int32) (rb : Int32) (sa : Int32) (sb : Int32) (nb : Int32) (ca0 : Int32) (ca1 : Int32) (cb0 : Int32) (cb1 : Int32) (b_2 : Addr) (b_7 : Addr) : Array Slot := #[.val (.int p1), .val (.int p2), .val (.long p3), .second, .val (.long p4), .second, .val (.int sn), .val (.int cn), .val (.int ta), .val (.int tb), .val (.int qa), .val (.int qb), .val (.int ra), .val (.int rb), .val (.int sa), .val (.int sb), .val (.int nb), .val (.int ca0), .val (.int ca1), .val (.int cb0), .val (.int cb1), .val (.int (2 : Int32)), .val (.int (2 : Int32)), .val (.ref b_2), .val (.ref b_7), .val (.int (own_e2 ca0 cb0 ca1 cb1)), .unset]
abbrev lc98 (p1 : Int32) (p2 : Int32) (p3 : Int64) (p4 : Int64) (sn : Int32) (cn : Int32) (ta : Int32) (tb : Int32) (qa : Int32) (qb : Int32) (ra : Int32) (rb : Int32) (sa : Int32) (sb : Int32) (nb : Int32) (ca0 : Int32) (ca1 : Int32) (cb0 : Int32) (cb1 : Int32) (b_2 : Addr) (b_7 : Addr) : Array Slot := #[.val (.int p1), .val (.int p2), .val (.long p3), .second, .val (.long p4), .second, .val (.int sn), .val (.int cn), .val (.int ta), .val (.int tb), .val (.int qa), .val (.int qb), .val (.int ra), .val (.int rb), .val (.int sa), .val (.int sb), .val (.int nb), .val (.int ca0), .val (.int ca1), .val (.int cb0), .val (.int cb1), .val (.int (2 : Int32)), .val (.int (2 : Int32)), .val (.ref b_2), .val (.ref b_7), .val (.int (own_e2 ca0 cb0 ca1 cb1)), .val (.int (own_ex (own_e2 ca0 cb0 ca1 cb1) p1 nb ta tb qa qb ra rb))]
theorem ef_law22 (mM : MethodId) (x0 : Int32) (x1 : Int32) (x2 : Int64) (x3 : Int64) : entryFrame mM #[(.int x0), (.int x1), (.long x2), (.long x3)] maxLocals = mkF mM 0 #[.val (.int x0), .val (.int x1), .val (.long x2), .second, .val (.long x3), .second, .unset, .unset, .unset, .unset, .unset, .unset, .unset, .unset, .unset, .unset, .unset, .unset, .unset, .unset, .unset, .unset, .unset, .unset, .unset, .unset, .unset] [] := by first | (simp [entryFrame, mkF, argsToLocals, Value.category, maxLocals]; done) | rfl
def Q_law22 (Z : State) (p1 : Int32) (p2 : Int32) (p3 : Int64) (p4 : Int64) (sn : Int32) (cn : Int32) (qa : Int32) (qb : Int32) (ra : Int32) (rb : Int32) (ta : Int32) (sa : Int32) (sb : Int32) (ca0 : Int32) (ca1 : Int32) (tb : Int32) (nb : Int32) (cb0 : Int32) (cb1 : Int32) (t0 : Addr) (t1 : Addr) (t2 : Addr) (t3 : Addr) (t4 : Addr) (t5 : Addr) (t6 : Addr) (t7 : Addr) (t8 : Addr) (es0 : Addr) (es1 : Addr) (es2 : Addr) (es3 : Addr) (cs : Int32) (h0 : Heap) (n0 : Nat) (v_ : Option Value) (h_ : Heap) (L_ : List Loc) : Prop := v_ = some (.int (1 : Int32)) ∧ Fr n0 L_
set_option maxRecDepth 65536 in
set_option maxHeartbeats 40000000 in
theorem rm_law22 (l : Launch) (Z : State) (a0 : Array Value) (hw : ∀ d ∈ tables_1, d.before a0 Z = true) (ws : List Jvm.Cond) (p1 : Int32) (p2 : Int32) (p3 : Int64) (p4 : Int64) (sn : Int32) (cn : Int32) (qa : Int32) (qb : Int32) (ra : Int32) (rb : Int32) (ta : Int32) (sa : Int32) (sb : Int32) (ca0 : Int32) (ca1 : Int32) (tb : Int32) (nb : Int32) (cb0 : Int32) (cb1 : Int32) (t0 : Addr) (t1 : Addr) (t2 : Addr) (t3 : Addr) (t4 : Addr) (t5 : Addr) (t6 : Addr) (t7 : Addr) (t8 : Addr) (es0 : Addr) (es1 : Addr) (es2 : Addr) (es3 : Addr) (cs : Int32) (h0 : Heap) (n0 : Nat) (Z0 : n0 ≤ h0.size) (hEQ : own_eqs p1 p2 p3 p4 sn cn qa qb ra rb ta sa sb ca0 ca1 (2 : Int32) (2 : Int32) tb nb cb0 cb1) (S_String_COMPACT_STRINGS : Sta Z h0 "java/lang/String" "COMPACT_STRINGS" "Z" (.int cs)) (hcs : ¬ cs = 0) (S_FieldType_STRING : Sta Z h0 "com/example/rolling_rung/rollingrung/schema/FieldType" "STRING" "Lcom/example/rolling_rung/rollingrung/schema/FieldType;" (.ref t0)) (S_FieldType_BYTES : Sta Z h0 "com/example/rolling_rung/rollingrung/schema/FieldType" "BYTES" "Lcom/example/rolling_rung/rollingrung/schema/FieldType;" (.ref t1)) (S_FieldType_BOOL : Sta Z h0 "com/example/rolling_rung/rollingrung/schema/FieldType" "BOOL" "Lcom/example/rolling_rung/rollingrung/schema/FieldType;" (.ref t2)) (S_FieldType_INT32 : Sta Z h0 "com/example/rolling_rung/rollingrung/schema/FieldType" "INT32" "Lcom/example/rolling_rung/rollingrung/schema/FieldType;" (.ref t3)) (S_FieldType_INT64 : Sta Z h0 "com/example/rolling_rung/rollingrung/schema/FieldType" "INT64" "Lcom/example/rolling_rung/rollingrung/schema/FieldType;" (.ref t4)) (S_FieldType_SINT32 : Sta Z h0 "com/example/rolling_rung/rollingrung/schema/FieldType" "SINT32" "Lcom/example/rolling_rung/rollingrung/schema/FieldType;" (.ref t5)) (S_FieldType_SINT64 : Sta Z h0 "com/example/rolling_rung/rollingrung/schema/FieldType" "SINT64" "Lcom/example/rolling_rung/rollingrung/schema/FieldType;" (.ref t6)) (S_FieldType_DOUBLE : Sta Z h0 "com/example/rolling_rung/rollingrung/schema/FieldType" "DOUBLE" "Lcom/example/rolling_rung/rollingrung/schema/FieldType;" (.ref t7)) (S_FieldType_FLOAT : Sta Z h0 "com/example/rolling_rung/rollingrung/schema/FieldType" "FLOAT" "Lcom/example/rolling_rung/rollingrung/schema/FieldType;" (.ref t8)) (S_ElementState_ABSENT : Sta Z h0 "com/example/rolling_rung/rollingrung/schema/ElementState" "ABSENT" "Lcom/example/rolling_rung/rollingrung/schema/ElementState;" (.ref es0)) (S_ElementState_DELETE_ONLY : Sta Z h0 "com/example/rolling_rung/rollingrung/schema/ElementState" "DELETE_ONLY" "Lcom/example/rolling_rung/rollingrung/schema/ElementState;" (.ref es1)) (S_ElementState_WRITE_ONLY : Sta Z h0 "com/example/rolling_rung/rollingrung/schema/ElementState" "WRITE_ONLY" "Lcom/example/rolling_rung/rollingrung/schema/ElementState;" (.ref es2)) (S_ElementState_PUBLIC : Sta Z h0 "com/example/rolling_rung/rollingrung/schema/ElementState" "PUBLIC" "Lcom/example/rolling_rung/rollingrung/schema/ElementState;" (.ref es3)) (hq_ca0 : own_ch ca0) (hq_ca1 : own_ch ca1) (hq_cb0 : own_ch cb0) (hq_cb1 : own_ch cb1) (hfin : (own_sd (own_nz (own_e2 (nar .byte ((nar .char ca0).toInt8.toInt32)) (nar .byte ((nar .char cb0).toInt8.toInt32)) (nar .byte ((nar .char ca1).toInt8.toInt32)) (nar .byte ((nar .char cb1).toInt8.toInt32)))) p1 nb (own_ty ta t0 t1 t2 t3 t4 t5 t6 t7 t8) (own_ty tb t0 t1 t2 t3 t4 t5 t6 t7 t8) (nar .boolean qa) (nar .boolean qb) (nar .boolean ra) (nar .boolean rb)) = (own_ex (own_e2 ca0 cb0 ca1 cb1) p1 nb ta tb qa qb ra rb)) :
    MetFree l x (head1 (Jvm.Cond.code x code maxLocals ret :: ws) room_1) (fun aa_ U_ => aa_ = #[(.int p1), (.int p2), (.long p3), (.long p4)] ∧ Z.Warmed39 U_.vm ∧ U_.heap = h0 ∧ CHv Z own_EL U_.vm h0) (fun _ _ _ _ _ => True) (fun _ U_ o_ U'_ => ∃ v_ L_, o_ = .returned v_ ∧ Q_law22 Z p1 p2 p3 p4 sn cn qa qb ra rb ta sa sb ca0 ca1 tb nb cb0 cb1 t0 t1 t2 t3 t4 t5 t6 t7 t8 es0 es1 es2 es3 cs h0 n0 v_ U'_.heap L_ ∧ ReturnedEndW U_ o_ U'_ L_ 20 156) := by
  refine MetFree.of_bodySF (plainFor_of_name pn_1) hisR ?_
  intro pP eE sS mM argsA below meth cC s₁ Bd hml0 hP hK
  obtain ⟨rfl, hZ, hh, hCH⟩ := hP
  have hx := Bd.exec
  have hby := Bd.bytes
  have hml : cC.maxLocals = 27 := hml0
  have hown : sS.vm.findClass "com/example/rolling_rung/rollingrung/schema/FieldSameDefinitionPinLaw" = some mM.cls := findClass_of_methodNamed Bd.named
  have hnm := (name_of_methodNamed Bd.named Bd.method).1
  have X0 : Stand pP l eE room_1 (sS.setVm sS.vm) mM #[(.int p1), (.int p2), (.long p3), (.long p4)] below meth cC s₁ [] 0 0 := Stand.of_body Bd
  have e0 : s₁.heap = h0 := by rw [← hh, Bd.state]; rfl
  have N0 := Fr.nil n0
  have pre0 : ∀ t_, Steps pP.tables eE below (s₁.setTop (mkF mM 0 #[.val (.int p1), .val (.int p2), .val (.long p3), .second, .val (.long p4), .second, .unset, .unset, .unset, .unset, .unset, .unset, .unset, .unset, .unset, .unset, .unset, .unset, .unset, .unset, .unset, .unset, .unset, .unset, .unset, .unset, .unset] [])) t_ → Steps pP.tables eE below (s₁.setTop (entryFrame mM #[(.int p1), (.int p2), (.long p3), (.long p4)] maxLocals)) t_ := fun t_ k_ => castTop (ef_law22 mM p1 p2 p3 p4) k_
  have hZ : Z.Warmed39 (sS.setVm sS.vm).vm := hZ
  have hown : (sS.setVm sS.vm).vm.findClass "com/example/rolling_rung/rollingrung/schema/FieldSameDefinitionPinLaw" = some mM.cls := hown
  have hS0 : sS.Since sS.vm 0 := (State.WarmedH.refl sS).since 0
  have hk0 : 0 ≤ h0.size := Nat.zero_le _
  have CR0 := CHr.refl hCH
  obtain ⟨T_1, h_1, L_1, X_1, e_1, N_1, Kc_1, st_1⟩ := pc_pre p1 p2 p3 p4 sn cn qa qb ra rb ta sa sb ca0 ca1 (2 : Int32) (2 : Int32) tb nb cb0 cb1 X0 hx hZ hw hby hml hown e0 N0 Z0 hEQ
  have Z_1 : n0 ≤ h_1.size := (Nat.le_trans Z0 Kc_1.1)
  have K_1 : Keep h0 h_1 [] := (Keep.refl h0 []).trans Kc_1 all0
  have hk_1 : _ ≤ h_1.size := Nat.le_trans hk0 Kc_1.1
  have Ca_1 := CHr.keep Kc_1 all0 CR0.1
  have CR_1 := CR0.trans Ca_1
  obtain ⟨T_2, h_2, X_2, e_2, E_2, A_2, D_2, -, st_2⟩ := newO X_1 hx hZ hown (ow hw 3 rfl) (ow hw 4 rfl) (ow hw 5 rfl) e_1 (g := (mkF mM 283 (lc94 p1 p2 p3 p4 sn cn ta tb qa qb ra rb sa sb nb ca0 ca1 cb0 cb1) [])) rfl (hb hby at_283) (by decide) (by decide)
  obtain ⟨b_2, g_2⟩ : ∃ z, z = h_1.size := ⟨_, rfl⟩
  rw [← g_2] at A_2 D_2 st_2
  have g_b_2 : n0 ≤ b_2 := Nat.le_trans Z_1 (Nat.le_of_eq g_2.symm)
  have sz_b_2 : h0.size ≤ b_2 := Nat.le_trans K_1.1 (Nat.le_of_eq g_2.symm)
  have Z_2 : n0 ≤ h_2.size := (Nat.le_trans Z_1 E_2.1)
  have K_2 : Keep h0 h_2 [] := K_1.ext E_2
  have hk_2 : _ ≤ h_2.size := Nat.le_trans hk_1 E_2.1
  have Ca_2 := CHr.ext E_2 CR_1.1
  have CR_2 := CR_1.trans Ca_2
  have F_name_b_2__2 : Fld Z h_2 b_2 "com/example/rolling_rung/rollingrung/schema/Field" "name" "Ljava/lang/String;" .null := D_2 (Or.inr (ow hw 61 rfl)) (ty := (.object "java/lang/String")) (by decide)
  have F_number_b_2__2 : Fld Z h_2 b_2 "com/example/rolling_rung/rollingrung/schema/Field" "number" "I" (.int (0 : Int32)) := D_2 (Or.inr (ow hw 63 rfl)) (ty := .int) (by decide)
  have F_type_b_2__2 : Fld Z h_2 b_2 "com/example/rolling_rung/rollingrung/schema/Field" "type" "Lcom/example/rolling_rung/rollingrung/schema/FieldType;" .null := D_2 (Or.inr (ow hw 65 rfl)) (ty := (.object "com/example/rolling_rung/rollingrung/schema/FieldType")) (by decide)
  have F_required_b_2__2 : Fld Z h_2 b_2 "com/example/rolling_rung/rollingrung/schema/Field" "required" "Z" (.int (0 : Int32)) := D_2 (Or.inr (ow hw 67 rfl)) (ty := .boolean) (by decide)
  have F_repeated_b_2__2 : Fld Z h_2 b_2 "com/example/rolling_rung/rollingrung/schema/Field" "repeated" "Z" (.int (0 : Int32)) := D_2 (Or.inr (ow hw 69 rfl)) (ty := .boolean) (by decide)
  have F_state_b_2__2 : Fld Z h_2 b_2 "com/example/rolling_rung/rollingrung/schema/Field" "state" "Lcom/example/rolling_rung/rollingrung/schema/ElementState;" .null := D_2 (Or.inr (ow hw 71 rfl)) (ty := (.object "com/example/rolling_rung/rollingrung/schema/ElementState")) (by decide)
  have St_2_1 := ((own_sta_keep S_String_COMPACT_STRINGS Kc_1 all0).ext E_2)
  obtain ⟨_, _, ⟨T_3, L_3, k_3, n_3⟩, -, Xc_3, hSc_3, hgr_3, ⟨Lc_3, hQ_3, l_3, y_3, z_3, CHc_3⟩, st_3⟩ := callSS X_2 hx (y := MN9) hown (mvT hZ (ow hw 6 rfl)) (mvT hZ (ow hw 7 rfl)) (mvT hZ (ow hw 8 rfl)) (mvT hZ (ow hw 9 rfl)) (by decide) (backOfSH (W := 2) (rm_mk2 l Z a0 hw [] cs ca0 ca1 h_2 n0 Z_2 St_2_1 hcs hq_ca0 hq_ca1) hZ (ow hw 9 rfl) (ow hw 8 rfl) (by decide) (by decide) (own_EW hw) CR_2.1) (g := (mkF mM 293 (lc94 p1 p2 p3 p4 sn cn ta tb qa qb ra rb sa sb nb ca0 ca1 cb0 cb1) [(.int ca1), (.int ca0), (.int (2 : Int32)), (.ref b_2), (.ref b_2)])) rfl (by rw [hml]; rfl) (argsL := [(.int (2 : Int32)), (.int ca0), (.int ca1)]) (rest := [(.ref b_2), (.ref b_2)]) (lenOf pd_9 rfl) rfl (by show 2 * 0 + _ ≤ _; exact Nat.le_of_eq rfl) (hb hby at_293) (fun _ _ => ⟨rfl, e_2, (by decide : 1 + 3 ≤ _), (by decide : 6 + 8 ≤ _)⟩)
  dsimp only [Pt.U, Pt.locs, Pt.cells, Pt.slots] at Xc_3 hSc_3 hgr_3 l_3 y_3 z_3 st_3 hQ_3 CHc_3
  subst l_3 y_3 z_3
  obtain ⟨X_3, hS_3, hZ_3, hown_3⟩ := rebS hS0 (show _ ≤ T_2.heap.size by rw [e_2]; exact hk_2) Xc_3 hSc_3 hgr_3 hZ hown
  obtain ⟨g__3, ⟨d__3, ⟨kd__3, ⟨rfl, N_3q, Kc_3, pfsz_g_3, pfsz_d_3, pfE_g_3, pfF_value_g_3, pfF_coder_g_3, pfV_d_3⟩⟩⟩⟩ := hQ_3
  have Z_3 : n0 ≤ T_3.heap.size := (Nat.le_trans Z_2 Kc_3.1)
  have K_3 : Keep h0 T_3.heap [] := K_2.trans Kc_3 all0
  have Ca_3 := CHc_3
  have CR_3 := CR_2.trans Ca_3
  have hk_3 : _ ≤ T_3.heap.size := Nat.le_refl _
  have sz_g__3 : h0.size ≤ g__3 := Nat.le_trans K_2.1 pfsz_g_3
  have g_g__3 : n0 ≤ g__3 := Nat.le_trans Z_2 pfsz_g_3
  have sz_d__3 : h0.size ≤ d__3 := Nat.le_trans K_2.1 pfsz_d_3
  have g_d__3 : n0 ≤ d__3 := Nat.le_trans Z_2 pfsz_d_3
  have N_3 := Fr.app N_1 N_3q
  have St_3_3 := (own_sta_keep ((own_sta_keep S_FieldType_STRING Kc_1 all0).ext E_2) Kc_3 all0)
  have St_3_4 := (own_sta_keep ((own_sta_keep S_FieldType_BYTES Kc_1 all0).ext E_2) Kc_3 all0)
  have St_3_5 := (own_sta_keep ((own_sta_keep S_FieldType_BOOL Kc_1 all0).ext E_2) Kc_3 all0)
  have St_3_6 := (own_sta_keep ((own_sta_keep S_FieldType_INT32 Kc_1 all0).ext E_2) Kc_3 all0)
  have St_3_7 := (own_sta_keep ((own_sta_keep S_FieldType_INT64 Kc_1 all0).ext E_2) Kc_3 all0)
  have St_3_8 := (own_sta_keep ((own_sta_keep S_FieldType_SINT32 Kc_1 all0).ext E_2) Kc_3 all0)
  have St_3_9 := (own_sta_keep ((own_sta_keep S_FieldType_SINT64 Kc_1 all0).ext E_2) Kc_3 all0)
  have St_3_10 := (own_sta_keep ((own_sta_keep S_FieldType_DOUBLE Kc_1 all0).ext E_2) Kc_3 all0)
  have St_3_11 := (own_sta_keep ((own_sta_keep S_FieldType_FLOAT Kc_1 all0).ext E_2) Kc_3 all0)
  obtain ⟨_, _, ⟨T_4, L_4, k_4, n_4⟩, -, X_4, ⟨Lc_4, hQ_4, l_4, y_4, z_4⟩, st_4⟩ := Jvm.LawKit.callS X_3 hx (y := MN10) hown_3 (mvT hZ_3 (ow hw 32 rfl)) (mvT hZ_3 (ow hw 33 rfl)) (mvT hZ_3 (ow hw 8 rfl)) (mvT hZ_3 (ow hw 34 rfl)) (by decide) (backOf (W := 4) (rm_typ l Z a0 hw [] ta t0 t1 t2 t3 t4 t5 t6 t7 t8 T_3.heap n0 Z_3 St_3_3 St_3_4 St_3_5 St_3_6 St_3_7 St_3_8 St_3_9 St_3_10 St_3_11) hZ_3 (ow hw 34 rfl) (ow hw 8 rfl) (by decide) (by decide)) (g := (mkF mM 299 (lc94 p1 p2 p3 p4 sn cn ta tb qa qb ra rb sa sb nb ca0 ca1 cb0 cb1) [(.int ta), (.int p1), (.ref g__3), (.ref b_2), (.ref b_2)])) rfl (by rw [hml]; rfl) (argsL := [(.int ta)]) (rest := [(.int p1), (.ref g__3), (.ref b_2), (.ref b_2)]) (lenOf pd_10 rfl) rfl (by show 2 * 0 + _ ≤ _; exact Nat.le_of_eq rfl) (hb hby at_299) (fun _ _ => ⟨rfl, rfl, (by decide : 4 + 0 ≤ _), (by decide : 14 + 0 ≤ _)⟩)
  dsimp only [Pt.U, Pt.locs, Pt.cells, Pt.slots] at X_4 l_4 y_4 z_4 st_4 hQ_4
  subst l_4 y_4 z_4
  obtain ⟨rfl, N_4q, eh_4⟩ := hQ_4
  have N_4 := Fr.app N_3 N_4q
  have St_3_12 := (own_sta_keep ((own_sta_keep S_ElementState_ABSENT Kc_1 all0).ext E_2) Kc_3 all0)
  have St_3_13 := (own_sta_keep ((own_sta_keep S_ElementState_DELETE_ONLY Kc_1 all0).ext E_2) Kc_3 all0)
  have St_3_14 := (own_sta_keep ((own_sta_keep S_ElementState_WRITE_ONLY Kc_1 all0).ext E_2) Kc_3 all0)
  have St_3_15 := (own_sta_keep ((own_sta_keep S_ElementState_PUBLIC Kc_1 all0).ext E_2) Kc_3 all0)
  obtain ⟨_, _, ⟨T_5, L_5, k_5, n_5⟩, -, X_5, ⟨Lc_5, hQ_5, l_5, y_5, z_5⟩, st_5⟩ := Jvm.LawKit.callS X_4 hx (y := MN11) hown_3 (mvT hZ_3 (ow hw 38 rfl)) (mvT hZ_3 (ow hw 39 rfl)) (mvT hZ_3 (ow hw 8 rfl)) (mvT hZ_3 (ow hw 40 rfl)) (by decide) (backOf (W := 7) (rm_sta l Z a0 hw [] sa es0 es1 es2 es3 T_3.heap n0 Z_3 St_3_12 St_3_13 St_3_14 St_3_15) hZ_3 (ow hw 40 rfl) (ow hw 8 rfl) (by decide) (by decide)) (g := (mkF mM 308 (lc94 p1 p2 p3 p4 sn cn ta tb qa qb ra rb sa sb nb ca0 ca1 cb0 cb1) [(.int sa), (.int ra), (.int qa), (.ref (own_ty ta t0 t1 t2 t3 t4 t5 t6 t7 t8)), (.int p1), (.ref g__3), (.ref b_2), (.ref b_2)])) rfl (by rw [hml]; rfl) (argsL := [(.int sa)]) (rest := [(.int ra), (.int qa), (.ref (own_ty ta t0 t1 t2 t3 t4 t5 t6 t7 t8)), (.int p1), (.ref g__3), (.ref b_2), (.ref b_2)]) (lenOf pd_11 rfl) rfl (by show 2 * 0 + _ ≤ _; exact Nat.le_of_eq rfl) (hb hby at_308) (fun _ _ => ⟨rfl, eh_4, (by decide : 4 + 0 ≤ _), (by decide : 14 + 0 ≤ _)⟩)
  dsimp only [Pt.U, Pt.locs, Pt.cells, Pt.slots] at X_5 l_5 y_5 z_5 st_5 hQ_5
  subst l_5 y_5 z_5
  obtain ⟨rfl, N_5q, eh_5⟩ := hQ_5
  have N_5 := Fr.app N_4 N_5q
  obtain ⟨_, _, ⟨T_6, L_6, k_6, n_6⟩, -, Xc_6, hSc_6, hgr_6, ⟨Lc_6, hQ_6, l_6, y_6, z_6, CHc_6⟩, st_6⟩ := X_5.specialBackS hx (y := MN12) rfl hown_3 (mvT hZ_3 (ow hw 44 rfl)) (mvT hZ_3 (ow hw 45 rfl)) (mvT hZ_3 (ow hw 46 rfl)) (by decide) (backOfSH (W := 1) (rm_fini l Z a0 hw [] b_2 g__3 p1 (own_ty ta t0 t1 t2 t3 t4 t5 t6 t7 t8) qa ra (own_st sa es0 es1 es2 es3) T_3.heap n0 Z_3 (F_name_b_2__2.keep Kc_3 nin0) (F_number_b_2__2.keep Kc_3 nin0) (F_type_b_2__2.keep Kc_3 nin0) (F_required_b_2__2.keep Kc_3 nin0) (F_repeated_b_2__2.keep Kc_3 nin0) (F_state_b_2__2.keep Kc_3 nin0) (A_2.keep Kc_3) g_b_2) hZ_3 (ow hw 46 rfl) (ow hw 5 rfl) (by decide) (by decide) (own_EW hw) CR_3.1) (g := (mkF mM 311 (lc94 p1 p2 p3 p4 sn cn ta tb qa qb ra rb sa sb nb ca0 ca1 cb0 cb1) [(.ref (own_st sa es0 es1 es2 es3)), (.int ra), (.int qa), (.ref (own_ty ta t0 t1 t2 t3 t4 t5 t6 t7 t8)), (.int p1), (.ref g__3), (.ref b_2), (.ref b_2)])) rfl (by rw [hml]; rfl) (Steps.refl _) (a := b_2) (argsL := [(.ref g__3), (.int p1), (.ref (own_ty ta t0 t1 t2 t3 t4 t5 t6 t7 t8)), (.int qa), (.int ra), (.ref (own_st sa es0 es1 es2 es3))]) (rest := [(.ref b_2)]) (lenOf pd_12 rfl) rfl (by show 2 * 0 + _ ≤ _; exact Nat.le_of_eq rfl) (hb hby at_311) (fun _ _ => ⟨rfl, eh_5, (by decide : 4 + 6 ≤ _), (by decide : 14 + 64 ≤ _)⟩)
  dsimp only [Pt.U, Pt.locs, Pt.cells, Pt.slots] at Xc_6 hSc_6 hgr_6 l_6 y_6 z_6 st_6 hQ_6 CHc_6
  subst l_6 y_6 z_6
  obtain ⟨X_6, hS_6, hZ_6, hown_6⟩ := rebS hS_3 (show _ ≤ T_5.heap.size by rw [eh_5]; exact hk_3) Xc_6 hSc_6 hgr_6 hZ_3 hown_3
  obtain ⟨rfl, N_6q, Kc_6, pfF_name_a_6, pfF_number_a_6, pfF_type_a_6, pfF_required_a_6, pfF_repeated_a_6, pfF_state_a_6, pfE_a_6⟩ := hQ_6
  have Z_6 : n0 ≤ T_6.heap.size := (Nat.le_trans Z_3 Kc_6.1)
  have K_6 : Keep h0 T_6.heap [] := K_3.trans Kc_6 (allS (Or.inr sz_b_2) all0)
  have Ca_6 := CHc_6
  have CR_6 := CR_3.trans Ca_6
  have hk_6 : _ ≤ T_6.heap.size := Nat.le_refl _
  have N_6 := Fr.app N_5 N_6q
  obtain ⟨T_7, h_7, X_7, e_7, E_7, A_7, D_7, -, st_7⟩ := newO X_6 hx hZ_6 hown_6 (ow hw 3 rfl) (ow hw 4 rfl) (ow hw 5 rfl) rfl (g := (mkF mM 316 (lc95 p1 p2 p3 p4 sn cn ta tb qa qb ra rb sa sb nb ca0 ca1 cb0 cb1 b_2) [])) rfl (hb hby at_316) (by decide) (by decide)
  obtain ⟨b_7, g_7⟩ : ∃ z, z = T_6.heap.size := ⟨_, rfl⟩
  rw [← g_7] at A_7 D_7 st_7
  have g_b_7 : n0 ≤ b_7 := Nat.le_trans Z_6 (Nat.le_of_eq g_7.symm)
  have sz_b_7 : h0.size ≤ b_7 := Nat.le_trans K_6.1 (Nat.le_of_eq g_7.symm)
  have Z_7 : n0 ≤ h_7.size := (Nat.le_trans Z_6 E_7.1)
  have K_7 : Keep h0 h_7 [] := K_6.ext E_7
  have hk_7 : _ ≤ h_7.size := Nat.le_trans hk_6 E_7.1
  have Ca_7 := CHr.ext E_7 CR_6.1
  have CR_7 := CR_6.trans Ca_7
  have F_name_b_7__7 : Fld Z h_7 b_7 "com/example/rolling_rung/rollingrung/schema/Field" "name" "Ljava/lang/String;" .null := D_7 (Or.inr (ow hw 61 rfl)) (ty := (.object "java/lang/String")) (by decide)
  have F_number_b_7__7 : Fld Z h_7 b_7 "com/example/rolling_rung/rollingrung/schema/Field" "number" "I" (.int (0 : Int32)) := D_7 (Or.inr (ow hw 63 rfl)) (ty := .int) (by decide)
  have F_type_b_7__7 : Fld Z h_7 b_7 "com/example/rolling_rung/rollingrung/schema/Field" "type" "Lcom/example/rolling_rung/rollingrung/schema/FieldType;" .null := D_7 (Or.inr (ow hw 65 rfl)) (ty := (.object "com/example/rolling_rung/rollingrung/schema/FieldType")) (by decide)
  have F_required_b_7__7 : Fld Z h_7 b_7 "com/example/rolling_rung/rollingrung/schema/Field" "required" "Z" (.int (0 : Int32)) := D_7 (Or.inr (ow hw 67 rfl)) (ty := .boolean) (by decide)
  have F_repeated_b_7__7 : Fld Z h_7 b_7 "com/example/rolling_rung/rollingrung/schema/Field" "repeated" "Z" (.int (0 : Int32)) := D_7 (Or.inr (ow hw 69 rfl)) (ty := .boolean) (by decide)
  have F_state_b_7__7 : Fld Z h_7 b_7 "com/example/rolling_rung/rollingrung/schema/Field" "state" "Lcom/example/rolling_rung/rollingrung/schema/ElementState;" .null := D_7 (Or.inr (ow hw 71 rfl)) (ty := (.object "com/example/rolling_rung/rollingrung/schema/ElementState")) (by decide)
  have St_5_1 := ((own_sta_keep (own_sta_keep St_2_1 Kc_3 all0) Kc_6 (allS (own_exa_ns (A_2.keep Kc_3)) all0)).ext E_7)
  obtain ⟨_, _, ⟨T_8, L_8, k_8, n_8⟩, -, Xc_8, hSc_8, hgr_8, ⟨Lc_8, hQ_8, l_8, y_8, z_8, CHc_8⟩, st_8⟩ := callSS X_7 hx (y := MN9) hown_6 (mvT hZ_6 (ow hw 6 rfl)) (mvT hZ_6 (ow hw 7 rfl)) (mvT hZ_6 (ow hw 8 rfl)) (mvT hZ_6 (ow hw 9 rfl)) (by decide) (backOfSH (W := 2) (rm_mk2 l Z a0 hw [] cs cb0 cb1 h_7 n0 Z_7 St_5_1 hcs hq_cb0 hq_cb1) hZ_6 (ow hw 9 rfl) (ow hw 8 rfl) (by decide) (by decide) (own_EW hw) CR_7.1) (g := (mkF mM 326 (lc95 p1 p2 p3 p4 sn cn ta tb qa qb ra rb sa sb nb ca0 ca1 cb0 cb1 b_2) [(.int cb1), (.int cb0), (.int (2 : Int32)), (.ref b_7), (.ref b_7)])) rfl (by rw [hml]; rfl) (argsL := [(.int (2 : Int32)), (.int cb0), (.int cb1)]) (rest := [(.ref b_7), (.ref b_7)]) (lenOf pd_9 rfl) rfl (by show 2 * 0 + _ ≤ _; exact Nat.le_of_eq rfl) (hb hby at_326) (fun _ _ => ⟨rfl, e_7, (by decide : 11 + 3 ≤ _), (by decide : 84 + 8 ≤ _)⟩)
  dsimp only [Pt.U, Pt.locs, Pt.cells, Pt.slots] at Xc_8 hSc_8 hgr_8 l_8 y_8 z_8 st_8 hQ_8 CHc_8
  subst l_8 y_8 z_8
  obtain ⟨X_8, hS_8, hZ_8, hown_8⟩ := rebS hS_6 (show _ ≤ T_7.heap.size by rw [e_7]; exact hk_7) Xc_8 hSc_8 hgr_8 hZ_6 hown_6
  obtain ⟨g__8, ⟨d__8, ⟨kd__8, ⟨rfl, N_8q, Kc_8, pfsz_g_8, pfsz_d_8, pfE_g_8, pfF_value_g_8, pfF_coder_g_8, pfV_d_8⟩⟩⟩⟩ := hQ_8
  have Z_8 : n0 ≤ T_8.heap.size := (Nat.le_trans Z_7 Kc_8.1)
  have K_8 : Keep h0 T_8.heap [] := K_7.trans Kc_8 all0
  have Ca_8 := CHc_8
  have CR_8 := CR_7.trans Ca_8
  have hk_8 : _ ≤ T_8.heap.size := Nat.le_refl _
  have sz_g__8 : h0.size ≤ g__8 := Nat.le_trans K_7.1 pfsz_g_8
  have g_g__8 : n0 ≤ g__8 := Nat.le_trans Z_7 pfsz_g_8
  have sz_d__8 : h0.size ≤ d__8 := Nat.le_trans K_7.1 pfsz_d_8
  have g_d__8 : n0 ≤ d__8 := Nat.le_trans Z_7 pfsz_d_8
  have N_8 := Fr.app N_6 N_8q
  have St_6_3 := (own_sta_keep ((own_sta_keep St_3_3 Kc_6 (allS (own_exa_ns (A_2.keep Kc_3)) all0)).ext E_7) Kc_8 all0)
  have St_6_4 := (own_sta_keep ((own_sta_keep St_3_4 Kc_6 (allS (own_exa_ns (A_2.keep Kc_3)) all0)).ext E_7) Kc_8 all0)
  have St_6_5 := (own_sta_keep ((own_sta_keep St_3_5 Kc_6 (allS (own_exa_ns (A_2.keep Kc_3)) all0)).ext E_7) Kc_8 all0)
  have St_6_6 := (own_sta_keep ((own_sta_keep St_3_6 Kc_6 (allS (own_exa_ns (A_2.keep Kc_3)) all0)).ext E_7) Kc_8 all0)
  have St_6_7 := (own_sta_keep ((own_sta_keep St_3_7 Kc_6 (allS (own_exa_ns (A_2.keep Kc_3)) all0)).ext E_7) Kc_8 all0)
  have St_6_8 := (own_sta_keep ((own_sta_keep St_3_8 Kc_6 (allS (own_exa_ns (A_2.keep Kc_3)) all0)).ext E_7) Kc_8 all0)
  have St_6_9 := (own_sta_keep ((own_sta_keep St_3_9 Kc_6 (allS (own_exa_ns (A_2.keep Kc_3)) all0)).ext E_7) Kc_8 all0)
  have St_6_10 := (own_sta_keep ((own_sta_keep St_3_10 Kc_6 (allS (own_exa_ns (A_2.keep Kc_3)) all0)).ext E_7) Kc_8 all0)
  have St_6_11 := (own_sta_keep ((own_sta_keep St_3_11 Kc_6 (allS (own_exa_ns (A_2.keep Kc_3)) all0)).ext E_7) Kc_8 all0)
  obtain ⟨_, _, ⟨T_9, L_9, k_9, n_9⟩, -, X_9, ⟨Lc_9, hQ_9, l_9, y_9, z_9⟩, st_9⟩ := Jvm.LawKit.callS X_8 hx (y := MN10) hown_8 (mvT hZ_8 (ow hw 32 rfl)) (mvT hZ_8 (ow hw 33 rfl)) (mvT hZ_8 (ow hw 8 rfl)) (mvT hZ_8 (ow hw 34 rfl)) (by decide) (backOf (W := 4) (rm_typ l Z a0 hw [] tb t0 t1 t2 t3 t4 t5 t6 t7 t8 T_8.heap n0 Z_8 St_6_3 St_6_4 St_6_5 St_6_6 St_6_7 St_6_8 St_6_9 St_6_10 St_6_11) hZ_8 (ow hw 34 rfl) (ow hw 8 rfl) (by decide) (by decide)) (g := (mkF mM 333 (lc95 p1 p2 p3 p4 sn cn ta tb qa qb ra rb sa sb nb ca0 ca1 cb0 cb1 b_2) [(.int tb), (.int nb), (.ref g__8), (.ref b_7), (.ref b_7)])) rfl (by rw [hml]; rfl) (argsL := [(.int tb)]) (rest := [(.int nb), (.ref g__8), (.ref b_7), (.ref b_7)]) (lenOf pd_10 rfl) rfl (by show 2 * 0 + _ ≤ _; exact Nat.le_of_eq rfl) (hb hby at_333) (fun _ _ => ⟨rfl, rfl, (by decide : 14 + 0 ≤ _), (by decide : 92 + 0 ≤ _)⟩)
  dsimp only [Pt.U, Pt.locs, Pt.cells, Pt.slots] at X_9 l_9 y_9 z_9 st_9 hQ_9
  subst l_9 y_9 z_9
  obtain ⟨rfl, N_9q, eh_9⟩ := hQ_9
  have N_9 := Fr.app N_8 N_9q
  have St_6_12 := (own_sta_keep ((own_sta_keep St_3_12 Kc_6 (allS (own_exa_ns (A_2.keep Kc_3)) all0)).ext E_7) Kc_8 all0)
  have St_6_13 := (own_sta_keep ((own_sta_keep St_3_13 Kc_6 (allS (own_exa_ns (A_2.keep Kc_3)) all0)).ext E_7) Kc_8 all0)
  have St_6_14 := (own_sta_keep ((own_sta_keep St_3_14 Kc_6 (allS (own_exa_ns (A_2.keep Kc_3)) all0)).ext E_7) Kc_8 all0)
  have St_6_15 := (own_sta_keep ((own_sta_keep St_3_15 Kc_6 (allS (own_exa_ns (A_2.keep Kc_3)) all0)).ext E_7) Kc_8 all0)
  obtain ⟨_, _, ⟨T_10, L_10, k_10, n_10⟩, -, X_10, ⟨Lc_10, hQ_10, l_10, y_10, z_10⟩, st_10⟩ := Jvm.LawKit.callS X_9 hx (y := MN11) hown_8 (mvT hZ_8 (ow hw 38 rfl)) (mvT hZ_8 (ow hw 39 rfl)) (mvT hZ_8 (ow hw 8 rfl)) (mvT hZ_8 (ow hw 40 rfl)) (by decide) (backOf (W := 7) (rm_sta l Z a0 hw [] sb es0 es1 es2 es3 T_8.heap n0 Z_8 St_6_12 St_6_13 St_6_14 St_6_15) hZ_8 (ow hw 40 rfl) (ow hw 8 rfl) (by decide) (by decide)) (g := (mkF mM 342 (lc95 p1 p2 p3 p4 sn cn ta tb qa qb ra rb sa sb nb ca0 ca1 cb0 cb1 b_2) [(.int sb), (.int rb), (.int qb), (.ref (own_ty tb t0 t1 t2 t3 t4 t5 t6 t7 t8)), (.int nb), (.ref g__8), (.ref b_7), (.ref b_7)])) rfl (by rw [hml]; rfl) (argsL := [(.int sb)]) (rest := [(.int rb), (.int qb), (.ref (own_ty tb t0 t1 t2 t3 t4 t5 t6 t7 t8)), (.int nb), (.ref g__8), (.ref b_7), (.ref b_7)]) (lenOf pd_11 rfl) rfl (by show 2 * 0 + _ ≤ _; exact Nat.le_of_eq rfl) (hb hby at_342) (fun _ _ => ⟨rfl, eh_9, (by decide : 14 + 0 ≤ _), (by decide : 92 + 0 ≤ _)⟩)
  dsimp only [Pt.U, Pt.locs, Pt.cells, Pt.slots] at X_10 l_10 y_10 z_10 st_10 hQ_10
  subst l_10 y_10 z_10
  obtain ⟨rfl, N_10q, eh_10⟩ := hQ_10
  have N_10 := Fr.app N_9 N_10q
  obtain ⟨_, _, ⟨T_11, L_11, k_11, n_11⟩, -, Xc_11, hSc_11, hgr_11, ⟨Lc_11, hQ_11, l_11, y_11, z_11, CHc_11⟩, st_11⟩ := X_10.specialBackS hx (y := MN12) rfl hown_8 (mvT hZ_8 (ow hw 44 rfl)) (mvT hZ_8 (ow hw 45 rfl)) (mvT hZ_8 (ow hw 46 rfl)) (by decide) (backOfSH (W := 1) (rm_fini l Z a0 hw [] b_7 g__8 nb (own_ty tb t0 t1 t2 t3 t4 t5 t6 t7 t8) qb rb (own_st sb es0 es1 es2 es3) T_8.heap n0 Z_8 (F_name_b_7__7.keep Kc_8 nin0) (F_number_b_7__7.keep Kc_8 nin0) (F_type_b_7__7.keep Kc_8 nin0) (F_required_b_7__7.keep Kc_8 nin0) (F_repeated_b_7__7.keep Kc_8 nin0) (F_state_b_7__7.keep Kc_8 nin0) (A_7.keep Kc_8) g_b_7) hZ_8 (ow hw 46 rfl) (ow hw 5 rfl) (by decide) (by decide) (own_EW hw) CR_8.1) (g := (mkF mM 345 (lc95 p1 p2 p3 p4 sn cn ta tb qa qb ra rb sa sb nb ca0 ca1 cb0 cb1 b_2) [(.ref (own_st sb es0 es1 es2 es3)), (.int rb), (.int qb), (.ref (own_ty tb t0 t1 t2 t3 t4 t5 t6 t7 t8)), (.int nb), (.ref g__8), (.ref b_7), (.ref b_7)])) rfl (by rw [hml]; rfl) (Steps.refl _) (a := b_7) (argsL := [(.ref g__8), (.int nb), (.ref (own_ty tb t0 t1 t2 t3 t4 t5 t6 t7 t8)), (.int qb), (.int rb), (.ref (own_st sb es0 es1 es2 es3))]) (rest := [(.ref b_7)]) (lenOf pd_12 rfl) rfl (by show 2 * 0 + _ ≤ _; exact Nat.le_of_eq rfl) (hb hby at_345) (fun _ _ => ⟨rfl, eh_10, (by decide : 14 + 6 ≤ _), (by decide : 92 + 64 ≤ _)⟩)
  dsimp only [Pt.U, Pt.locs, Pt.cells, Pt.slots] at Xc_11 hSc_11 hgr_11 l_11 y_11 z_11 st_11 hQ_11 CHc_11
  subst l_11 y_11 z_11
  obtain ⟨X_11, hS_11, hZ_11, hown_11⟩ := rebS hS_8 (show _ ≤ T_10.heap.size by rw [eh_10]; exact hk_8) Xc_11 hSc_11 hgr_11 hZ_8 hown_8
  obtain ⟨rfl, N_11q, Kc_11, pfF_name_a_11, pfF_number_a_11, pfF_type_a_11, pfF_required_a_11, pfF_repeated_a_11, pfF_state_a_11, pfE_a_11⟩ := hQ_11
  have Z_11 : n0 ≤ T_11.heap.size := (Nat.le_trans Z_8 Kc_11.1)
  have K_11 : Keep h0 T_11.heap [] := K_8.trans Kc_11 (allS (Or.inr sz_b_7) all0)
  have Ca_11 := CHc_11
  have CR_11 := CR_8.trans Ca_11
  have hk_11 : _ ≤ T_11.heap.size := Nat.le_refl _
  have N_11 := Fr.app N_10 N_11q
  have St_7_1 := (own_sta_keep (own_sta_keep St_5_1 Kc_8 all0) Kc_11 (allS (own_exa_ns (A_7.keep Kc_8)) all0))
  obtain ⟨cq_14, kq_14, q_14a, q_14b, q_14c⟩ := isOf hZ_11 rfl (((pfE_a_6.ext E_7).keep Kc_8).keep Kc_11)
  obtain ⟨_, _, ⟨T_14, L_14, k_14, n_14⟩, -, X_14, ⟨Lc_14, hQ_14, l_14, y_14, z_14⟩, st_14⟩ := X_11.virtualBack hx (y := MN13) (z := MN13) hown_11 (mvT hZ_11 (ow hw 76 rfl)) (mvT hZ_11 (ow hw 77 rfl)) (notFace_of_selects (args := #[]) (mvT hZ_11 (ow hw 79 rfl))) (mvT hZ_11 (ow hw 79 rfl)) (mvT hZ_11 (ow hw 78 rfl)) (by decide) (backOf (W := 0) (rm_sd l Z a0 hw [] b_2 b_7 g__3 g__8 p1 (own_ty ta t0 t1 t2 t3 t4 t5 t6 t7 t8) (nar .boolean qa) (nar .boolean ra) nb (own_ty tb t0 t1 t2 t3 t4 t5 t6 t7 t8) (nar .boolean qb) (nar .boolean rb) d__3 d__8 (own_e2 (nar .byte ((nar .char ca0).toInt8.toInt32)) (nar .byte ((nar .char cb0).toInt8.toInt32)) (nar .byte ((nar .char ca1).toInt8.toInt32)) (nar .byte ((nar .char cb1).toInt8.toInt32))) cs T_11.heap n0 Z_11 (((pfF_name_a_6.ext E_7).keep Kc_8 nin0).keep Kc_11 (ninS (Nat.ne_of_lt (Nat.lt_of_lt_of_le pfE_a_6.lt (Nat.le_of_eq g_7.symm))) nin0)) (((pfF_number_a_6.ext E_7).keep Kc_8 nin0).keep Kc_11 (ninS (Nat.ne_of_lt (Nat.lt_of_lt_of_le pfE_a_6.lt (Nat.le_of_eq g_7.symm))) nin0)) (((pfF_type_a_6.ext E_7).keep Kc_8 nin0).keep Kc_11 (ninS (Nat.ne_of_lt (Nat.lt_of_lt_of_le pfE_a_6.lt (Nat.le_of_eq g_7.symm))) nin0)) (((pfF_required_a_6.ext E_7).keep Kc_8 nin0).keep Kc_11 (ninS (Nat.ne_of_lt (Nat.lt_of_lt_of_le pfE_a_6.lt (Nat.le_of_eq g_7.symm))) nin0)) (((pfF_repeated_a_6.ext E_7).keep Kc_8 nin0).keep Kc_11 (ninS (Nat.ne_of_lt (Nat.lt_of_lt_of_le pfE_a_6.lt (Nat.le_of_eq g_7.symm))) nin0)) pfF_name_a_11 pfF_number_a_11 pfF_type_a_11 pfF_required_a_11 pfF_repeated_a_11 ((((pfF_value_g_3.keep Kc_6 (ninS (Ne.symm (Nat.ne_of_lt (Nat.lt_of_lt_of_le A_2.lt pfsz_g_3))) nin0)).ext E_7).keep Kc_8 nin0).keep Kc_11 (ninS (Nat.ne_of_lt (Nat.lt_of_lt_of_le (pfE_g_3.keep Kc_6).lt (Nat.le_of_eq g_7.symm))) nin0)) ((((pfF_coder_g_3.keep Kc_6 (ninS (Ne.symm (Nat.ne_of_lt (Nat.lt_of_lt_of_le A_2.lt pfsz_g_3))) nin0)).ext E_7).keep Kc_8 nin0).keep Kc_11 (ninS (Nat.ne_of_lt (Nat.lt_of_lt_of_le (pfE_g_3.keep Kc_6).lt (Nat.le_of_eq g_7.symm))) nin0)) ((((pfE_g_3.keep Kc_6).ext E_7).keep Kc_8).keep Kc_11) (pfF_value_g_8.keep Kc_11 (ninS (Ne.symm (Nat.ne_of_lt (Nat.lt_of_lt_of_le A_7.lt pfsz_g_8))) nin0)) (pfF_coder_g_8.keep Kc_11 (ninS (Ne.symm (Nat.ne_of_lt (Nat.lt_of_lt_of_le A_7.lt pfsz_g_8))) nin0)) (pfE_g_8.keep Kc_11) St_7_1 hcs (rm_leq22 l Z a0 hw [] d__3 kd__3 d__8 kd__8 (nar .byte ((nar .char ca0).toInt8.toInt32)) (nar .byte ((nar .char ca1).toInt8.toInt32)) (nar .byte ((nar .char cb0).toInt8.toInt32)) (nar .byte ((nar .char cb1).toInt8.toInt32)) T_11.heap n0 Z_11 ((((pfV_d_3.keep Kc_6 (ninS (Ne.symm (Nat.ne_of_lt (Nat.lt_of_lt_of_le A_2.lt pfsz_d_3))) nin0)).ext E_7).keep Kc_8 nin0).keep Kc_11 (ninS (Nat.ne_of_lt (Nat.lt_of_lt_of_le (pfV_d_3.keep Kc_6 (ninS (Ne.symm (Nat.ne_of_lt (Nat.lt_of_lt_of_le A_2.lt pfsz_d_3))) nin0)).lt (Nat.le_of_eq g_7.symm))) nin0)) (pfV_d_8.keep Kc_11 (ninS (Ne.symm (Nat.ne_of_lt (Nat.lt_of_lt_of_le A_7.lt pfsz_d_8))) nin0))) (Nat.ne_of_lt (Nat.lt_of_lt_of_le ((pfE_g_3.keep Kc_6).ext E_7).lt pfsz_g_8))) hZ_11 (ow hw 80 rfl) (ow hw 5 rfl) (by decide) (by decide)) q_14a q_14c (g := (mkF mM 433 (lc98 p1 p2 p3 p4 sn cn ta tb qa qb ra rb sa sb nb ca0 ca1 cb0 cb1 b_2 b_7) [(.ref b_7), (.ref b_2)])) rfl (by rw [hml]; rfl) (Steps.refl _) (argsL := [(.ref b_7)]) (rest := []) (lenOf pd_13 rfl) rfl (by show 2 * 0 + _ ≤ _; exact Nat.le_of_eq rfl) (hb hby at_433) (fun _ _ => ⟨rfl, rfl, (by decide : 20 + 0 ≤ _), (by decide : 156 + 0 ≤ _)⟩)
  dsimp only [Pt.U, Pt.locs, Pt.cells, Pt.slots] at X_14 l_14 y_14 z_14 st_14 hQ_14
  subst l_14 y_14 z_14
  obtain ⟨rfl, N_14q, eh_14⟩ := hQ_14
  have N_14 := Fr.app N_11 N_14q
  obtain ⟨fs, hr, hrun, hended, hRE⟩ := X_14.leaveW hS_11 (show _ ≤ T_14.heap.size by rw [eh_14]; exact hk_11) (v := some (.int (1 : Int32))) (fun h => by rw [Bd.returns] at h; cases h)
  refine ⟨_, _, pre0 _ ?_, hrun, hended, _, _, rfl, ?_, ⟨_, rfl⟩, hRE.2.1, hRE.2.2.1, hRE.2.2.2.mono (by decide) (by decide)⟩
  · show oS pP eE below s₁ (mkF mM 0 (lc36 p1 p2 p3 p4) []) _
    refine st_1 _ ?_
    show oS pP eE below T_1 (mkF mM 283 (lc94 p1 p2 p3 p4 sn cn ta tb qa qb ra rb sa sb nb ca0 ca1 cb0 cb1) []) _
    refine st_2 _ ?_
    show oS pP eE below T_2 (mkF mM 286 (lc94 p1 p2 p3 p4 sn cn ta tb qa qb ra rb sa sb nb ca0 ca1 cb0 cb1) [(.ref b_2)]) _
    refine XS.dup X_2.here hx rfl (hb hby at_286) rfl rfl ?_
    refine XS.iload X_2.here hx rfl (hb hby at_287) rfl ?_
    refine XS.iload X_2.here hx rfl (hb hby at_289) rfl ?_
    refine XS.iload X_2.here hx rfl (hb hby at_291) rfl ?_
    show oS pP eE below T_2 (mkF mM 293 (lc94 p1 p2 p3 p4 sn cn ta tb qa qb ra rb sa sb nb ca0 ca1 cb0 cb1) [(.int ca1), (.int ca0), (.int (2 : Int32)), (.ref b_2), (.ref b_2)]) _
    refine st_3.trans ?_
    show oS pP eE below T_3 (mkF mM 296 (lc94 p1 p2 p3 p4 sn cn ta tb qa qb ra rb sa sb nb ca0 ca1 cb0 cb1) [(.ref g__3), (.ref b_2), (.ref b_2)]) _
    refine XS.iloadN X_3.here hx rfl (hb hby at_296) rfl ?_
    refine XS.iload X_3.here hx rfl (hb hby at_297) rfl ?_
    show oS pP eE below T_3 (mkF mM 299 (lc94 p1 p2 p3 p4 sn cn ta tb qa qb ra rb sa sb nb ca0 ca1 cb0 cb1) [(.int ta), (.int p1), (.ref g__3), (.ref b_2), (.ref b_2)]) _
    refine st_4 _ ?_
    show oS pP eE below T_4 (mkF mM 302 (lc94 p1 p2 p3 p4 sn cn ta tb qa qb ra rb sa sb nb ca0 ca1 cb0 cb1) [(.ref (own_ty ta t0 t1 t2 t3 t4 t5 t6 t7 t8)), (.int p1), (.ref g__3), (.ref b_2), (.ref b_2)]) _
    refine XS.iload X_4.here hx rfl (hb hby at_302) rfl ?_
    refine XS.iload X_4.here hx rfl (hb hby at_304) rfl ?_
    refine XS.iload X_4.here hx rfl (hb hby at_306) rfl ?_
    show oS pP eE below T_4 (mkF mM 308 (lc94 p1 p2 p3 p4 sn cn ta tb qa qb ra rb sa sb nb ca0 ca1 cb0 cb1) [(.int sa), (.int ra), (.int qa), (.ref (own_ty ta t0 t1 t2 t3 t4 t5 t6 t7 t8)), (.int p1), (.ref g__3), (.ref b_2), (.ref b_2)]) _
    refine st_5 _ ?_
    show oS pP eE below T_5 (mkF mM 311 (lc94 p1 p2 p3 p4 sn cn ta tb qa qb ra rb sa sb nb ca0 ca1 cb0 cb1) [(.ref (own_st sa es0 es1 es2 es3)), (.int ra), (.int qa), (.ref (own_ty ta t0 t1 t2 t3 t4 t5 t6 t7 t8)), (.int p1), (.ref g__3), (.ref b_2), (.ref b_2)]) _
    refine st_6.trans ?_
    show oS pP eE below T_6 (mkF mM 314 (lc94 p1 p2 p3 p4 sn cn ta tb qa qb ra rb sa sb nb ca0 ca1 cb0 cb1) [(.ref b_2)]) _
    refine XS.astore X_6.here hx rfl (hb hby at_314) rfl rfl (l' := (lc95 p1 p2 p3 p4 sn cn ta tb qa qb ra rb sa sb nb ca0 ca1 cb0 cb1 b_2)) rfl ?_
    show oS pP eE below T_6 (mkF mM 316 (lc95 p1 p2 p3 p4 sn cn ta tb qa qb ra rb sa sb nb ca0 ca1 cb0 cb1 b_2) []) _
    refine st_7 _ ?_
    show oS pP eE below T_7 (mkF mM 319 (lc95 p1 p2 p3 p4 sn cn ta tb qa qb ra rb sa sb nb ca0 ca1 cb0 cb1 b_2) [(.ref b_7)]) _
    refine XS.dup X_7.here hx rfl (hb hby at_319) rfl rfl ?_
    refine XS.iload X_7.here hx rfl (hb hby at_320) rfl ?_
    refine XS.iload X_7.here hx rfl (hb hby at_322) rfl ?_
    refine XS.iload X_7.here hx rfl (hb hby at_324) rfl ?_
    show oS pP eE below T_7 (mkF mM 326 (lc95 p1 p2 p3 p4 sn cn ta tb qa qb ra rb sa sb nb ca0 ca1 cb0 cb1 b_2) [(.int cb1), (.int cb0), (.int (2 : Int32)), (.ref b_7), (.ref b_7)]) _
    refine st_8.trans ?_
    show oS pP eE below T_8 (mkF mM 329 (lc95 p1 p2 p3 p4 sn cn ta tb qa qb ra rb sa sb nb ca0 ca1 cb0 cb1 b_2) [(.ref g__8), (.ref b_7), (.ref b_7)]) _
    refine XS.iload X_8.here hx rfl (hb hby at_329) rfl ?_
    refine XS.iload X_8.here hx rfl (hb hby at_331) rfl ?_
    show oS pP eE below T_8 (mkF mM 333 (lc95 p1 p2 p3 p4 sn cn ta tb qa qb ra rb sa sb nb ca0 ca1 cb0 cb1 b_2) [(.int tb), (.int nb), (.ref g__8), (.ref b_7), (.ref b_7)]) _
    refine st_9 _ ?_
    show oS pP eE below T_9 (mkF mM 336 (lc95 p1 p2 p3 p4 sn cn ta tb qa qb ra rb sa sb nb ca0 ca1 cb0 cb1 b_2) [(.ref (own_ty tb t0 t1 t2 t3 t4 t5 t6 t7 t8)), (.int nb), (.ref g__8), (.ref b_7), (.ref b_7)]) _
    refine XS.iload X_9.here hx rfl (hb hby at_336) rfl ?_
    refine XS.iload X_9.here hx rfl (hb hby at_338) rfl ?_
    refine XS.iload X_9.here hx rfl (hb hby at_340) rfl ?_
    show oS pP eE below T_9 (mkF mM 342 (lc95 p1 p2 p3 p4 sn cn ta tb qa qb ra rb sa sb nb ca0 ca1 cb0 cb1 b_2) [(.int sb), (.int rb), (.int qb), (.ref (own_ty tb t0 t1 t2 t3 t4 t5 t6 t7 t8)), (.int nb), (.ref g__8), (.ref b_7), (.ref b_7)]) _
    refine st_10 _ ?_
    show oS pP eE below T_10 (mkF mM 345 (lc95 p1 p2 p3 p4 sn cn ta tb qa qb ra rb sa sb nb ca0 ca1 cb0 cb1 b_2) [(.ref (own_st sb es0 es1 es2 es3)), (.int rb), (.int qb), (.ref (own_ty tb t0 t1 t2 t3 t4 t5 t6 t7 t8)), (.int nb), (.ref g__8), (.ref b_7), (.ref b_7)]) _
    refine st_11.trans ?_
    show oS pP eE below T_11 (mkF mM 348 (lc95 p1 p2 p3 p4 sn cn ta tb qa qb ra rb sa sb nb ca0 ca1 cb0 cb1 b_2) [(.ref b_7)]) _
    refine XS.astore X_11.here hx rfl (hb hby at_348) rfl rfl (l' := (lc96 p1 p2 p3 p4 sn cn ta tb qa qb ra rb sa sb nb ca0 ca1 cb0 cb1 b_2 b_7)) rfl ?_
    refine XS.iload X_11.here hx rfl (hb hby at_350) rfl ?_
    refine XS.iload X_11.here hx rfl (hb hby at_352) rfl ?_
    refine XS.icmpNo X_11.here hx rfl (hb hby at_354) rfl (by decide) ?_
    refine XS.iload X_11.here hx rfl (hb hby at_357) rfl ?_
    refine XS.iconst X_11.here hx rfl (hb hby at_359) ?_
    refine XS.icmpNo X_11.here hx rfl (hb hby at_360) rfl (by decide) ?_
    refine XS.iload X_11.here hx rfl (hb hby at_363) rfl ?_
    refine XS.iload X_11.here hx rfl (hb hby at_365) rfl ?_
    show oS pP eE below T_11 (mkF mM 367 (lc96 p1 p2 p3 p4 sn cn ta tb qa qb ra rb sa sb nb ca0 ca1 cb0 cb1 b_2 b_7) [(.int cb0), (.int ca0)]) _
    have jn_12 : ∀ t_, Steps pP.tables eE below (T_11.setTop (mkF mM 388 (lc96 p1 p2 p3 p4 sn cn ta tb qa qb ra rb sa sb nb ca0 ca1 cb0 cb1 b_2 b_7) [(.int (own_e2 ca0 cb0 ca1 cb1))])) t_ → Steps pP.tables eE below (T_11.setTop (mkF mM 367 (lc96 p1 p2 p3 p4 sn cn ta tb qa qb ra rb sa sb nb ca0 ca1 cb0 cb1 b_2 b_7) [(.int cb0), (.int ca0)])) t_ := by
      intro t_ kt
      by_cases hz : ca0 = cb0
      · by_cases hy : ca1 = cb1
        · have hj : (own_e2 ca0 cb0 ca1 cb1) = (1 : Int32) := if_pos ⟨hz, hy⟩
          rw [hj] at kt
          refine XS.icmpNo X_11.here hx rfl (hb hby at_367) rfl (XT.ii_ne_f hz) ?_
          refine XS.iload X_11.here hx rfl (hb hby at_370) rfl ?_
          refine XS.iconst X_11.here hx rfl (hb hby at_372) ?_
          refine XS.icmpNo X_11.here hx rfl (hb hby at_373) rfl (by decide) ?_
          refine XS.iload X_11.here hx rfl (hb hby at_376) rfl ?_
          show oS pP eE below T_11 (mkF mM 378 (lc96 p1 p2 p3 p4 sn cn ta tb qa qb ra rb sa sb nb ca0 ca1 cb0 cb1 b_2 b_7) [(.int ca1)]) _
          refine XS.iload X_11.here hx rfl (hb hby at_378) rfl ?_
          refine XS.icmpNo X_11.here hx rfl (hb hby at_380) rfl (XT.ii_ne_f hy) ?_
          refine XS.iconst X_11.here hx rfl (hb hby at_383) ?_
          refine XS.goto X_11.here hx rfl (pc0 := 384) (pc' := 388) rfl (hb hby at_384) (by decide) (by decide) ?_
          show oS pP eE below T_11 (mkF mM 388 (lc96 p1 p2 p3 p4 sn cn ta tb qa qb ra rb sa sb nb ca0 ca1 cb0 cb1 b_2 b_7) [(.int (1 : Int32))]) _
          exact kt
        · have hj : (own_e2 ca0 cb0 ca1 cb1) = (0 : Int32) := if_neg (fun z => hy z.2)
          rw [hj] at kt
          refine XS.icmpNo X_11.here hx rfl (hb hby at_367) rfl (XT.ii_ne_f hz) ?_
          refine XS.iload X_11.here hx rfl (hb hby at_370) rfl ?_
          refine XS.iconst X_11.here hx rfl (hb hby at_372) ?_
          refine XS.icmpNo X_11.here hx rfl (hb hby at_373) rfl (by decide) ?_
          refine XS.iload X_11.here hx rfl (hb hby at_376) rfl ?_
          refine XS.iload X_11.here hx rfl (hb hby at_378) rfl ?_
          refine XS.icmpYes X_11.here hx rfl (pc0 := 380) (pc' := 387) rfl (hb hby at_380) rfl (XT.ii_ne_t hy) (by decide) (by decide) ?_
          refine XS.iconst X_11.here hx rfl (hb hby at_387) ?_
          show oS pP eE below T_11 (mkF mM 388 (lc96 p1 p2 p3 p4 sn cn ta tb qa qb ra rb sa sb nb ca0 ca1 cb0 cb1 b_2 b_7) [(.int (0 : Int32))]) _
          exact kt
      · have hj : (own_e2 ca0 cb0 ca1 cb1) = (0 : Int32) := if_neg (fun z => hz z.1)
        rw [hj] at kt
        refine XS.icmpYes X_11.here hx rfl (pc0 := 367) (pc' := 387) rfl (hb hby at_367) rfl (XT.ii_ne_t hz) (by decide) (by decide) ?_
        refine XS.iconst X_11.here hx rfl (hb hby at_387) ?_
        show oS pP eE below T_11 (mkF mM 388 (lc96 p1 p2 p3 p4 sn cn ta tb qa qb ra rb sa sb nb ca0 ca1 cb0 cb1 b_2 b_7) [(.int (0 : Int32))]) _
        exact kt
    refine jn_12 _ ?_
    show oS pP eE below T_11 (mkF mM 388 (lc96 p1 p2 p3 p4 sn cn ta tb qa qb ra rb sa sb nb ca0 ca1 cb0 cb1 b_2 b_7) [(.int (own_e2 ca0 cb0 ca1 cb1))]) _
    refine XS.istore X_11.here hx rfl (hb hby at_388) rfl (l' := (lc97 p1 p2 p3 p4 sn cn ta tb qa qb ra rb sa sb nb ca0 ca1 cb0 cb1 b_2 b_7)) rfl ?_
    refine XS.iload X_11.here hx rfl (hb hby at_390) rfl ?_
    show oS pP eE below T_11 (mkF mM 392 (lc97 p1 p2 p3 p4 sn cn ta tb qa qb ra rb sa sb nb ca0 ca1 cb0 cb1 b_2 b_7) [(.int (own_e2 ca0 cb0 ca1 cb1))]) _
    have jn_13 : ∀ t_, Steps pP.tables eE below (T_11.setTop (mkF mM 427 (lc97 p1 p2 p3 p4 sn cn ta tb qa qb ra rb sa sb nb ca0 ca1 cb0 cb1 b_2 b_7) [(.int (own_ex (own_e2 ca0 cb0 ca1 cb1) p1 nb ta tb qa qb ra rb))])) t_ → Steps pP.tables eE below (T_11.setTop (mkF mM 392 (lc97 p1 p2 p3 p4 sn cn ta tb qa qb ra rb sa sb nb ca0 ca1 cb0 cb1 b_2 b_7) [(.int (own_e2 ca0 cb0 ca1 cb1))])) t_ := by
      intro t_ kt
      by_cases k0 : (own_e2 ca0 cb0 ca1 cb1) = 0
      · have hj : (own_ex (own_e2 ca0 cb0 ca1 cb1) p1 nb ta tb qa qb ra rb) = (0 : Int32) := if_neg (fun z => z.1 k0)
        rw [hj] at kt
        refine XS.ifYes X_11.here hx rfl (pc0 := 392) (pc' := 426) rfl (hb hby at_392) rfl (XT.i0_eq_t k0) (by decide) (by decide) ?_
        refine XS.iconst X_11.here hx rfl (hb hby at_426) ?_
        show oS pP eE below T_11 (mkF mM 427 (lc97 p1 p2 p3 p4 sn cn ta tb qa qb ra rb sa sb nb ca0 ca1 cb0 cb1 b_2 b_7) [(.int (0 : Int32))]) _
        exact kt
      · by_cases k1 : p1 = nb
        · by_cases k2 : ta = tb
          · by_cases k3 : qa = qb
            · by_cases k4 : ra = rb
              · have hj : (own_ex (own_e2 ca0 cb0 ca1 cb1) p1 nb ta tb qa qb ra rb) = (1 : Int32) := if_pos ⟨k0, k1, k2, k3, k4⟩
                rw [hj] at kt
                refine XS.ifNo X_11.here hx rfl (hb hby at_392) rfl (XT.i0_eq_f k0) ?_
                refine XS.iloadN X_11.here hx rfl (hb hby at_395) rfl ?_
                refine XS.iload X_11.here hx rfl (hb hby at_396) rfl ?_
                refine XS.icmpNo X_11.here hx rfl (hb hby at_398) rfl (XT.ii_ne_f k1) ?_
                refine XS.iload X_11.here hx rfl (hb hby at_401) rfl ?_
                refine XS.iload X_11.here hx rfl (hb hby at_403) rfl ?_
                refine XS.icmpNo X_11.here hx rfl (hb hby at_405) rfl (XT.ii_ne_f k2) ?_
                refine XS.iload X_11.here hx rfl (hb hby at_408) rfl ?_
                refine XS.iload X_11.here hx rfl (hb hby at_410) rfl ?_
                refine XS.icmpNo X_11.here hx rfl (hb hby at_412) rfl (XT.ii_ne_f k3) ?_
                show oS pP eE below T_11 (mkF mM 415 (lc97 p1 p2 p3 p4 sn cn ta tb qa qb ra rb sa sb nb ca0 ca1 cb0 cb1 b_2 b_7) []) _
                refine XS.iload X_11.here hx rfl (hb hby at_415) rfl ?_
                refine XS.iload X_11.here hx rfl (hb hby at_417) rfl ?_
                refine XS.icmpNo X_11.here hx rfl (hb hby at_419) rfl (XT.ii_ne_f k4) ?_
                refine XS.iconst X_11.here hx rfl (hb hby at_422) ?_
                refine XS.goto X_11.here hx rfl (pc0 := 423) (pc' := 427) rfl (hb hby at_423) (by decide) (by decide) ?_
                show oS pP eE below T_11 (mkF mM 427 (lc97 p1 p2 p3 p4 sn cn ta tb qa qb ra rb sa sb nb ca0 ca1 cb0 cb1 b_2 b_7) [(.int (1 : Int32))]) _
                exact kt
              · have hj : (own_ex (own_e2 ca0 cb0 ca1 cb1) p1 nb ta tb qa qb ra rb) = (0 : Int32) := if_neg (fun z => k4 z.2.2.2.2)
                rw [hj] at kt
                refine XS.ifNo X_11.here hx rfl (hb hby at_392) rfl (XT.i0_eq_f k0) ?_
                refine XS.iloadN X_11.here hx rfl (hb hby at_395) rfl ?_
                refine XS.iload X_11.here hx rfl (hb hby at_396) rfl ?_
                refine XS.icmpNo X_11.here hx rfl (hb hby at_398) rfl (XT.ii_ne_f k1) ?_
                refine XS.iload X_11.here hx rfl (hb hby at_401) rfl ?_
                refine XS.iload X_11.here hx rfl (hb hby at_403) rfl ?_
                refine XS.icmpNo X_11.here hx rfl (hb hby at_405) rfl (XT.ii_ne_f k2) ?_
                refine XS.iload X_11.here hx rfl (hb hby at_408) rfl ?_
                refine XS.iload X_11.here hx rfl (hb hby at_410) rfl ?_
                show oS pP eE below T_11 (mkF mM 412 (lc97 p1 p2 p3 p4 sn cn ta tb qa qb ra rb sa sb nb ca0 ca1 cb0 cb1 b_2 b_7) [(.int qb), (.int qa)]) _
                refine XS.icmpNo X_11.here hx rfl (hb hby at_412) rfl (XT.ii_ne_f k3) ?_
                refine XS.iload X_11.here hx rfl (hb hby at_415) rfl ?_
                refine XS.iload X_11.here hx rfl (hb hby at_417) rfl ?_
                refine XS.icmpYes X_11.here hx rfl (pc0 := 419) (pc' := 426) rfl (hb hby at_419) rfl (XT.ii_ne_t k4) (by decide) (by decide) ?_
                refine XS.iconst X_11.here hx rfl (hb hby at_426) ?_
                show oS pP eE below T_11 (mkF mM 427 (lc97 p1 p2 p3 p4 sn cn ta tb qa qb ra rb sa sb nb ca0 ca1 cb0 cb1 b_2 b_7) [(.int (0 : Int32))]) _
                exact kt
            · have hj : (own_ex (own_e2 ca0 cb0 ca1 cb1) p1 nb ta tb qa qb ra rb) = (0 : Int32) := if_neg (fun z => k3 z.2.2.2.1)
              rw [hj] at kt
              refine XS.ifNo X_11.here hx rfl (hb hby at_392) rfl (XT.i0_eq_f k0) ?_
              refine XS.iloadN X_11.here hx rfl (hb hby at_395) rfl ?_
              refine XS.iload X_11.here hx rfl (hb hby at_396) rfl ?_
              refine XS.icmpNo X_11.here hx rfl (hb hby at_398) rfl (XT.ii_ne_f k1) ?_
              refine XS.iload X_11.here hx rfl (hb hby at_401) rfl ?_
              refine XS.iload X_11.here hx rfl (hb hby at_403) rfl ?_
              refine XS.icmpNo X_11.here hx rfl (hb hby at_405) rfl (XT.ii_ne_f k2) ?_
              refine XS.iload X_11.here hx rfl (hb hby at_408) rfl ?_
              refine XS.iload X_11.here hx rfl (hb hby at_410) rfl ?_
              show oS pP eE below T_11 (mkF mM 412 (lc97 p1 p2 p3 p4 sn cn ta tb qa qb ra rb sa sb nb ca0 ca1 cb0 cb1 b_2 b_7) [(.int qb), (.int qa)]) _
              refine XS.icmpYes X_11.here hx rfl (pc0 := 412) (pc' := 426) rfl (hb hby at_412) rfl (XT.ii_ne_t k3) (by decide) (by decide) ?_
              refine XS.iconst X_11.here hx rfl (hb hby at_426) ?_
              show oS pP eE below T_11 (mkF mM 427 (lc97 p1 p2 p3 p4 sn cn ta tb qa qb ra rb sa sb nb ca0 ca1 cb0 cb1 b_2 b_7) [(.int (0 : Int32))]) _
              exact kt
          · have hj : (own_ex (own_e2 ca0 cb0 ca1 cb1) p1 nb ta tb qa qb ra rb) = (0 : Int32) := if_neg (fun z => k2 z.2.2.1)
            rw [hj] at kt
            refine XS.ifNo X_11.here hx rfl (hb hby at_392) rfl (XT.i0_eq_f k0) ?_
            refine XS.iloadN X_11.here hx rfl (hb hby at_395) rfl ?_
            refine XS.iload X_11.here hx rfl (hb hby at_396) rfl ?_
            refine XS.icmpNo X_11.here hx rfl (hb hby at_398) rfl (XT.ii_ne_f k1) ?_
            refine XS.iload X_11.here hx rfl (hb hby at_401) rfl ?_
            refine XS.iload X_11.here hx rfl (hb hby at_403) rfl ?_
            refine XS.icmpYes X_11.here hx rfl (pc0 := 405) (pc' := 426) rfl (hb hby at_405) rfl (XT.ii_ne_t k2) (by decide) (by decide) ?_
            refine XS.iconst X_11.here hx rfl (hb hby at_426) ?_
            show oS pP eE below T_11 (mkF mM 427 (lc97 p1 p2 p3 p4 sn cn ta tb qa qb ra rb sa sb nb ca0 ca1 cb0 cb1 b_2 b_7) [(.int (0 : Int32))]) _
            exact kt
        · have hj : (own_ex (own_e2 ca0 cb0 ca1 cb1) p1 nb ta tb qa qb ra rb) = (0 : Int32) := if_neg (fun z => k1 z.2.1)
          rw [hj] at kt
          refine XS.ifNo X_11.here hx rfl (hb hby at_392) rfl (XT.i0_eq_f k0) ?_
          refine XS.iloadN X_11.here hx rfl (hb hby at_395) rfl ?_
          refine XS.iload X_11.here hx rfl (hb hby at_396) rfl ?_
          refine XS.icmpYes X_11.here hx rfl (pc0 := 398) (pc' := 426) rfl (hb hby at_398) rfl (XT.ii_ne_t k1) (by decide) (by decide) ?_
          show oS pP eE below T_11 (mkF mM 426 (lc97 p1 p2 p3 p4 sn cn ta tb qa qb ra rb sa sb nb ca0 ca1 cb0 cb1 b_2 b_7) []) _
          refine XS.iconst X_11.here hx rfl (hb hby at_426) ?_
          show oS pP eE below T_11 (mkF mM 427 (lc97 p1 p2 p3 p4 sn cn ta tb qa qb ra rb sa sb nb ca0 ca1 cb0 cb1 b_2 b_7) [(.int (0 : Int32))]) _
          exact kt
    refine jn_13 _ ?_
    refine XS.istore X_11.here hx rfl (hb hby at_427) rfl (l' := (lc98 p1 p2 p3 p4 sn cn ta tb qa qb ra rb sa sb nb ca0 ca1 cb0 cb1 b_2 b_7)) rfl ?_
    refine XS.aload X_11.here hx rfl (hb hby at_429) rfl rfl ?_
    refine XS.aload X_11.here hx rfl (hb hby at_431) rfl rfl ?_
    show oS pP eE below T_11 (mkF mM 433 (lc98 p1 p2 p3 p4 sn cn ta tb qa qb ra rb sa sb nb ca0 ca1 cb0 cb1 b_2 b_7) [(.ref b_7), (.ref b_2)]) _
    refine st_14.trans ?_
    show oS pP eE below T_14 (mkF mM 436 (lc98 p1 p2 p3 p4 sn cn ta tb qa qb ra rb sa sb nb ca0 ca1 cb0 cb1 b_2 b_7) [(.int (own_sd (own_nz (own_e2 (nar .byte ((nar .char ca0).toInt8.toInt32)) (nar .byte ((nar .char cb0).toInt8.toInt32)) (nar .byte ((nar .char ca1).toInt8.toInt32)) (nar .byte ((nar .char cb1).toInt8.toInt32)))) p1 nb (own_ty ta t0 t1 t2 t3 t4 t5 t6 t7 t8) (own_ty tb t0 t1 t2 t3 t4 t5 t6 t7 t8) (nar .boolean qa) (nar .boolean qb) (nar .boolean ra) (nar .boolean rb)))]) _
    refine XS.iload X_14.here hx rfl (hb hby at_436) rfl ?_
    refine XS.icmpNo X_14.here hx rfl (hb hby at_438) rfl (XT.ii_ne_f hfin) ?_
    refine XS.iconst X_14.here hx rfl (hb hby at_441) ?_
    refine XS.goto X_14.here hx rfl (pc0 := 442) (pc' := 446) rfl (hb hby at_442) (by decide) (by decide) ?_
    show oS pP eE below T_14 (mkF mM 446 (lc98 p1 p2 p3 p4 sn cn ta tb qa qb ra rb sa sb nb ca0 ca1 cb0 cb1 b_2 b_7) [(.int (1 : Int32))]) _
    exact retN X_14 hx (t := .boolean) Bd.returns (by simp) (hb hby at_446) hr
  · show Q_law22 Z p1 p2 p3 p4 sn cn qa qb ra rb ta sa sb ca0 ca1 tb nb cb0 cb1 t0 t1 t2 t3 t4 t5 t6 t7 t8 es0 es1 es2 es3 cs h0 n0 _ T_14.heap _
    exact ⟨rfl, N_14⟩
set_option maxRecDepth 65536 in
set_option maxHeartbeats 40000000 in
theorem comes_1 {Post : Tables → Env → Array Value → State → Outcome → State → Prop} (hpost : ∀ tb e args s v u, (limb_1_1.after args s (.returned v) u = true ∧ limb_1_2.after args s (.returned v) u = true ∧ True) → ReturnedEndW s (.returned v) u (Jvm.fieldLocs frame_1_writes args s ++ Jvm.arrayLocs frame_1_arrays args s ++ Jvm.staticLocs frame_1_statics s) 32 4288 → Post tb e args s (.returned v) u) :
    ArmFor flags0 classFile x code maxLocals ret World_1 tables_1 room_1 Calls_1 rest_1 Pre_1 Post := by
  intro l hfl _ _ p e ha hc hk s m args below hf hA hF happ hP
  obtain ⟨hcalls, hrest, hpre⟩ := hP
  obtain ⟨-, -, -, hnamed, -, -, -, hat⟩ := (Spec.applies_iff hf).mp happ
  obtain ⟨hg, hn⟩ := and_e (Cond.before_iff.mp (show (Jvm.Cond.and given_1 narrow_1).before args s = true from hpre))
  obtain ⟨hg1, hg2⟩ := and_e hg
  obtain ⟨hg3, hg4⟩ := and_e hg2
  obtain ⟨hg5, hg6⟩ := and_e hg4
  obtain ⟨hg7, hg8⟩ := and_e hg6
  obtain ⟨w0, w1, w2, w3, rfl⟩ : ∃ w0 w1 w2 w3 : Value, args = #[w0, w1, w2, w3] := by
    have hs : args.size = 4 := by simpa [Cond.value, given_1] using hg1
    obtain ⟨L⟩ := args
    match L, hs with
    | [w0, w1, w2, w3], _ => exact ⟨w0, w1, w2, w3, rfl⟩
  obtain ⟨i0, ei0⟩ := is_v hg3
  obtain rfl : w0 = (.int i0) := Option.some.inj ei0
  obtain ⟨i1, ei1⟩ := is_v hg5
  obtain rfl : w1 = (.int i1) := Option.some.inj ei1
  obtain ⟨i2, ei2⟩ := isL_v hg7
  obtain rfl : w2 = (.long i2) := Option.some.inj ei2
  obtain ⟨i3, ei3⟩ := isL_v hg8
  obtain rfl : w3 = (.long i3) := Option.some.inj ei3
  have hw := fun d (hd : d ∈ tables_1) => atoms_spec (ws := Jvm.Cond.code x code maxLocals ret :: tables_1) hat d (List.mem_cons_of_mem _ hd)
  have hfit : Fit s := fun {y c} hc i hi => by
    obtain ⟨ha, rfl⟩ := Array.getElem?_eq_some_iff.mp hc
    have q := List.all_eq_true.mp ((Array.all_eq_true_iff_forall_mem.mp hF) _ (Array.getElem_mem ha)) i (List.mem_range.mpr hi)
    simpa [Array.getElem?_eq_getElem hi] using q
  obtain ⟨hsets, hown0⟩ := atoms_of _ (rest_1_c_eq ▸ (show rest_1_c.before _ s = true from hrest))
  obtain ⟨hn1, hn2⟩ := and_e hn
  obtain ⟨hn3, hn4⟩ := and_e hn2
  obtain ⟨hn5, hn6⟩ := and_e hn4
  obtain ⟨hn7, hn8⟩ := and_e hn6
  obtain ⟨hn9, hn10⟩ := and_e hn8
  obtain ⟨hn11, hn12⟩ := and_e hn10
  obtain ⟨hn13, hn14⟩ := and_e hn12
  obtain ⟨hn15, hn16⟩ := and_e hn14
  obtain ⟨hn17, hn18⟩ := and_e hn16
  obtain ⟨hn19, hn20⟩ := and_e hn18
  obtain ⟨hn21, hn22⟩ := and_e hn20
  obtain ⟨hn23, hn24⟩ := and_e hn22
  obtain ⟨hn25, hn26⟩ := and_e hn24
  obtain ⟨hn27, hn28⟩ := and_e hn26
  obtain ⟨hn29, hn30⟩ := and_e hn28
  obtain ⟨hn31, hn32⟩ := and_e hn30
  obtain ⟨hn33, hn34⟩ := and_e hn32
  obtain ⟨hn35, hn36⟩ := and_e hn34
  obtain ⟨hn37, hn38⟩ := and_e hn36
  obtain ⟨hn39, hn40⟩ := and_e hn38
  obtain ⟨hn41, hn42⟩ := and_e hn40
  obtain ⟨x_FieldType_BOOL, ev_x_FieldType_BOOL⟩ := exa_v hn1
  have E_x_FieldType_BOOL := Exa.start ev_x_FieldType_BOOL hn1
  have S_FieldType_BOOL := Sta.start ev_x_FieldType_BOOL (Or.inr ⟨(ow hw 36 rfl), (ow hw 37 rfl)⟩)
  obtain ⟨x_ElementState_WRITE_ONLY, ev_x_ElementState_WRITE_ONLY⟩ := exa_v hn3
  have E_x_ElementState_WRITE_ONLY := Exa.start ev_x_ElementState_WRITE_ONLY hn3
  have S_ElementState_WRITE_ONLY := Sta.start ev_x_ElementState_WRITE_ONLY (Or.inr ⟨(ow hw 42 rfl), (ow hw 43 rfl)⟩)
  obtain ⟨x_FieldType_INT64, ev_x_FieldType_INT64⟩ := exa_v hn5
  have E_x_FieldType_INT64 := Exa.start ev_x_FieldType_INT64 hn5
  have S_FieldType_INT64 := Sta.start ev_x_FieldType_INT64 (Or.inr ⟨(ow hw 36 rfl), (ow hw 73 rfl)⟩)
  obtain ⟨x_ElementState_ABSENT, ev_x_ElementState_ABSENT⟩ := exa_v hn7
  have E_x_ElementState_ABSENT := Exa.start ev_x_ElementState_ABSENT hn7
  have S_ElementState_ABSENT := Sta.start ev_x_ElementState_ABSENT (Or.inr ⟨(ow hw 42 rfl), (ow hw 75 rfl)⟩)
  obtain ⟨x_ElementState_DELETE_ONLY, ev_x_ElementState_DELETE_ONLY⟩ := exa_v hn9
  have E_x_ElementState_DELETE_ONLY := Exa.start ev_x_ElementState_DELETE_ONLY hn9
  have S_ElementState_DELETE_ONLY := Sta.start ev_x_ElementState_DELETE_ONLY (Or.inr ⟨(ow hw 42 rfl), (ow hw 93 rfl)⟩)
  obtain ⟨x_FieldType_DOUBLE, ev_x_FieldType_DOUBLE⟩ := exa_v hn11
  have E_x_FieldType_DOUBLE := Exa.start ev_x_FieldType_DOUBLE hn11
  have S_FieldType_DOUBLE := Sta.start ev_x_FieldType_DOUBLE (Or.inr ⟨(ow hw 36 rfl), (ow hw 95 rfl)⟩)
  have F_x_FieldType_DOUBLE_ordinal := own_fld ev_x_FieldType_DOUBLE (own_eqi hn13)
  have F_x_FieldType_BOOL_ordinal := own_fld ev_x_FieldType_BOOL (own_eqi hn15)
  obtain ⟨x_FieldType_STRING, ev_x_FieldType_STRING⟩ := exa_v hn17
  have E_x_FieldType_STRING := Exa.start ev_x_FieldType_STRING hn17
  have S_FieldType_STRING := Sta.start ev_x_FieldType_STRING (Or.inr ⟨(ow hw 36 rfl), (ow hw 97 rfl)⟩)
  obtain ⟨x_FieldType_SINT64, ev_x_FieldType_SINT64⟩ := exa_v hn19
  have E_x_FieldType_SINT64 := Exa.start ev_x_FieldType_SINT64 hn19
  have S_FieldType_SINT64 := Sta.start ev_x_FieldType_SINT64 (Or.inr ⟨(ow hw 36 rfl), (ow hw 109 rfl)⟩)
  obtain ⟨x_ElementState_PUBLIC, ev_x_ElementState_PUBLIC⟩ := exa_v hn21
  have E_x_ElementState_PUBLIC := Exa.start ev_x_ElementState_PUBLIC hn21
  have S_ElementState_PUBLIC := Sta.start ev_x_ElementState_PUBLIC (Or.inr ⟨(ow hw 42 rfl), (ow hw 111 rfl)⟩)
  obtain ⟨x_FieldType_BYTES, ev_x_FieldType_BYTES⟩ := exa_v hn23
  have E_x_FieldType_BYTES := Exa.start ev_x_FieldType_BYTES hn23
  have S_FieldType_BYTES := Sta.start ev_x_FieldType_BYTES (Or.inr ⟨(ow hw 36 rfl), (ow hw 113 rfl)⟩)
  have F_x_FieldType_BYTES_ordinal := own_fld ev_x_FieldType_BYTES (own_eqi hn25)
  obtain ⟨x_FieldType_INT32, ev_x_FieldType_INT32⟩ := exa_v hn27
  have E_x_FieldType_INT32 := Exa.start ev_x_FieldType_INT32 hn27
  have S_FieldType_INT32 := Sta.start ev_x_FieldType_INT32 (Or.inr ⟨(ow hw 36 rfl), (ow hw 115 rfl)⟩)
  have F_x_FieldType_SINT64_ordinal := own_fld ev_x_FieldType_SINT64 (own_eqi hn29)
  have F_x_FieldType_INT32_ordinal := own_fld ev_x_FieldType_INT32 (own_eqi hn31)
  have F_x_FieldType_STRING_ordinal := own_fld ev_x_FieldType_STRING (own_eqi hn33)
  obtain ⟨x_FieldType_SINT32, ev_x_FieldType_SINT32⟩ := exa_v hn35
  have E_x_FieldType_SINT32 := Exa.start ev_x_FieldType_SINT32 hn35
  have S_FieldType_SINT32 := Sta.start ev_x_FieldType_SINT32 (Or.inr ⟨(ow hw 36 rfl), (ow hw 117 rfl)⟩)
  have F_x_FieldType_INT64_ordinal := own_fld ev_x_FieldType_INT64 (own_eqi hn37)
  obtain ⟨x_FieldType_FLOAT, ev_x_FieldType_FLOAT⟩ := exa_v hn39
  have E_x_FieldType_FLOAT := Exa.start ev_x_FieldType_FLOAT hn39
  have S_FieldType_FLOAT := Sta.start ev_x_FieldType_FLOAT (Or.inr ⟨(ow hw 36 rfl), (ow hw 119 rfl)⟩)
  have F_x_FieldType_SINT32_ordinal := own_fld ev_x_FieldType_SINT32 (own_eqi hn41)
  have F_x_FieldType_FLOAT_ordinal := own_fld ev_x_FieldType_FLOAT (own_eqi hn42)
  obtain ⟨cs, ecs⟩ := is_v (Cond.before_iff.mp (hsets _ (List.mem_of_getElem? (i := 1) rfl)))
  have S1 := Sta.start ecs (Or.inl (hsets _ (List.mem_of_getElem? (i := 0) rfl)))
  have hcs : ¬ cs = 0 := fun q => by
    have h2 := not_v (Cond.before_iff.mp (hsets _ (List.mem_of_getElem? (i := 2) rfl)))
    have h3 := eq_i ecs (Term.int_eval (0)) (congrArg Value.int q) (o := none) (first := s)
    rw [h3] at h2; cases h2
  have hCH := CHv.start (own_EW hw) (fun q hq => by rw [List.mem_singleton.mp hq]; exact hcalls.1 _ (List.mem_of_getElem? (i := 3) rfl)) (hsets _ (List.mem_of_getElem? (i := 2) rfl)) (ow hw 25 rfl) (ow hw 11 rfl)
  obtain ⟨sn, h_sn⟩ : ∃ z, z = (own_nzL (i3 &&& (1 : Int64))) := ⟨_, rfl⟩
  obtain ⟨cn, h_cn⟩ : ∃ z, z = (own_nzL ((XT.ushrL i3 (1 : Int32)) &&& (1 : Int64))) := ⟨_, rfl⟩
  obtain ⟨qa, h_qa⟩ : ∃ z, z = (own_nzL ((XT.ushrL i3 (10 : Int32)) &&& (1 : Int64))) := ⟨_, rfl⟩
  obtain ⟨qb, h_qb⟩ : ∃ z, z = (own_nzL ((XT.ushrL i3 (11 : Int32)) &&& (1 : Int64))) := ⟨_, rfl⟩
  obtain ⟨ra, h_ra⟩ : ∃ z, z = (own_nzL ((XT.ushrL i3 (12 : Int32)) &&& (1 : Int64))) := ⟨_, rfl⟩
  obtain ⟨rb, h_rb⟩ : ∃ z, z = (own_nzL ((XT.ushrL i3 (13 : Int32)) &&& (1 : Int64))) := ⟨_, rfl⟩
  obtain ⟨ta, h_ta⟩ : ∃ z, ((((XT.ushrL i3 (2 : Int32)) &&& (15 : Int64)).toInt32) % (9 : Int32)) = z := ⟨_, rfl⟩
  obtain ⟨sa, h_sa⟩ : ∃ z, (((XT.ushrL i3 (14 : Int32)) &&& (3 : Int64)).toInt32) = z := ⟨_, rfl⟩
  obtain ⟨sb, h_sb⟩ : ∃ z, (((XT.ushrL i3 (16 : Int32)) &&& (3 : Int64)).toInt32) = z := ⟨_, rfl⟩
  obtain ⟨ca0, h_ca0⟩ : ∃ z, (((i2 &&& (255 : Int64)).toInt32).toUInt32.toUInt16.toUInt32.toInt32) = z := ⟨_, rfl⟩
  obtain ⟨ca1, h_ca1⟩ : ∃ z, ((((XT.ushrL i2 (8 : Int32)) &&& (255 : Int64)).toInt32).toUInt32.toUInt16.toUInt32.toInt32) = z := ⟨_, rfl⟩
  obtain ⟨tb, h_tb⟩ : ∃ z, z = (if ((XT.ushrL i3 (18 : Int32)) &&& (1 : Int64)) = (0 : Int64) then ((((XT.ushrL i3 (6 : Int32)) &&& (15 : Int64)).toInt32) % (9 : Int32)) else ta) := ⟨_, rfl⟩
  obtain ⟨nb, h_nb⟩ : ∃ z, z = (if sn = 0 then i1 else i0) := ⟨_, rfl⟩
  obtain ⟨cb0, h_cb0⟩ : ∃ z, z = (if cn = 0 then ((((XT.ushrL i2 (16 : Int32)) &&& (255 : Int64)).toInt32).toUInt32.toUInt16.toUInt32.toInt32) else ca0) := ⟨_, rfl⟩
  obtain ⟨cb1, h_cb1⟩ : ∃ z, z = (if cn = 0 then ((((XT.ushrL i2 (24 : Int32)) &&& (255 : Int64)).toInt32).toUInt32.toUInt16.toUInt32.toInt32) else ca1) := ⟨_, rfl⟩
  have hta9 := own_t9 (XT.ushrL i3 (2 : Int32))
  rw [h_ta] at hta9
  have htb9 : own_in9 tb := by
    rw [h_tb]; split
    · exact own_t9 _
    · exact hta9
  have hty : own_ty ta x_FieldType_STRING x_FieldType_BYTES x_FieldType_BOOL x_FieldType_INT32 x_FieldType_INT64 x_FieldType_SINT32 x_FieldType_SINT64 x_FieldType_DOUBLE x_FieldType_FLOAT = own_ty tb x_FieldType_STRING x_FieldType_BYTES x_FieldType_BOOL x_FieldType_INT32 x_FieldType_INT64 x_FieldType_SINT32 x_FieldType_SINT64 x_FieldType_DOUBLE x_FieldType_FLOAT ↔ ta = tb := own_tyinj F_x_FieldType_STRING_ordinal F_x_FieldType_BYTES_ordinal F_x_FieldType_BOOL_ordinal F_x_FieldType_INT32_ordinal F_x_FieldType_INT64_ordinal F_x_FieldType_SINT32_ordinal F_x_FieldType_SINT64_ordinal F_x_FieldType_DOUBLE_ordinal F_x_FieldType_FLOAT_ordinal hta9 htb9
  have hA0 : own_ch ca0 := by rw [← h_ca0]; exact own_chL _
  have hA1 : own_ch ca1 := by rw [← h_ca1]; exact own_chL _
  have hB0 : own_ch cb0 := by
    rw [h_cb0]; split
    · exact own_chL _
    · exact hA0
  have hB1 : own_ch cb1 := by
    rw [h_cb1]; split
    · exact own_chL _
    · exact hA1
  have hqa := own_nzb h_qa
  have hqb := own_nzb h_qb
  have hra := own_nzb h_ra
  have hrb := own_nzb h_rb
  rcases own_t3 (XT.ushrL i2 (32 : Int32)) with hla | hla | hla
  · rcases own_t3 (XT.ushrL i2 (34 : Int32)) with hlb | hlb | hlb
    · obtain ⟨n, o, h1, h2, h3, _, L, rfl, ⟨rfl, N⟩, hq⟩ := rm_law00 l s _ hw tables_1 i0 i1 i2 i3 sn cn qa qb ra rb ta sa sb ca0 ca1 tb nb cb0 cb1 x_FieldType_STRING x_FieldType_BYTES x_FieldType_BOOL x_FieldType_INT32 x_FieldType_INT64 x_FieldType_SINT32 x_FieldType_SINT64 x_FieldType_DOUBLE x_FieldType_FLOAT x_ElementState_ABSENT x_ElementState_DELETE_ONLY x_ElementState_WRITE_ONLY x_ElementState_PUBLIC cs s.heap s.heap.size (Nat.le_refl _) ⟨h_sn, h_cn, h_qa, h_qb, h_ra, h_rb, h_ta, h_sa, h_sb, h_ca0, h_ca1, hla, hlb, h_tb, h_nb, h_cb0, h_cb1⟩ S1 hcs S_FieldType_STRING S_FieldType_BYTES S_FieldType_BOOL S_FieldType_INT32 S_FieldType_INT64 S_FieldType_SINT32 S_FieldType_SINT64 S_FieldType_DOUBLE S_FieldType_FLOAT S_ElementState_ABSENT S_ElementState_DELETE_ONLY S_ElementState_WRITE_ONLY S_ElementState_PUBLIC hA0 hA1 hB0 hB1 (own_sdx (own_n0) hty hqa hqb hra hrb) p e ha hc hk s m _ below hf ((Spec.applies_iff_loose hf).mp happ).1 ⟨rfl, State.Warmed39.refl s, rfl, hCH⟩ trivial
      exact ⟨n, _, h1, h2, h3, hpost _ _ _ _ _ _ ⟨Cond.after_iff.mpr rfl, Cond.after_iff.mpr (eq_i res_at (Term.int_eval (1)) rfl), trivial⟩ ⟨hq.1, hq.2.1, hq.2.2.1, (hq.2.2.2.sift fun y hy => Or.inr (N y hy)).mono (by decide) (by decide)⟩⟩
    · obtain ⟨n, o, h1, h2, h3, _, L, rfl, ⟨rfl, N⟩, hq⟩ := rm_law01 l s _ hw tables_1 i0 i1 i2 i3 sn cn qa qb ra rb ta sa sb ca0 ca1 tb nb cb0 cb1 x_FieldType_STRING x_FieldType_BYTES x_FieldType_BOOL x_FieldType_INT32 x_FieldType_INT64 x_FieldType_SINT32 x_FieldType_SINT64 x_FieldType_DOUBLE x_FieldType_FLOAT x_ElementState_ABSENT x_ElementState_DELETE_ONLY x_ElementState_WRITE_ONLY x_ElementState_PUBLIC cs s.heap s.heap.size (Nat.le_refl _) ⟨h_sn, h_cn, h_qa, h_qb, h_ra, h_rb, h_ta, h_sa, h_sb, h_ca0, h_ca1, hla, hlb, h_tb, h_nb, h_cb0, h_cb1⟩ S1 hcs S_FieldType_STRING S_FieldType_BYTES S_FieldType_BOOL S_FieldType_INT32 S_FieldType_INT64 S_FieldType_SINT32 S_FieldType_SINT64 S_FieldType_DOUBLE S_FieldType_FLOAT S_ElementState_ABSENT S_ElementState_DELETE_ONLY S_ElementState_WRITE_ONLY S_ElementState_PUBLIC hA0 hA1 hB0 hB1 (own_sd0 _ _ _ _ _ _ _ _) p e ha hc hk s m _ below hf ((Spec.applies_iff_loose hf).mp happ).1 ⟨rfl, State.Warmed39.refl s, rfl, hCH⟩ trivial
      exact ⟨n, _, h1, h2, h3, hpost _ _ _ _ _ _ ⟨Cond.after_iff.mpr rfl, Cond.after_iff.mpr (eq_i res_at (Term.int_eval (1)) rfl), trivial⟩ ⟨hq.1, hq.2.1, hq.2.2.1, (hq.2.2.2.sift fun y hy => Or.inr (N y hy)).mono (by decide) (by decide)⟩⟩
    · obtain ⟨n, o, h1, h2, h3, _, L, rfl, ⟨rfl, N⟩, hq⟩ := rm_law02 l s _ hw tables_1 i0 i1 i2 i3 sn cn qa qb ra rb ta sa sb ca0 ca1 tb nb cb0 cb1 x_FieldType_STRING x_FieldType_BYTES x_FieldType_BOOL x_FieldType_INT32 x_FieldType_INT64 x_FieldType_SINT32 x_FieldType_SINT64 x_FieldType_DOUBLE x_FieldType_FLOAT x_ElementState_ABSENT x_ElementState_DELETE_ONLY x_ElementState_WRITE_ONLY x_ElementState_PUBLIC cs s.heap s.heap.size (Nat.le_refl _) ⟨h_sn, h_cn, h_qa, h_qb, h_ra, h_rb, h_ta, h_sa, h_sb, h_ca0, h_ca1, hla, hlb, h_tb, h_nb, h_cb0, h_cb1⟩ S1 hcs S_FieldType_STRING S_FieldType_BYTES S_FieldType_BOOL S_FieldType_INT32 S_FieldType_INT64 S_FieldType_SINT32 S_FieldType_SINT64 S_FieldType_DOUBLE S_FieldType_FLOAT S_ElementState_ABSENT S_ElementState_DELETE_ONLY S_ElementState_WRITE_ONLY S_ElementState_PUBLIC hA0 hA1 hB0 hB1 (own_sd0 _ _ _ _ _ _ _ _) p e ha hc hk s m _ below hf ((Spec.applies_iff_loose hf).mp happ).1 ⟨rfl, State.Warmed39.refl s, rfl, hCH⟩ trivial
      exact ⟨n, _, h1, h2, h3, hpost _ _ _ _ _ _ ⟨Cond.after_iff.mpr rfl, Cond.after_iff.mpr (eq_i res_at (Term.int_eval (1)) rfl), trivial⟩ ⟨hq.1, hq.2.1, hq.2.2.1, (hq.2.2.2.sift fun y hy => Or.inr (N y hy)).mono (by decide) (by decide)⟩⟩
  · rcases own_t3 (XT.ushrL i2 (34 : Int32)) with hlb | hlb | hlb
    · obtain ⟨n, o, h1, h2, h3, _, L, rfl, ⟨rfl, N⟩, hq⟩ := rm_law10 l s _ hw tables_1 i0 i1 i2 i3 sn cn qa qb ra rb ta sa sb ca0 ca1 tb nb cb0 cb1 x_FieldType_STRING x_FieldType_BYTES x_FieldType_BOOL x_FieldType_INT32 x_FieldType_INT64 x_FieldType_SINT32 x_FieldType_SINT64 x_FieldType_DOUBLE x_FieldType_FLOAT x_ElementState_ABSENT x_ElementState_DELETE_ONLY x_ElementState_WRITE_ONLY x_ElementState_PUBLIC cs s.heap s.heap.size (Nat.le_refl _) ⟨h_sn, h_cn, h_qa, h_qb, h_ra, h_rb, h_ta, h_sa, h_sb, h_ca0, h_ca1, hla, hlb, h_tb, h_nb, h_cb0, h_cb1⟩ S1 hcs S_FieldType_STRING S_FieldType_BYTES S_FieldType_BOOL S_FieldType_INT32 S_FieldType_INT64 S_FieldType_SINT32 S_FieldType_SINT64 S_FieldType_DOUBLE S_FieldType_FLOAT S_ElementState_ABSENT S_ElementState_DELETE_ONLY S_ElementState_WRITE_ONLY S_ElementState_PUBLIC hA0 hA1 hB0 hB1 (own_sd0 _ _ _ _ _ _ _ _) p e ha hc hk s m _ below hf ((Spec.applies_iff_loose hf).mp happ).1 ⟨rfl, State.Warmed39.refl s, rfl, hCH⟩ trivial
      exact ⟨n, _, h1, h2, h3, hpost _ _ _ _ _ _ ⟨Cond.after_iff.mpr rfl, Cond.after_iff.mpr (eq_i res_at (Term.int_eval (1)) rfl), trivial⟩ ⟨hq.1, hq.2.1, hq.2.2.1, (hq.2.2.2.sift fun y hy => Or.inr (N y hy)).mono (by decide) (by decide)⟩⟩
    · obtain ⟨n, o, h1, h2, h3, _, L, rfl, ⟨rfl, N⟩, hq⟩ := rm_law11 l s _ hw tables_1 i0 i1 i2 i3 sn cn qa qb ra rb ta sa sb ca0 ca1 tb nb cb0 cb1 x_FieldType_STRING x_FieldType_BYTES x_FieldType_BOOL x_FieldType_INT32 x_FieldType_INT64 x_FieldType_SINT32 x_FieldType_SINT64 x_FieldType_DOUBLE x_FieldType_FLOAT x_ElementState_ABSENT x_ElementState_DELETE_ONLY x_ElementState_WRITE_ONLY x_ElementState_PUBLIC cs s.heap s.heap.size (Nat.le_refl _) ⟨h_sn, h_cn, h_qa, h_qb, h_ra, h_rb, h_ta, h_sa, h_sb, h_ca0, h_ca1, hla, hlb, h_tb, h_nb, h_cb0, h_cb1⟩ S1 hcs S_FieldType_STRING S_FieldType_BYTES S_FieldType_BOOL S_FieldType_INT32 S_FieldType_INT64 S_FieldType_SINT32 S_FieldType_SINT64 S_FieldType_DOUBLE S_FieldType_FLOAT S_ElementState_ABSENT S_ElementState_DELETE_ONLY S_ElementState_WRITE_ONLY S_ElementState_PUBLIC hA0 hA1 hB0 hB1 (own_sdx (own_n1 hA0 hB0) hty hqa hqb hra hrb) p e ha hc hk s m _ below hf ((Spec.applies_iff_loose hf).mp happ).1 ⟨rfl, State.Warmed39.refl s, rfl, hCH⟩ trivial
      exact ⟨n, _, h1, h2, h3, hpost _ _ _ _ _ _ ⟨Cond.after_iff.mpr rfl, Cond.after_iff.mpr (eq_i res_at (Term.int_eval (1)) rfl), trivial⟩ ⟨hq.1, hq.2.1, hq.2.2.1, (hq.2.2.2.sift fun y hy => Or.inr (N y hy)).mono (by decide) (by decide)⟩⟩
    · obtain ⟨n, o, h1, h2, h3, _, L, rfl, ⟨rfl, N⟩, hq⟩ := rm_law12 l s _ hw tables_1 i0 i1 i2 i3 sn cn qa qb ra rb ta sa sb ca0 ca1 tb nb cb0 cb1 x_FieldType_STRING x_FieldType_BYTES x_FieldType_BOOL x_FieldType_INT32 x_FieldType_INT64 x_FieldType_SINT32 x_FieldType_SINT64 x_FieldType_DOUBLE x_FieldType_FLOAT x_ElementState_ABSENT x_ElementState_DELETE_ONLY x_ElementState_WRITE_ONLY x_ElementState_PUBLIC cs s.heap s.heap.size (Nat.le_refl _) ⟨h_sn, h_cn, h_qa, h_qb, h_ra, h_rb, h_ta, h_sa, h_sb, h_ca0, h_ca1, hla, hlb, h_tb, h_nb, h_cb0, h_cb1⟩ S1 hcs S_FieldType_STRING S_FieldType_BYTES S_FieldType_BOOL S_FieldType_INT32 S_FieldType_INT64 S_FieldType_SINT32 S_FieldType_SINT64 S_FieldType_DOUBLE S_FieldType_FLOAT S_ElementState_ABSENT S_ElementState_DELETE_ONLY S_ElementState_WRITE_ONLY S_ElementState_PUBLIC hA0 hA1 hB0 hB1 (own_sd0 _ _ _ _ _ _ _ _) p e ha hc hk s m _ below hf ((Spec.applies_iff_loose hf).mp happ).1 ⟨rfl, State.Warmed39.refl s, rfl, hCH⟩ trivial
      exact ⟨n, _, h1, h2, h3, hpost _ _ _ _ _ _ ⟨Cond.after_iff.mpr rfl, Cond.after_iff.mpr (eq_i res_at (Term.int_eval (1)) rfl), trivial⟩ ⟨hq.1, hq.2.1, hq.2.2.1, (hq.2.2.2.sift fun y hy => Or.inr (N y hy)).mono (by decide) (by decide)⟩⟩
  · rcases own_t3 (XT.ushrL i2 (34 : Int32)) with hlb | hlb | hlb
    · obtain ⟨n, o, h1, h2, h3, _, L, rfl, ⟨rfl, N⟩, hq⟩ := rm_law20 l s _ hw tables_1 i0 i1 i2 i3 sn cn qa qb ra rb ta sa sb ca0 ca1 tb nb cb0 cb1 x_FieldType_STRING x_FieldType_BYTES x_FieldType_BOOL x_FieldType_INT32 x_FieldType_INT64 x_FieldType_SINT32 x_FieldType_SINT64 x_FieldType_DOUBLE x_FieldType_FLOAT x_ElementState_ABSENT x_ElementState_DELETE_ONLY x_ElementState_WRITE_ONLY x_ElementState_PUBLIC cs s.heap s.heap.size (Nat.le_refl _) ⟨h_sn, h_cn, h_qa, h_qb, h_ra, h_rb, h_ta, h_sa, h_sb, h_ca0, h_ca1, hla, hlb, h_tb, h_nb, h_cb0, h_cb1⟩ S1 hcs S_FieldType_STRING S_FieldType_BYTES S_FieldType_BOOL S_FieldType_INT32 S_FieldType_INT64 S_FieldType_SINT32 S_FieldType_SINT64 S_FieldType_DOUBLE S_FieldType_FLOAT S_ElementState_ABSENT S_ElementState_DELETE_ONLY S_ElementState_WRITE_ONLY S_ElementState_PUBLIC hA0 hA1 hB0 hB1 (own_sd0 _ _ _ _ _ _ _ _) p e ha hc hk s m _ below hf ((Spec.applies_iff_loose hf).mp happ).1 ⟨rfl, State.Warmed39.refl s, rfl, hCH⟩ trivial
      exact ⟨n, _, h1, h2, h3, hpost _ _ _ _ _ _ ⟨Cond.after_iff.mpr rfl, Cond.after_iff.mpr (eq_i res_at (Term.int_eval (1)) rfl), trivial⟩ ⟨hq.1, hq.2.1, hq.2.2.1, (hq.2.2.2.sift fun y hy => Or.inr (N y hy)).mono (by decide) (by decide)⟩⟩
    · obtain ⟨n, o, h1, h2, h3, _, L, rfl, ⟨rfl, N⟩, hq⟩ := rm_law21 l s _ hw tables_1 i0 i1 i2 i3 sn cn qa qb ra rb ta sa sb ca0 ca1 tb nb cb0 cb1 x_FieldType_STRING x_FieldType_BYTES x_FieldType_BOOL x_FieldType_INT32 x_FieldType_INT64 x_FieldType_SINT32 x_FieldType_SINT64 x_FieldType_DOUBLE x_FieldType_FLOAT x_ElementState_ABSENT x_ElementState_DELETE_ONLY x_ElementState_WRITE_ONLY x_ElementState_PUBLIC cs s.heap s.heap.size (Nat.le_refl _) ⟨h_sn, h_cn, h_qa, h_qb, h_ra, h_rb, h_ta, h_sa, h_sb, h_ca0, h_ca1, hla, hlb, h_tb, h_nb, h_cb0, h_cb1⟩ S1 hcs S_FieldType_STRING S_FieldType_BYTES S_FieldType_BOOL S_FieldType_INT32 S_FieldType_INT64 S_FieldType_SINT32 S_FieldType_SINT64 S_FieldType_DOUBLE S_FieldType_FLOAT S_ElementState_ABSENT S_ElementState_DELETE_ONLY S_ElementState_WRITE_ONLY S_ElementState_PUBLIC hA0 hA1 hB0 hB1 (own_sd0 _ _ _ _ _ _ _ _) p e ha hc hk s m _ below hf ((Spec.applies_iff_loose hf).mp happ).1 ⟨rfl, State.Warmed39.refl s, rfl, hCH⟩ trivial
      exact ⟨n, _, h1, h2, h3, hpost _ _ _ _ _ _ ⟨Cond.after_iff.mpr rfl, Cond.after_iff.mpr (eq_i res_at (Term.int_eval (1)) rfl), trivial⟩ ⟨hq.1, hq.2.1, hq.2.2.1, (hq.2.2.2.sift fun y hy => Or.inr (N y hy)).mono (by decide) (by decide)⟩⟩
    · obtain ⟨n, o, h1, h2, h3, _, L, rfl, ⟨rfl, N⟩, hq⟩ := rm_law22 l s _ hw tables_1 i0 i1 i2 i3 sn cn qa qb ra rb ta sa sb ca0 ca1 tb nb cb0 cb1 x_FieldType_STRING x_FieldType_BYTES x_FieldType_BOOL x_FieldType_INT32 x_FieldType_INT64 x_FieldType_SINT32 x_FieldType_SINT64 x_FieldType_DOUBLE x_FieldType_FLOAT x_ElementState_ABSENT x_ElementState_DELETE_ONLY x_ElementState_WRITE_ONLY x_ElementState_PUBLIC cs s.heap s.heap.size (Nat.le_refl _) ⟨h_sn, h_cn, h_qa, h_qb, h_ra, h_rb, h_ta, h_sa, h_sb, h_ca0, h_ca1, hla, hlb, h_tb, h_nb, h_cb0, h_cb1⟩ S1 hcs S_FieldType_STRING S_FieldType_BYTES S_FieldType_BOOL S_FieldType_INT32 S_FieldType_INT64 S_FieldType_SINT32 S_FieldType_SINT64 S_FieldType_DOUBLE S_FieldType_FLOAT S_ElementState_ABSENT S_ElementState_DELETE_ONLY S_ElementState_WRITE_ONLY S_ElementState_PUBLIC hA0 hA1 hB0 hB1 (own_sdx (own_n2 hA0 hB0 hA1 hB1) hty hqa hqb hra hrb) p e ha hc hk s m _ below hf ((Spec.applies_iff_loose hf).mp happ).1 ⟨rfl, State.Warmed39.refl s, rfl, hCH⟩ trivial
      exact ⟨n, _, h1, h2, h3, hpost _ _ _ _ _ _ ⟨Cond.after_iff.mpr rfl, Cond.after_iff.mpr (eq_i res_at (Term.int_eval (1)) rfl), trivial⟩ ⟨hq.1, hq.2.1, hq.2.2.1, (hq.2.2.2.sift fun y hy => Or.inr (N y hy)).mono (by decide) (by decide)⟩⟩
theorem main_1_1 : Claimed_1_1 := comes_1 fun _ _ _ _ _ _ h hF => ⟨h.1, hF⟩
theorem main_1_2 : Claimed_1_2 := comes_1 fun _ _ _ _ _ _ h hF => ⟨h.2.1, hF⟩
end Jvm.Pilot.@@N@@
namespace Jvm.Pilot.@@N@@
open Jvm Jvm.ClassFile Sem Op Lib Jvm.Free Jvm.Stand Jvm.Pilot.@@N@@.Jvm.D
/-! MADE BY PROGRAM (witnessworld.py) out of the Statement's table words and the real class files: 25 classes; the members and pool entries that the words name. The judged class is class 1, her method 4. -/
namespace start1
open Jvm.ClassFile
def u (s : String) : CpInfo := .utf8 (stringToUtf16 s)
/-- a pool by its gaps: so many unusable entries, then the entry; so many at the end -/
def gap : Nat → List CpInfo → List CpInfo
  | 0, r => r
  | n + 1, r => .unusable :: gap n r
def poolList (es : List (Nat × CpInfo)) (last : Nat) : List CpInfo := es.foldr (fun e r => gap e.1 (e.2 :: r)) (gap last [])
def pool (es : List (Nat × CpInfo)) (last : Nat) : Array CpInfo := ⟨poolList es last⟩
def fileOf (pool : Array CpInfo) (this : Nat) (attrs : Array Attribute := #[]) (ms : Array MethodInfo := #[]) (fl : Nat := 33) (sup : Nat := 0) (ifs : Array Nat := #[]) (fds : Array FieldInfo := #[]) : ClassFile where
  minorVersion := 0
  majorVersion := 65
  constantPool := pool
  accessFlags := fl
  thisClass := this
  superClass := sup
  interfaces := ifs
  fields := fds
  methods := ms
  attributes := attrs
def plain (name : String) (sup : Option ClassId) : Class where
  name := name
  kind := .ordinary
  loader := none
  accessFlags := 33
  super := sup
  interfaces := #[]
  cf := none
  fields := #[]
  methods := #[]
  instanceTypes := #[]
  staticTypes := #[]
  resolved := #[]
  callSites := []
  init := .initialized
  statics := none
  mirror := none

def pool0 : Array CpInfo := pool [(5, u "<init>"), (0, u "()V"), (1, .class_ 10), (1, u "java/lang/Object")] 113

def k0c0 : Code := { maxStack := 0, maxLocals := 1, code := object_method_1_code, exceptionTable := #[], attributes := #[] }
def k0m0 : Method := { name := "<init>", desc := "()V", sig := { parameters := [], returnType := none }, accessFlags := 1, code := some k0c0 }
/-- java/lang/Object -/
def k0 : Class := { plain "java/lang/Object" none with
  accessFlags := 33
  interfaces := #[]
  cf := some (fileOf pool0 8 #[] #[{ accessFlags := 1, nameIndex := 5, descriptorIndex := 6, attributes := #[] }] 33 0 #[] #[])
  fields := #[]
  methods := #[k0m0]
  instanceTypes := #[]
  staticTypes := #[]
  resolved := Array.replicate 124 none
  statics := none }

def pool1 : Array CpInfo := pool [(2, .class_ 4), (1, u "java/lang/Object"), (0, u "<init>"), (0, u "()V"), (0, .class_ 8), (0, u "java/lang/String"), (0, .methodref 7 10), (0, .nameAndType 5 11), (0, u "([C)V"), (0, .fieldref 13 14), (0, .class_ 15), (0, .nameAndType 16 17), (0, u "com/example/rolling_rung/rollingrung/schema/FieldType"), (0, u "STRING"), (0, u "Lcom/example/rolling_rung/rollingrung/schema/FieldType;"), (0, .fieldref 13 19), (0, .nameAndType 20 17), (0, u "BYTES"), (0, .fieldref 13 22), (0, .nameAndType 23 17), (0, u "BOOL"), (0, .fieldref 13 25), (0, .nameAndType 26 17), (0, u "INT32"), (0, .fieldref 13 28), (0, .nameAndType 29 17), (0, u "INT64"), (0, .fieldref 13 31), (0, .nameAndType 32 17), (0, u "SINT32"), (0, .fieldref 13 34), (0, .nameAndType 35 17), (0, u "SINT64"), (0, .fieldref 13 37), (0, .nameAndType 38 17), (0, u "DOUBLE"), (0, .fieldref 13 40), (0, .nameAndType 41 17), (0, u "FLOAT"), (0, .fieldref 43 44), (0, .class_ 45), (0, .nameAndType 46 47), (0, u "com/example/rolling_rung/rollingrung/schema/ElementState"), (0, u "ABSENT"), (0, u "Lcom/example/rolling_rung/rollingrung/schema/ElementState;"), (0, .fieldref 43 49), (0, .nameAndType 50 47), (0, u "DELETE_ONLY"), (0, .fieldref 43 52), (0, .nameAndType 53 47), (0, u "WRITE_ONLY"), (0, .fieldref 43 55), (0, .nameAndType 56 47), (0, u "PUBLIC"), (0, .long 15), (1, .long 3), (1, .long 255), (1, .class_ 64), (0, u "com/example/rolling_rung/rollingrung/schema/Field"), (0, .methodref 66 67), (0, .class_ 68), (0, .nameAndType 69 70), (0, u "com/example/rolling_rung/rollingrung/schema/FieldSameDefinitionPinLaw"), (0, u "str"), (0, u "(ICC)Ljava/lang/String;"), (0, .methodref 66 72), (0, .nameAndType 73 74), (0, u "type"), (0, u "(I)Lcom/example/rolling_rung/rollingrung/schema/FieldType;"), (0, .methodref 66 76), (0, .nameAndType 77 78), (0, u "state"), (0, u "(I)Lcom/example/rolling_rung/rollingrung/schema/ElementState;"), (0, .methodref 63 80), (0, .nameAndType 5 81), (0, u "(Ljava/lang/String;ILcom/example/rolling_rung/rollingrung/schema/FieldType;ZZLcom/example/rolling_rung/rollingrung/schema/ElementState;)V"), (0, .methodref 63 83), (0, .nameAndType 84 85), (0, u "sameDefinition"), (0, u "(Lcom/example/rolling_rung/rollingrung/schema/Field;)Z"), (3, u "law"), (0, u "(IIJJ)Z")] 2

def k1m0 : Method := { name := "<init>", desc := "()V", sig := { parameters := [], returnType := none }, accessFlags := 2, code := none }
def k1c1 : Code := { maxStack := 6, maxLocals := 3, code := method_2_code, exceptionTable := #[], attributes := #[] }
def k1m1 : Method := { name := "str", desc := "(ICC)Ljava/lang/String;", sig := { parameters := [.int, .char, .char], returnType := some (.object "java/lang/String") }, accessFlags := 10, code := some k1c1 }
def k1c2 : Code := { maxStack := 2, maxLocals := 1, code := method_3_code, exceptionTable := #[], attributes := #[] }
def k1m2 : Method := { name := "type", desc := "(I)Lcom/example/rolling_rung/rollingrung/schema/FieldType;", sig := { parameters := [.int], returnType := some (.object "com/example/rolling_rung/rollingrung/schema/FieldType") }, accessFlags := 10, code := some k1c2 }
def k1c3 : Code := { maxStack := 2, maxLocals := 1, code := method_4_code, exceptionTable := #[], attributes := #[] }
def k1m3 : Method := { name := "state", desc := "(I)Lcom/example/rolling_rung/rollingrung/schema/ElementState;", sig := { parameters := [.int], returnType := some (.object "com/example/rolling_rung/rollingrung/schema/ElementState") }, accessFlags := 10, code := some k1c3 }
def k1c4 : Code := { maxStack := 8, maxLocals := 27, code := code, exceptionTable := #[], attributes := #[] }
def k1m4 : Method := { name := "law", desc := "(IIJJ)Z", sig := { parameters := [.int, .int, .long, .long], returnType := some .boolean }, accessFlags := 9, code := some k1c4 }
/-- com/example/rolling_rung/rollingrung/schema/FieldSameDefinitionPinLaw -/
def k1 : Class := { plain "com/example/rolling_rung/rollingrung/schema/FieldSameDefinitionPinLaw" (some 0) with
  accessFlags := 49
  interfaces := #[]
  cf := some (fileOf pool1 66 #[] #[{ accessFlags := 2, nameIndex := 5, descriptorIndex := 6, attributes := #[] }, { accessFlags := 10, nameIndex := 69, descriptorIndex := 70, attributes := #[] }, { accessFlags := 10, nameIndex := 73, descriptorIndex := 74, attributes := #[] }, { accessFlags := 10, nameIndex := 77, descriptorIndex := 78, attributes := #[] }, { accessFlags := 9, nameIndex := 89, descriptorIndex := 90, attributes := #[] }] 49 2 #[] #[])
  fields := #[]
  methods := #[k1m0, k1m1, k1m2, k1m3, k1m4]
  instanceTypes := #[]
  staticTypes := #[]
  resolved := Array.replicate 93 none
  statics := none }

def pool2 : Array CpInfo := pool [(1, .methodref 2 3), (0, .class_ 4), (0, .nameAndType 5 6), (0, u "java/lang/Object"), (0, u "<init>"), (0, u "()V"), (0, .class_ 8), (0, u "java/lang/Record")] 13

def k2c0 : Code := { maxStack := 1, maxLocals := 1, code := jdk_30_method_1_code, exceptionTable := #[], attributes := #[] }
def k2m0 : Method := { name := "<init>", desc := "()V", sig := { parameters := [], returnType := none }, accessFlags := 4, code := some k2c0 }
/-- java/lang/Record -/
def k2 : Class := { plain "java/lang/Record" (some 0) with
  accessFlags := 1057
  interfaces := #[]
  cf := some (fileOf pool2 7 #[] #[{ accessFlags := 4, nameIndex := 5, descriptorIndex := 6, attributes := #[] }] 1057 2 #[] #[])
  fields := #[]
  methods := #[k2m0]
  instanceTypes := #[]
  staticTypes := #[]
  resolved := Array.replicate 22 none
  statics := none }

def pool3 : Array CpInfo := pool [(1, .methodref 2 3), (0, .class_ 4), (0, .nameAndType 5 6), (0, u "java/lang/Record"), (0, u "<init>"), (0, u "()V"), (0, .string 8), (0, u "name"), (0, .methodref 10 11), (0, .class_ 12), (0, .nameAndType 13 14), (0, u "java/util/Objects"), (0, u "requireNonNull"), (0, u "(Ljava/lang/Object;Ljava/lang/String;)Ljava/lang/Object;"), (0, .string 16), (0, u "type"), (0, .string 18), (0, u "state"), (0, .fieldref 20 21), (0, .class_ 22), (0, .nameAndType 8 23), (0, u "com/example/rolling_rung/rollingrung/schema/Field"), (0, u "Ljava/lang/String;"), (0, .fieldref 20 25), (0, .nameAndType 26 27), (0, u "number"), (0, u "I"), (0, .fieldref 20 29), (0, .nameAndType 16 30), (0, u "Lcom/example/rolling_rung/rollingrung/schema/FieldType;"), (0, .fieldref 20 32), (0, .nameAndType 33 34), (0, u "required"), (0, u "Z"), (0, .fieldref 20 36), (0, .nameAndType 37 34), (0, u "repeated"), (0, .fieldref 20 39), (0, .nameAndType 18 40), (0, u "Lcom/example/rolling_rung/rollingrung/schema/ElementState;"), (2, u "(Ljava/lang/String;ILcom/example/rolling_rung/rollingrung/schema/FieldType;ZZLcom/example/rolling_rung/rollingrung/schema/ElementState;)V"), (0, .methodref 45 46), (0, .class_ 47), (0, .nameAndType 48 49), (0, u "java/lang/String"), (0, u "equals"), (0, u "(Ljava/lang/Object;)Z"), (16, u "sameDefinition"), (0, u "(Lcom/example/rolling_rung/rollingrung/schema/Field;)Z")] 31

def k3c0 : Code := { maxStack := 2, maxLocals := 7, code := prog_32_method_1_code, exceptionTable := #[], attributes := #[] }
def k3m0 : Method := { name := "<init>", desc := "(Ljava/lang/String;ILcom/example/rolling_rung/rollingrung/schema/FieldType;ZZLcom/example/rolling_rung/rollingrung/schema/ElementState;)V", sig := { parameters := [(.object "java/lang/String"), .int, (.object "com/example/rolling_rung/rollingrung/schema/FieldType"), .boolean, .boolean, (.object "com/example/rolling_rung/rollingrung/schema/ElementState")], returnType := none }, accessFlags := 1, code := some k3c0 }
def k3c1 : Code := { maxStack := 2, maxLocals := 2, code := prog_32_method_3_code, exceptionTable := #[], attributes := #[] }
def k3m1 : Method := { name := "sameDefinition", desc := "(Lcom/example/rolling_rung/rollingrung/schema/Field;)Z", sig := { parameters := [(.object "com/example/rolling_rung/rollingrung/schema/Field")], returnType := some .boolean }, accessFlags := 1, code := some k3c1 }
/-- com/example/rolling_rung/rollingrung/schema/Field -/
def k3 : Class := { plain "com/example/rolling_rung/rollingrung/schema/Field" (some 2) with
  accessFlags := 49
  interfaces := #[]
  cf := some (fileOf pool3 20 #[] #[{ accessFlags := 1, nameIndex := 5, descriptorIndex := 43, attributes := #[] }, { accessFlags := 1, nameIndex := 66, descriptorIndex := 67, attributes := #[] }] 49 2 #[] #[{ accessFlags := 18, nameIndex := 8, descriptorIndex := 23, attributes := #[] }, { accessFlags := 18, nameIndex := 26, descriptorIndex := 27, attributes := #[] }, { accessFlags := 18, nameIndex := 16, descriptorIndex := 30, attributes := #[] }, { accessFlags := 18, nameIndex := 33, descriptorIndex := 34, attributes := #[] }, { accessFlags := 18, nameIndex := 37, descriptorIndex := 34, attributes := #[] }, { accessFlags := 18, nameIndex := 18, descriptorIndex := 40, attributes := #[] }])
  fields := #[{ name := "name", type := (.object "java/lang/String"), accessFlags := 18, slot := 0, constantValue := 0 }, { name := "number", type := .int, accessFlags := 18, slot := 1, constantValue := 0 }, { name := "type", type := (.object "com/example/rolling_rung/rollingrung/schema/FieldType"), accessFlags := 18, slot := 2, constantValue := 0 }, { name := "required", type := .boolean, accessFlags := 18, slot := 3, constantValue := 0 }, { name := "repeated", type := .boolean, accessFlags := 18, slot := 4, constantValue := 0 }, { name := "state", type := (.object "com/example/rolling_rung/rollingrung/schema/ElementState"), accessFlags := 18, slot := 5, constantValue := 0 }]
  methods := #[k3m0, k3m1]
  instanceTypes := #[(.object "java/lang/String"), .int, (.object "com/example/rolling_rung/rollingrung/schema/FieldType"), .boolean, .boolean, (.object "com/example/rolling_rung/rollingrung/schema/ElementState")]
  staticTypes := #[]
  resolved := Array.replicate 99 none
  statics := none }

def pool4 : Array CpInfo := pool [(1, .class_ 2), (0, u "java/io/Serializable"), (0, .class_ 4), (0, u "java/lang/Object")] 2

/-- java/io/Serializable -/
def k4 : Class := { plain "java/io/Serializable" (some 0) with
  accessFlags := 1537
  interfaces := #[]
  cf := some (fileOf pool4 1 #[] #[] 1537 3 #[] #[])
  fields := #[]
  methods := #[]
  instanceTypes := #[]
  staticTypes := #[]
  resolved := Array.replicate 7 none
  statics := none }

def pool5 : Array CpInfo := pool [(1, .class_ 2), (0, u "java/lang/Comparable"), (0, .class_ 4), (0, u "java/lang/Object")] 7

/-- java/lang/Comparable -/
def k5 : Class := { plain "java/lang/Comparable" (some 0) with
  accessFlags := 1537
  interfaces := #[]
  cf := some (fileOf pool5 1 #[] #[] 1537 3 #[] #[])
  fields := #[]
  methods := #[]
  instanceTypes := #[]
  staticTypes := #[]
  resolved := Array.replicate 12 none
  statics := none }

def pool6 : Array CpInfo := pool [(2, .class_ 4), (1, u "java/lang/CharSequence"), (42, .class_ 48), (0, u "java/lang/CharSequence$1CodePointIterator"), (10, .class_ 60), (0, u "java/lang/CharSequence$1CharIterator"), (5, .class_ 67), (0, u "java/lang/Object")] 63

/-- java/lang/CharSequence -/
def k6 : Class := { plain "java/lang/CharSequence" (some 0) with
  accessFlags := 1537
  interfaces := #[]
  cf := some (fileOf pool6 2 #[.nestMembers #[47, 59]] #[] 1537 66 #[] #[])
  fields := #[]
  methods := #[]
  instanceTypes := #[]
  staticTypes := #[]
  resolved := Array.replicate 131 none
  statics := none }

def pool7 : Array CpInfo := pool [(1, .class_ 2), (0, u "java/lang/constant/Constable"), (0, .class_ 4), (0, u "java/lang/Object")] 6

/-- java/lang/constant/Constable -/
def k7 : Class := { plain "java/lang/constant/Constable" (some 0) with
  accessFlags := 1537
  interfaces := #[]
  cf := some (fileOf pool7 1 #[] #[] 1537 3 #[] #[])
  fields := #[]
  methods := #[]
  instanceTypes := #[]
  staticTypes := #[]
  resolved := Array.replicate 11 none
  statics := none }

def pool8 : Array CpInfo := pool [(1, .class_ 2), (0, u "java/lang/constant/ConstantDesc"), (0, .class_ 4), (0, u "java/lang/Object")] 32

/-- java/lang/constant/ConstantDesc -/
def k8 : Class := { plain "java/lang/constant/ConstantDesc" (some 0) with
  accessFlags := 1537
  interfaces := #[]
  cf := some (fileOf pool8 1 #[] #[] 1537 3 #[] #[])
  fields := #[]
  methods := #[]
  instanceTypes := #[]
  staticTypes := #[]
  resolved := Array.replicate 37 none
  statics := none }

def pool9 : Array CpInfo := pool [(1, .methodref 2 3), (0, .class_ 4), (0, .nameAndType 5 6), (0, u "java/lang/Object"), (0, u "<init>"), (0, u "()V"), (0, .string 8), (0, u ""), (0, .fieldref 10 11), (0, .class_ 12), (0, .nameAndType 13 14), (0, u "java/lang/String"), (0, u "value"), (0, u "[B"), (0, .fieldref 10 16), (0, .nameAndType 17 18), (0, u "coder"), (0, u "B"), (2, u "hash"), (0, u "I"), (2, u "hashIsZero"), (0, u "Z"), (0, .methodref 10 28), (0, .nameAndType 5 29), (0, u "([CIILjava/lang/Void;)V"), (8, .fieldref 10 39), (0, .nameAndType 40 26), (0, u "COMPACT_STRINGS"), (1, .class_ 44), (1, u "java/lang/StringUTF16"), (0, u "compress"), (1, .methodref 42 48), (0, .nameAndType 49 50), (0, u "coderFromArrayLen"), (0, u "([BI)B"), (56, .class_ 109), (1, u "java/lang/StringLatin1"), (67, .methodref 42 178), (0, .nameAndType 45 179), (0, u "([CII)[B"), (361, .methodref 107 542), (0, .nameAndType 543 544), (0, u "equals"), (0, u "([B[B)Z"), (28, u "(Ljava/lang/Object;)Z"), (1, .class_ 576), (0, u "java/lang/CharSequence"), (22, u "CASE_INSENSITIVE_ORDER"), (0, u "Ljava/util/Comparator;"), (409, u "([C)V"), (90, u "serialPersistentFields"), (0, u "[Ljava/io/ObjectStreamField;"), (0, .class_ 1104), (0, u "java/lang/String$CaseInsensitiveComparator"), (1, .class_ 1107), (0, u "java/io/Serializable"), (0, .class_ 1109), (0, u "java/lang/Comparable"), (0, .class_ 1111), (0, u "java/lang/constant/Constable"), (0, .class_ 1113), (0, u "java/lang/constant/ConstantDesc"), (2, u "serialVersionUID"), (0, u "J"), (3, u "REPL"), (0, u "C"), (2, u "LATIN1"), (1, u "UTF16")] 323

def k9m0 : Method := { name := "<init>", desc := "()V", sig := { parameters := [], returnType := none }, accessFlags := 1, code := none }
def k9c1 : Code := { maxStack := 5, maxLocals := 2, code := jdk_42_method_3_code, exceptionTable := #[], attributes := #[] }
def k9m1 : Method := { name := "<init>", desc := "([C)V", sig := { parameters := [(.array .char)], returnType := none }, accessFlags := 1, code := some k9c1 }
def k9c2 : Code := { maxStack := 2, maxLocals := 3, code := jdk_42_method_66_code, exceptionTable := #[], attributes := #[] }
def k9m2 : Method := { name := "equals", desc := "(Ljava/lang/Object;)Z", sig := { parameters := [(.object "java/lang/Object")], returnType := some .boolean }, accessFlags := 1, code := some k9c2 }
def k9c3 : Code := { maxStack := 4, maxLocals := 6, code := jdk_42_method_149_code, exceptionTable := #[], attributes := #[] }
def k9m3 : Method := { name := "<init>", desc := "([CIILjava/lang/Void;)V", sig := { parameters := [(.array .char), .int, .int, (.object "java/lang/Void")], returnType := none }, accessFlags := 2, code := some k9c3 }
/-- java/lang/String -/
def k9 : Class := { plain "java/lang/String" (some 0) with
  accessFlags := 49
  interfaces := #[4, 5, 6, 7, 8]
  cf := some (fileOf pool9 10 #[.nestMembers #[1103]] #[{ accessFlags := 1, nameIndex := 5, descriptorIndex := 6, attributes := #[] }, { accessFlags := 1, nameIndex := 5, descriptorIndex := 1010, attributes := #[] }, { accessFlags := 1, nameIndex := 543, descriptorIndex := 573, attributes := #[] }, { accessFlags := 2, nameIndex := 5, descriptorIndex := 29, attributes := #[] }] 49 2 #[1106, 1108, 575, 1110, 1112] #[{ accessFlags := 18, nameIndex := 13, descriptorIndex := 14, attributes := #[] }, { accessFlags := 18, nameIndex := 17, descriptorIndex := 18, attributes := #[] }, { accessFlags := 2, nameIndex := 21, descriptorIndex := 22, attributes := #[] }, { accessFlags := 2, nameIndex := 25, descriptorIndex := 26, attributes := #[] }, { accessFlags := 26, nameIndex := 1116, descriptorIndex := 1117, attributes := #[] }, { accessFlags := 24, nameIndex := 40, descriptorIndex := 26, attributes := #[] }, { accessFlags := 26, nameIndex := 1101, descriptorIndex := 1102, attributes := #[] }, { accessFlags := 26, nameIndex := 1121, descriptorIndex := 1122, attributes := #[] }, { accessFlags := 25, nameIndex := 599, descriptorIndex := 600, attributes := #[] }, { accessFlags := 24, nameIndex := 1125, descriptorIndex := 18, attributes := #[] }, { accessFlags := 24, nameIndex := 1127, descriptorIndex := 18, attributes := #[] }])
  fields := #[{ name := "value", type := (.array .byte), accessFlags := 18, slot := 0, constantValue := 0 }, { name := "coder", type := .byte, accessFlags := 18, slot := 1, constantValue := 0 }, { name := "hash", type := .int, accessFlags := 2, slot := 2, constantValue := 0 }, { name := "hashIsZero", type := .boolean, accessFlags := 2, slot := 3, constantValue := 0 }, { name := "serialVersionUID", type := .long, accessFlags := 26, slot := 0, constantValue := 0 }, { name := "COMPACT_STRINGS", type := .boolean, accessFlags := 24, slot := 1, constantValue := 0 }, { name := "serialPersistentFields", type := (.array (.object "java/io/ObjectStreamField")), accessFlags := 26, slot := 2, constantValue := 0 }, { name := "REPL", type := .char, accessFlags := 26, slot := 3, constantValue := 0 }, { name := "CASE_INSENSITIVE_ORDER", type := (.object "java/util/Comparator"), accessFlags := 25, slot := 4, constantValue := 0 }, { name := "LATIN1", type := .byte, accessFlags := 24, slot := 5, constantValue := 0 }, { name := "UTF16", type := .byte, accessFlags := 24, slot := 6, constantValue := 0 }]
  methods := #[k9m0, k9m1, k9m2, k9m3]
  instanceTypes := #[(.array .byte), .byte, .int, .boolean]
  staticTypes := #[.long, .boolean, (.array (.object "java/io/ObjectStreamField")), .char, (.object "java/util/Comparator"), .byte, .byte]
  resolved := Array.replicate 1451 none
  statics := some 0 }

def pool10 : Array CpInfo := pool [(2, .class_ 4), (1, u "java/lang/Enum"), (0, u "name"), (0, u "Ljava/lang/String;"), (2, u "ordinal"), (0, u "I"), (1, .class_ 14), (1, u "java/lang/Object"), (4, u "hash"), (86, .class_ 108), (1, u "java/lang/Enum$EnumDesc"), (2, .class_ 112), (0, u "java/lang/constant/Constable"), (0, .class_ 114), (0, u "java/lang/Comparable"), (0, .class_ 116), (0, u "java/io/Serializable")] 87

/-- java/lang/Enum -/
def k10 : Class := { plain "java/lang/Enum" (some 0) with
  accessFlags := 1057
  interfaces := #[7, 5, 4]
  cf := some (fileOf pool10 2 #[.nestMembers #[106]] #[] 1057 12 #[111, 113, 115] #[{ accessFlags := 18, nameIndex := 5, descriptorIndex := 6, attributes := #[] }, { accessFlags := 18, nameIndex := 9, descriptorIndex := 10, attributes := #[] }, { accessFlags := 2, nameIndex := 19, descriptorIndex := 10, attributes := #[] }])
  fields := #[{ name := "name", type := (.object "java/lang/String"), accessFlags := 18, slot := 0, constantValue := 0 }, { name := "ordinal", type := .int, accessFlags := 18, slot := 1, constantValue := 0 }, { name := "hash", type := .int, accessFlags := 2, slot := 2, constantValue := 0 }]
  methods := #[]
  instanceTypes := #[(.object "java/lang/String"), .int, .int]
  staticTypes := #[]
  resolved := Array.replicate 204 none
  statics := none }

def pool11 : Array CpInfo := pool [(1, .class_ 2), (0, u "com/example/rolling_rung/rollingrung/schema/FieldType"), (2, u "STRING"), (0, u "Lcom/example/rolling_rung/rollingrung/schema/FieldType;"), (2, u "BYTES"), (2, u "BOOL"), (2, u "INT32"), (2, u "INT64"), (2, u "SINT32"), (2, u "SINT64"), (2, u "DOUBLE"), (2, u "FLOAT"), (2, u "$VALUES"), (0, u "[Lcom/example/rolling_rung/rollingrung/schema/FieldType;"), (6, .class_ 43), (1, u "java/lang/Enum"), (8, u "schemaName"), (0, u "Ljava/lang/String;")] 69

/-- com/example/rolling_rung/rollingrung/schema/FieldType -/
def k11 : Class := { plain "com/example/rolling_rung/rollingrung/schema/FieldType" (some 10) with
  accessFlags := 16433
  interfaces := #[]
  cf := some (fileOf pool11 1 #[] #[] 16433 41 #[] #[{ accessFlags := 16409, nameIndex := 5, descriptorIndex := 6, attributes := #[] }, { accessFlags := 16409, nameIndex := 9, descriptorIndex := 6, attributes := #[] }, { accessFlags := 16409, nameIndex := 12, descriptorIndex := 6, attributes := #[] }, { accessFlags := 16409, nameIndex := 15, descriptorIndex := 6, attributes := #[] }, { accessFlags := 16409, nameIndex := 18, descriptorIndex := 6, attributes := #[] }, { accessFlags := 16409, nameIndex := 21, descriptorIndex := 6, attributes := #[] }, { accessFlags := 16409, nameIndex := 24, descriptorIndex := 6, attributes := #[] }, { accessFlags := 16409, nameIndex := 27, descriptorIndex := 6, attributes := #[] }, { accessFlags := 16409, nameIndex := 30, descriptorIndex := 6, attributes := #[] }, { accessFlags := 18, nameIndex := 52, descriptorIndex := 53, attributes := #[] }, { accessFlags := 4122, nameIndex := 33, descriptorIndex := 34, attributes := #[] }])
  fields := #[{ name := "STRING", type := (.object "com/example/rolling_rung/rollingrung/schema/FieldType"), accessFlags := 16409, slot := 0, constantValue := 0 }, { name := "BYTES", type := (.object "com/example/rolling_rung/rollingrung/schema/FieldType"), accessFlags := 16409, slot := 1, constantValue := 0 }, { name := "BOOL", type := (.object "com/example/rolling_rung/rollingrung/schema/FieldType"), accessFlags := 16409, slot := 2, constantValue := 0 }, { name := "INT32", type := (.object "com/example/rolling_rung/rollingrung/schema/FieldType"), accessFlags := 16409, slot := 3, constantValue := 0 }, { name := "INT64", type := (.object "com/example/rolling_rung/rollingrung/schema/FieldType"), accessFlags := 16409, slot := 4, constantValue := 0 }, { name := "SINT32", type := (.object "com/example/rolling_rung/rollingrung/schema/FieldType"), accessFlags := 16409, slot := 5, constantValue := 0 }, { name := "SINT64", type := (.object "com/example/rolling_rung/rollingrung/schema/FieldType"), accessFlags := 16409, slot := 6, constantValue := 0 }, { name := "DOUBLE", type := (.object "com/example/rolling_rung/rollingrung/schema/FieldType"), accessFlags := 16409, slot := 7, constantValue := 0 }, { name := "FLOAT", type := (.object "com/example/rolling_rung/rollingrung/schema/FieldType"), accessFlags := 16409, slot := 8, constantValue := 0 }, { name := "schemaName", type := (.object "java/lang/String"), accessFlags := 18, slot := 3, constantValue := 0 }, { name := "$VALUES", type := (.array (.object "com/example/rolling_rung/rollingrung/schema/FieldType")), accessFlags := 4122, slot := 9, constantValue := 0 }]
  methods := #[]
  instanceTypes := #[(.object "java/lang/String"), .int, .int, (.object "java/lang/String")]
  staticTypes := #[(.object "com/example/rolling_rung/rollingrung/schema/FieldType"), (.object "com/example/rolling_rung/rollingrung/schema/FieldType"), (.object "com/example/rolling_rung/rollingrung/schema/FieldType"), (.object "com/example/rolling_rung/rollingrung/schema/FieldType"), (.object "com/example/rolling_rung/rollingrung/schema/FieldType"), (.object "com/example/rolling_rung/rollingrung/schema/FieldType"), (.object "com/example/rolling_rung/rollingrung/schema/FieldType"), (.object "com/example/rolling_rung/rollingrung/schema/FieldType"), (.object "com/example/rolling_rung/rollingrung/schema/FieldType"), (.array (.object "com/example/rolling_rung/rollingrung/schema/FieldType"))]
  resolved := Array.replicate 123 none
  statics := some 1 }

def pool12 : Array CpInfo := pool [(1, .class_ 2), (0, u "com/example/rolling_rung/rollingrung/schema/ElementState"), (2, u "ABSENT"), (0, u "Lcom/example/rolling_rung/rollingrung/schema/ElementState;"), (2, u "DELETE_ONLY"), (2, u "WRITE_ONLY"), (2, u "PUBLIC"), (2, u "$VALUES"), (0, u "[Lcom/example/rolling_rung/rollingrung/schema/ElementState;"), (6, .class_ 28), (1, u "java/lang/Enum"), (8, u "schemaName"), (0, u "Ljava/lang/String;")] 54

/-- com/example/rolling_rung/rollingrung/schema/ElementState -/
def k12 : Class := { plain "com/example/rolling_rung/rollingrung/schema/ElementState" (some 10) with
  accessFlags := 16433
  interfaces := #[]
  cf := some (fileOf pool12 1 #[] #[] 16433 26 #[] #[{ accessFlags := 16409, nameIndex := 5, descriptorIndex := 6, attributes := #[] }, { accessFlags := 16409, nameIndex := 9, descriptorIndex := 6, attributes := #[] }, { accessFlags := 16409, nameIndex := 12, descriptorIndex := 6, attributes := #[] }, { accessFlags := 16409, nameIndex := 15, descriptorIndex := 6, attributes := #[] }, { accessFlags := 18, nameIndex := 37, descriptorIndex := 38, attributes := #[] }, { accessFlags := 4122, nameIndex := 18, descriptorIndex := 19, attributes := #[] }])
  fields := #[{ name := "ABSENT", type := (.object "com/example/rolling_rung/rollingrung/schema/ElementState"), accessFlags := 16409, slot := 0, constantValue := 0 }, { name := "DELETE_ONLY", type := (.object "com/example/rolling_rung/rollingrung/schema/ElementState"), accessFlags := 16409, slot := 1, constantValue := 0 }, { name := "WRITE_ONLY", type := (.object "com/example/rolling_rung/rollingrung/schema/ElementState"), accessFlags := 16409, slot := 2, constantValue := 0 }, { name := "PUBLIC", type := (.object "com/example/rolling_rung/rollingrung/schema/ElementState"), accessFlags := 16409, slot := 3, constantValue := 0 }, { name := "schemaName", type := (.object "java/lang/String"), accessFlags := 18, slot := 3, constantValue := 0 }, { name := "$VALUES", type := (.array (.object "com/example/rolling_rung/rollingrung/schema/ElementState")), accessFlags := 4122, slot := 4, constantValue := 0 }]
  methods := #[]
  instanceTypes := #[(.object "java/lang/String"), .int, .int, (.object "java/lang/String")]
  staticTypes := #[(.object "com/example/rolling_rung/rollingrung/schema/ElementState"), (.object "com/example/rolling_rung/rollingrung/schema/ElementState"), (.object "com/example/rolling_rung/rollingrung/schema/ElementState"), (.object "com/example/rolling_rung/rollingrung/schema/ElementState"), (.array (.object "com/example/rolling_rung/rollingrung/schema/ElementState"))]
  resolved := Array.replicate 93 none
  statics := some 2 }

def pool13 : Array CpInfo := pool [(2, .class_ 4), (1, u "java/lang/Object"), (0, u "<init>"), (0, u "()V"), (35, .class_ 44), (1, u "java/util/Objects"), (0, u "requireNonNull"), (48, u "(Ljava/lang/Object;Ljava/lang/String;)Ljava/lang/Object;")] 89

def k13m0 : Method := { name := "<init>", desc := "()V", sig := { parameters := [], returnType := none }, accessFlags := 2, code := none }
def k13c1 : Code := { maxStack := 3, maxLocals := 2, code := jdk_31_method_11_code, exceptionTable := #[], attributes := #[] }
def k13m1 : Method := { name := "requireNonNull", desc := "(Ljava/lang/Object;Ljava/lang/String;)Ljava/lang/Object;", sig := { parameters := [(.object "java/lang/Object"), (.object "java/lang/String")], returnType := some (.object "java/lang/Object") }, accessFlags := 9, code := some k13c1 }
/-- java/util/Objects -/
def k13 : Class := { plain "java/util/Objects" (some 0) with
  accessFlags := 49
  interfaces := #[]
  cf := some (fileOf pool13 42 #[] #[{ accessFlags := 2, nameIndex := 5, descriptorIndex := 6, attributes := #[] }, { accessFlags := 9, nameIndex := 45, descriptorIndex := 94, attributes := #[] }] 49 2 #[] #[])
  fields := #[]
  methods := #[k13m0, k13m1]
  instanceTypes := #[]
  staticTypes := #[]
  resolved := Array.replicate 184 none
  statics := none }

def pool14 : Array CpInfo := pool [(4, .class_ 6), (1, u "java/lang/Object"), (0, u "<init>"), (0, u "()V"), (5, .class_ 16), (1, u "java/lang/StringLatin1"), (104, u "$assertionsDisabled"), (0, u "Z"), (98, .class_ 223), (1, u "java/lang/StringLatin1$LinesSpliterator"), (57, u "equals"), (0, u "([B[B)Z"), (107, .class_ 391), (0, u "java/lang/StringLatin1$CharsSpliterator")] 3

def k14m0 : Method := { name := "<init>", desc := "()V", sig := { parameters := [], returnType := none }, accessFlags := 0, code := none }
def k14c1 : Code := { maxStack := 3, maxLocals := 3, code := jdk_43_method_13_code, exceptionTable := #[], attributes := #[] }
def k14m1 : Method := { name := "equals", desc := "([B[B)Z", sig := { parameters := [(.array .byte), (.array .byte)], returnType := some .boolean }, accessFlags := 9, code := some k14c1 }
/-- java/lang/StringLatin1 -/
def k14 : Class := { plain "java/lang/StringLatin1" (some 0) with
  accessFlags := 48
  interfaces := #[]
  cf := some (fileOf pool14 14 #[.nestMembers #[390, 221]] #[{ accessFlags := 0, nameIndex := 7, descriptorIndex := 8, attributes := #[] }, { accessFlags := 9, nameIndex := 281, descriptorIndex := 282, attributes := #[] }] 48 4 #[] #[{ accessFlags := 4120, nameIndex := 121, descriptorIndex := 122, attributes := #[] }])
  fields := #[{ name := "$assertionsDisabled", type := .boolean, accessFlags := 4120, slot := 0, constantValue := 0 }]
  methods := #[k14m0, k14m1]
  instanceTypes := #[]
  staticTypes := #[.boolean]
  resolved := Array.replicate 395 none
  statics := none }

def pool15 : Array CpInfo := pool [(6, .class_ 8), (1, u "java/lang/Object"), (0, u "<init>"), (0, u "()V"), (1, .class_ 14), (1, u "java/lang/StringUTF16"), (31, u "$assertionsDisabled"), (0, u "Z"), (13, u "HI_BYTE_SHIFT"), (0, u "I"), (2, u "LO_BYTE_SHIFT"), (49, .methodref 12 116), (0, .nameAndType 117 118), (0, u "compress"), (0, u "([CI[BII)I"), (3, u "([CII)[B"), (138, u "coderFromArrayLen"), (0, u "([BI)B"), (106, .class_ 371), (1, u "java/lang/StringUTF16$LinesSpliterator"), (58, u "MAX_LENGTH"), (196, .class_ 628), (0, u "java/lang/StringUTF16$CodePointsSpliterator"), (0, .class_ 630), (0, u "java/lang/StringUTF16$CharsSpliterator")] 4

def k15m0 : Method := { name := "<init>", desc := "()V", sig := { parameters := [], returnType := none }, accessFlags := 0, code := none }
def k15c1 : Code := { maxStack := 2, maxLocals := 2, code := jdk_52_method_15_code, exceptionTable := #[], attributes := #[] }
def k15m1 : Method := { name := "coderFromArrayLen", desc := "([BI)B", sig := { parameters := [(.array .byte), .int], returnType := some .byte }, accessFlags := 8, code := some k15c1 }
def k15c2 : Code := { maxStack := 5, maxLocals := 6, code := jdk_52_method_16_code, exceptionTable := #[], attributes := #[] }
def k15m2 : Method := { name := "compress", desc := "([CII)[B", sig := { parameters := [(.array .char), .int, .int], returnType := some (.array .byte) }, accessFlags := 9, code := some k15c2 }
def k15c3 : Code := { maxStack := 3, maxLocals := 7, code := jdk_52_method_21_code, exceptionTable := #[], attributes := #[] }
def k15m3 : Method := { name := "compress", desc := "([CI[BII)I", sig := { parameters := [(.array .char), .int, (.array .byte), .int, .int], returnType := some .int }, accessFlags := 9, code := some k15c3 }
/-- java/lang/StringUTF16 -/
def k15 : Class := { plain "java/lang/StringUTF16" (some 0) with
  accessFlags := 48
  interfaces := #[]
  cf := some (fileOf pool15 12 #[.nestMembers #[627, 629, 369]] #[{ accessFlags := 0, nameIndex := 9, descriptorIndex := 10, attributes := #[] }, { accessFlags := 8, nameIndex := 261, descriptorIndex := 262, attributes := #[] }, { accessFlags := 9, nameIndex := 117, descriptorIndex := 122, attributes := #[] }, { accessFlags := 9, nameIndex := 117, descriptorIndex := 118, attributes := #[] }] 48 6 #[] #[{ accessFlags := 26, nameIndex := 61, descriptorIndex := 62, attributes := #[] }, { accessFlags := 26, nameIndex := 65, descriptorIndex := 62, attributes := #[] }, { accessFlags := 24, nameIndex := 430, descriptorIndex := 62, attributes := #[] }, { accessFlags := 4120, nameIndex := 46, descriptorIndex := 47, attributes := #[] }])
  fields := #[{ name := "HI_BYTE_SHIFT", type := .int, accessFlags := 26, slot := 0, constantValue := 0 }, { name := "LO_BYTE_SHIFT", type := .int, accessFlags := 26, slot := 1, constantValue := 0 }, { name := "MAX_LENGTH", type := .int, accessFlags := 24, slot := 2, constantValue := 0 }, { name := "$assertionsDisabled", type := .boolean, accessFlags := 4120, slot := 3, constantValue := 0 }]
  methods := #[k15m0, k15m1, k15m2, k15m3]
  instanceTypes := #[]
  staticTypes := #[.int, .int, .int, .boolean]
  resolved := Array.replicate 635 none
  statics := none }

def pool16 : Array CpInfo := pool [(2, .class_ 4), (1, u "java/lang/Object"), (0, u "<init>"), (0, u "()V"), (17, .class_ 26), (1, u "jdk/internal/util/Preconditions"), (28, .class_ 56), (0, u "jdk/internal/util/Preconditions$4"), (57, .class_ 115), (0, u "jdk/internal/util/Preconditions$1"), (7, u "SIOOBE_FORMATTER"), (0, u "Ljava/util/function/BiFunction;"), (0, .class_ 126), (0, u "jdk/internal/util/Preconditions$2"), (3, u "AIOOBE_FORMATTER"), (0, .class_ 132), (0, u "jdk/internal/util/Preconditions$3"), (3, u "IOOBE_FORMATTER")] 57

def k16m0 : Method := { name := "<init>", desc := "()V", sig := { parameters := [], returnType := none }, accessFlags := 1, code := none }
/-- jdk/internal/util/Preconditions -/
def k16 : Class := { plain "jdk/internal/util/Preconditions" (some 0) with
  accessFlags := 33
  interfaces := #[]
  cf := some (fileOf pool16 24 #[.nestMembers #[55, 131, 125, 114]] #[{ accessFlags := 1, nameIndex := 5, descriptorIndex := 6, attributes := #[] }] 33 2 #[] #[{ accessFlags := 25, nameIndex := 123, descriptorIndex := 124, attributes := #[] }, { accessFlags := 25, nameIndex := 130, descriptorIndex := 124, attributes := #[] }, { accessFlags := 25, nameIndex := 136, descriptorIndex := 124, attributes := #[] }])
  fields := #[{ name := "SIOOBE_FORMATTER", type := (.object "java/util/function/BiFunction"), accessFlags := 25, slot := 0, constantValue := 0 }, { name := "AIOOBE_FORMATTER", type := (.object "java/util/function/BiFunction"), accessFlags := 25, slot := 1, constantValue := 0 }, { name := "IOOBE_FORMATTER", type := (.object "java/util/function/BiFunction"), accessFlags := 25, slot := 2, constantValue := 0 }]
  methods := #[k16m0]
  instanceTypes := #[]
  staticTypes := #[(.object "java/util/function/BiFunction"), (.object "java/util/function/BiFunction"), (.object "java/util/function/BiFunction")]
  resolved := Array.replicate 194 none
  statics := some 3 }

def pool17 : Array CpInfo := pool [(9, u "<init>"), (6, .class_ 18), (1, u "java/lang/Object"), (0, u "()V"), (1, .class_ 23), (1, u "jdk/internal/util/ArraysSupport"), (0, u "LOG2_ARRAY_LONG_INDEX_SCALE"), (0, u "I"), (2, u "U"), (0, u "Ljdk/internal/misc/Unsafe;"), (8, u "BIG_ENDIAN"), (0, u "Z"), (8, u "LOG2_BYTE_BIT_SIZE"), (4, u "LOG2_ARRAY_INT_INDEX_SCALE"), (54, u "JLA"), (0, u "Ljdk/internal/access/JavaLangAccess;"), (11, u "LOG2_ARRAY_BOOLEAN_INDEX_SCALE"), (9, u "LOG2_ARRAY_BYTE_INDEX_SCALE"), (5, u "LOG2_ARRAY_CHAR_INDEX_SCALE"), (5, u "LOG2_ARRAY_SHORT_INDEX_SCALE"), (18, u "LOG2_ARRAY_FLOAT_INDEX_SCALE"), (24, u "LOG2_ARRAY_DOUBLE_INDEX_SCALE"), (89, u "T_BOOLEAN"), (2, u "T_CHAR"), (1, u "T_FLOAT"), (1, u "T_DOUBLE"), (1, u "T_BYTE"), (1, u "T_SHORT"), (1, u "T_INT"), (1, u "T_LONG"), (1, u "SOFT_MAX_ARRAY_LENGTH")] 83

def k17m0 : Method := { name := "<init>", desc := "()V", sig := { parameters := [], returnType := none }, accessFlags := 2, code := none }
/-- jdk/internal/util/ArraysSupport -/
def k17 : Class := { plain "jdk/internal/util/ArraysSupport" (some 0) with
  accessFlags := 33
  interfaces := #[]
  cf := some (fileOf pool17 21 #[] #[{ accessFlags := 2, nameIndex := 9, descriptorIndex := 19, attributes := #[] }] 33 16 #[] #[{ accessFlags := 24, nameIndex := 28, descriptorIndex := 29, attributes := #[] }, { accessFlags := 26, nameIndex := 38, descriptorIndex := 39, attributes := #[] }, { accessFlags := 25, nameIndex := 121, descriptorIndex := 25, attributes := #[] }, { accessFlags := 25, nameIndex := 131, descriptorIndex := 25, attributes := #[] }, { accessFlags := 25, nameIndex := 137, descriptorIndex := 25, attributes := #[] }, { accessFlags := 25, nameIndex := 143, descriptorIndex := 25, attributes := #[] }, { accessFlags := 25, nameIndex := 53, descriptorIndex := 25, attributes := #[] }, { accessFlags := 25, nameIndex := 24, descriptorIndex := 25, attributes := #[] }, { accessFlags := 25, nameIndex := 162, descriptorIndex := 25, attributes := #[] }, { accessFlags := 25, nameIndex := 187, descriptorIndex := 25, attributes := #[] }, { accessFlags := 26, nameIndex := 48, descriptorIndex := 25, attributes := #[] }, { accessFlags := 25, nameIndex := 277, descriptorIndex := 25, attributes := #[] }, { accessFlags := 25, nameIndex := 280, descriptorIndex := 25, attributes := #[] }, { accessFlags := 25, nameIndex := 282, descriptorIndex := 25, attributes := #[] }, { accessFlags := 25, nameIndex := 284, descriptorIndex := 25, attributes := #[] }, { accessFlags := 25, nameIndex := 286, descriptorIndex := 25, attributes := #[] }, { accessFlags := 25, nameIndex := 288, descriptorIndex := 25, attributes := #[] }, { accessFlags := 25, nameIndex := 290, descriptorIndex := 25, attributes := #[] }, { accessFlags := 25, nameIndex := 292, descriptorIndex := 25, attributes := #[] }, { accessFlags := 26, nameIndex := 108, descriptorIndex := 109, attributes := #[] }, { accessFlags := 25, nameIndex := 294, descriptorIndex := 25, attributes := #[] }])
  fields := #[{ name := "U", type := (.object "jdk/internal/misc/Unsafe"), accessFlags := 24, slot := 0, constantValue := 0 }, { name := "BIG_ENDIAN", type := .boolean, accessFlags := 26, slot := 1, constantValue := 0 }, { name := "LOG2_ARRAY_BOOLEAN_INDEX_SCALE", type := .int, accessFlags := 25, slot := 2, constantValue := 0 }, { name := "LOG2_ARRAY_BYTE_INDEX_SCALE", type := .int, accessFlags := 25, slot := 3, constantValue := 0 }, { name := "LOG2_ARRAY_CHAR_INDEX_SCALE", type := .int, accessFlags := 25, slot := 4, constantValue := 0 }, { name := "LOG2_ARRAY_SHORT_INDEX_SCALE", type := .int, accessFlags := 25, slot := 5, constantValue := 0 }, { name := "LOG2_ARRAY_INT_INDEX_SCALE", type := .int, accessFlags := 25, slot := 6, constantValue := 0 }, { name := "LOG2_ARRAY_LONG_INDEX_SCALE", type := .int, accessFlags := 25, slot := 7, constantValue := 0 }, { name := "LOG2_ARRAY_FLOAT_INDEX_SCALE", type := .int, accessFlags := 25, slot := 8, constantValue := 0 }, { name := "LOG2_ARRAY_DOUBLE_INDEX_SCALE", type := .int, accessFlags := 25, slot := 9, constantValue := 0 }, { name := "LOG2_BYTE_BIT_SIZE", type := .int, accessFlags := 26, slot := 10, constantValue := 0 }, { name := "T_BOOLEAN", type := .int, accessFlags := 25, slot := 11, constantValue := 0 }, { name := "T_CHAR", type := .int, accessFlags := 25, slot := 12, constantValue := 0 }, { name := "T_FLOAT", type := .int, accessFlags := 25, slot := 13, constantValue := 0 }, { name := "T_DOUBLE", type := .int, accessFlags := 25, slot := 14, constantValue := 0 }, { name := "T_BYTE", type := .int, accessFlags := 25, slot := 15, constantValue := 0 }, { name := "T_SHORT", type := .int, accessFlags := 25, slot := 16, constantValue := 0 }, { name := "T_INT", type := .int, accessFlags := 25, slot := 17, constantValue := 0 }, { name := "T_LONG", type := .int, accessFlags := 25, slot := 18, constantValue := 0 }, { name := "JLA", type := (.object "jdk/internal/access/JavaLangAccess"), accessFlags := 26, slot := 19, constantValue := 0 }, { name := "SOFT_MAX_ARRAY_LENGTH", type := .int, accessFlags := 25, slot := 20, constantValue := 0 }]
  methods := #[k17m0]
  instanceTypes := #[]
  staticTypes := #[(.object "jdk/internal/misc/Unsafe"), .boolean, .int, .int, .int, .int, .int, .int, .int, .int, .int, .int, .int, .int, .int, .int, .int, .int, .int, (.object "jdk/internal/access/JavaLangAccess"), .int]
  resolved := Array.replicate 378 none
  statics := none }

def pool18 : Array CpInfo := pool [(1, u "java/lang/Cloneable"), (0, .class_ 1), (0, u "java/lang/Object"), (0, .class_ 3)] 3

/-- java/lang/Cloneable -/
def k18 : Class := { plain "java/lang/Cloneable" (some 0) with
  accessFlags := 1537
  interfaces := #[]
  cf := some (fileOf pool18 2 #[] #[] 1537 4 #[] #[])
  fields := #[]
  methods := #[]
  instanceTypes := #[]
  staticTypes := #[]
  resolved := Array.replicate 8 none
  statics := none }

/-- the primitive byte -/
def k19 : Class := { plain "byte" none with kind := .primitive 'B', accessFlags := 0x411 }
/-- [B -/
def k20 : Class := { plain "[B" (some 0) with kind := .array 19 .byte, interfaces := #[18, 4], accessFlags := 1041 }

/-- the primitive char -/
def k21 : Class := { plain "char" none with kind := .primitive 'C', accessFlags := 0x411 }
/-- [C -/
def k22 : Class := { plain "[C" (some 0) with kind := .array 21 .char, interfaces := #[18, 4], accessFlags := 1041 }

/-- the primitive int -/
def k23 : Class := { plain "int" none with kind := .primitive 'I', accessFlags := 0x411 }
/-- [I -/
def k24 : Class := { plain "[I" (some 0) with kind := .array 23 .int, interfaces := #[18, 4], accessFlags := 1041 }

def heap : Heap := #[{ cls := 9, slots := #[.long 0, .int 1, .null, .int 0, .null, .int 0, .int 0], vm := .statics 9 },
  { cls := 11, slots := #[.ref 10, .ref 13, .ref 4, .ref 14, .ref 6, .ref 15, .ref 11, .ref 9, .ref 16, .null], vm := .statics 11 },
  { cls := 12, slots := #[.ref 7, .ref 8, .ref 5, .ref 12, .null], vm := .statics 12 },
  { cls := 16, slots := #[.null, .null, .null], vm := .statics 16 },
  { cls := 11, slots := #[.null, .int 2, .int 0, .null], vm := .none },
  { cls := 12, slots := #[.null, .int 0, .int 0, .null], vm := .none },
  { cls := 11, slots := #[.null, .int 4, .int 0, .null], vm := .none },
  { cls := 12, slots := #[.null, .int 0, .int 0, .null], vm := .none },
  { cls := 12, slots := #[.null, .int 0, .int 0, .null], vm := .none },
  { cls := 11, slots := #[.null, .int 7, .int 0, .null], vm := .none },
  { cls := 11, slots := #[.null, .int 0, .int 0, .null], vm := .none },
  { cls := 11, slots := #[.null, .int 6, .int 0, .null], vm := .none },
  { cls := 12, slots := #[.null, .int 0, .int 0, .null], vm := .none },
  { cls := 11, slots := #[.null, .int 1, .int 0, .null], vm := .none },
  { cls := 11, slots := #[.null, .int 3, .int 0, .null], vm := .none },
  { cls := 11, slots := #[.null, .int 5, .int 0, .null], vm := .none },
  { cls := 11, slots := #[.null, .int 8, .int 0, .null], vm := .none }]
def classes : Array Class := #[k0, k1, k2, k3, k4, k5, k6, k7, k8, k9, k10, k11, k12, k13, k14, k15, k16, k17, k18, k19, k20, k21, k22, k23, k24]
def interned : List (Array UInt16 × Addr) := []
def slotsUsed : Nat := 77
def theMethod : MethodId := ⟨1, 4⟩
def args0 : Array Value := #[.int 5, .int 5, .long 5, .long 5]
def aboutOver (below : List Frame) : State where
  vm := { classes := classes, interned := interned.toArray }
  heap := heap
  slotsUsed := slotsUsed
  threads := #[{ frames := .invoking theMethod args0 :: below }]
def below0 : List Frame := [.native { method := ⟨0, 0⟩, args := #[] }]
def about1 : State := aboutOver below0
def p0 : Program := .bare "" "" ""
def e0 : Env := launch0.env 0 0 0
theorem w_frames : about1.frames = Frame.invoking theMethod args0 :: below0 := rfl
set_option maxRecDepth 65536 in
theorem w_args : argsFit about1.vm theMethod args0 = true := by decide +kernel
set_option maxRecDepth 65536 in
theorem w_heap : heapFits about1 = true := by decide +kernel
set_option maxRecDepth 65536 in
theorem w_runnable : about1.curStatus? = some .runnable := by decide +kernel
set_option maxRecDepth 65536 in
theorem w_alone : about1.alone = true := by decide +kernel
set_option maxRecDepth 65536 in
theorem w_named : about1.methodNamed? x = some theMethod := by decide +kernel
set_option maxRecDepth 65536 in
theorem w_hears : about1.hears theMethod below0 = true := by decide +kernel
set_option maxRecDepth 65536 in
theorem w_ripe : about1.ripe theMethod args0 below0 = true := by decide +kernel
theorem w_running : about1.status = .running := rfl
set_option maxRecDepth 65536 in
theorem w_room : about1.hasRoom e0.platform room_1 = true :=
  launch0.hasRoom_least _ room_1 (by decide +kernel) (by decide +kernel) (by decide +kernel) (by decide +kernel) (by decide +kernel) (by decide +kernel)
theorem allAtoms_all (ts : List Jvm.Cond) (a : Array Jvm.Value) (st : Jvm.State) : (allAtoms ts).before a st = ts.all (fun c => c.before a st) := by
  induction ts with
  | nil => rfl
  | cons c t ih =>
    show (Jvm.Cond.and c (allAtoms t)).before a st = _
    rw [Jvm.Cond.before_and, ih, List.all_cons]
def words1 : List Jvm.Cond := Jvm.Cond.code x code maxLocals ret :: tables_1
/-- a 'code' word, met by the world's own term for the bytes: nothing is compared byte by byte -/
theorem code_word {y : MethodName} {bytes : ByteArray} {mx : Nat} {rt : Option FieldType} {a : Array Value} {s : State} {m : MethodId} {meth : Method} {c : Code} (h1 : s.methodNamed? y = some m) (h2 : s.vm.method? m = some meth) (h3 : meth.code = some c) (h4 : c.code = bytes)
    (h5 : (c.maxLocals == mx && c.exceptionTable.isEmpty && decide (c.maxStack ≤ mostOperands) && decide (meth.sig.returnType = rt) && !meth.locks && decide (parseMethodDescriptor y.desc = some meth.sig)) = true) : (Jvm.Cond.code y bytes mx rt).before a s = true := by
  simp only [Bool.and_eq_true, beq_iff_eq, Bool.not_eq_true', decide_eq_true_eq] at h5
  obtain ⟨⟨⟨⟨⟨g1, g2⟩, g3⟩, g4⟩, g5⟩, g6⟩ := h5
  simp [Cond.before, Cond.holds, Cond.value, h1, h2, h3, h4, g1, g2, g3, g4, g5, g6]
def isCode : Jvm.Cond → Bool
  | .code _ _ _ _ => true
  | _ => false
theorem all_split {L : List Jvm.Cond} {P : Jvm.Cond → Bool} (h1 : L.all (fun c => isCode c || P c) = true) (h2 : ∀ c ∈ L.filter isCode, P c = true) : L.all P = true := by
  refine List.all_eq_true.mpr fun c hc => ?_
  have h := List.all_eq_true.mp h1 c hc
  rcases Bool.eq_false_or_eq_true (isCode c) with hi | hi
  · exact h2 c (List.mem_filter.mpr ⟨hc, hi⟩)
  · simpa [hi] using h
set_option maxRecDepth 65536 in
theorem w_c0 : (Jvm.Cond.code x code maxLocals ret).before args0 about1 = true := code_word (m := ⟨1, 4⟩) (meth := k1m4) (c := k1c4) (by decide +kernel) rfl rfl rfl (by decide +kernel)
set_option maxRecDepth 65536 in
theorem w_c1 : (Jvm.Cond.code ({ cls := "com/example/rolling_rung/rollingrung/schema/FieldSameDefinitionPinLaw", name := "str", desc := "(ICC)Ljava/lang/String;" } : Jvm.MethodName) method_2_code (3 : Nat) (Option.some (Jvm.ClassFile.FieldType.object "java/lang/String"))).before args0 about1 = true := code_word (m := ⟨1, 1⟩) (meth := k1m1) (c := k1c1) (by decide +kernel) rfl rfl rfl (by decide +kernel)
set_option maxRecDepth 65536 in
theorem w_c2 : (Jvm.Cond.code ({ cls := "java/lang/String", name := "<init>", desc := "([C)V" } : Jvm.MethodName) jdk_42_method_3_code (2 : Nat) (Option.none : Option Jvm.ClassFile.FieldType)).before args0 about1 = true := code_word (m := ⟨9, 1⟩) (meth := k9m1) (c := k9c1) (by decide +kernel) rfl rfl rfl (by decide +kernel)
set_option maxRecDepth 65536 in
theorem w_c3 : (Jvm.Cond.code ({ cls := "java/lang/String", name := "<init>", desc := "([CIILjava/lang/Void;)V" } : Jvm.MethodName) jdk_42_method_149_code (6 : Nat) (Option.none : Option Jvm.ClassFile.FieldType)).before args0 about1 = true := code_word (m := ⟨9, 3⟩) (meth := k9m3) (c := k9c3) (by decide +kernel) rfl rfl rfl (by decide +kernel)
set_option maxRecDepth 65536 in
theorem w_c4 : (Jvm.Cond.code ({ cls := "java/lang/Object", name := "<init>", desc := "()V" } : Jvm.MethodName) object_method_1_code (1 : Nat) (Option.none : Option Jvm.ClassFile.FieldType)).before args0 about1 = true := code_word (m := ⟨0, 0⟩) (meth := k0m0) (c := k0c0) (by decide +kernel) rfl rfl rfl (by decide +kernel)
set_option maxRecDepth 65536 in
theorem w_c5 : (Jvm.Cond.code ({ cls := "com/example/rolling_rung/rollingrung/schema/FieldSameDefinitionPinLaw", name := "type", desc := "(I)Lcom/example/rolling_rung/rollingrung/schema/FieldType;" } : Jvm.MethodName) method_3_code (1 : Nat) (Option.some (Jvm.ClassFile.FieldType.object "com/example/rolling_rung/rollingrung/schema/FieldType"))).before args0 about1 = true := code_word (m := ⟨1, 2⟩) (meth := k1m2) (c := k1c2) (by decide +kernel) rfl rfl rfl (by decide +kernel)
set_option maxRecDepth 65536 in
theorem w_c6 : (Jvm.Cond.code ({ cls := "com/example/rolling_rung/rollingrung/schema/FieldSameDefinitionPinLaw", name := "state", desc := "(I)Lcom/example/rolling_rung/rollingrung/schema/ElementState;" } : Jvm.MethodName) method_4_code (1 : Nat) (Option.some (Jvm.ClassFile.FieldType.object "com/example/rolling_rung/rollingrung/schema/ElementState"))).before args0 about1 = true := code_word (m := ⟨1, 3⟩) (meth := k1m3) (c := k1c3) (by decide +kernel) rfl rfl rfl (by decide +kernel)
set_option maxRecDepth 65536 in
theorem w_c7 : (Jvm.Cond.code ({ cls := "com/example/rolling_rung/rollingrung/schema/Field", name := "<init>", desc := "(Ljava/lang/String;ILcom/example/rolling_rung/rollingrung/schema/FieldType;ZZLcom/example/rolling_rung/rollingrung/schema/ElementState;)V" } : Jvm.MethodName) prog_32_method_1_code (7 : Nat) (Option.none : Option Jvm.ClassFile.FieldType)).before args0 about1 = true := code_word (m := ⟨3, 0⟩) (meth := k3m0) (c := k3c0) (by decide +kernel) rfl rfl rfl (by decide +kernel)
set_option maxRecDepth 65536 in
theorem w_c8 : (Jvm.Cond.code ({ cls := "java/lang/Record", name := "<init>", desc := "()V" } : Jvm.MethodName) jdk_30_method_1_code (1 : Nat) (Option.none : Option Jvm.ClassFile.FieldType)).before args0 about1 = true := code_word (m := ⟨2, 0⟩) (meth := k2m0) (c := k2c0) (by decide +kernel) rfl rfl rfl (by decide +kernel)
set_option maxRecDepth 65536 in
theorem w_c9 : (Jvm.Cond.code ({ cls := "java/util/Objects", name := "requireNonNull", desc := "(Ljava/lang/Object;Ljava/lang/String;)Ljava/lang/Object;" } : Jvm.MethodName) jdk_31_method_11_code (2 : Nat) (Option.some (Jvm.ClassFile.FieldType.object "java/lang/Object"))).before args0 about1 = true := code_word (m := ⟨13, 1⟩) (meth := k13m1) (c := k13c1) (by decide +kernel) rfl rfl rfl (by decide +kernel)
set_option maxRecDepth 65536 in
theorem w_c10 : (Jvm.Cond.code ({ cls := "com/example/rolling_rung/rollingrung/schema/Field", name := "sameDefinition", desc := "(Lcom/example/rolling_rung/rollingrung/schema/Field;)Z" } : Jvm.MethodName) prog_32_method_3_code (2 : Nat) (Option.some Jvm.ClassFile.FieldType.boolean)).before args0 about1 = true := code_word (m := ⟨3, 1⟩) (meth := k3m1) (c := k3c1) (by decide +kernel) rfl rfl rfl (by decide +kernel)
set_option maxRecDepth 65536 in
theorem w_c11 : (Jvm.Cond.code ({ cls := "java/lang/String", name := "equals", desc := "(Ljava/lang/Object;)Z" } : Jvm.MethodName) jdk_42_method_66_code (3 : Nat) (Option.some Jvm.ClassFile.FieldType.boolean)).before args0 about1 = true := code_word (m := ⟨9, 2⟩) (meth := k9m2) (c := k9c2) (by decide +kernel) rfl rfl rfl (by decide +kernel)
set_option maxRecDepth 65536 in
theorem w_c12 : (Jvm.Cond.code ({ cls := "java/lang/StringLatin1", name := "equals", desc := "([B[B)Z" } : Jvm.MethodName) jdk_43_method_13_code (3 : Nat) (Option.some Jvm.ClassFile.FieldType.boolean)).before args0 about1 = true := code_word (m := ⟨14, 1⟩) (meth := k14m1) (c := k14c1) (by decide +kernel) rfl rfl rfl (by decide +kernel)
set_option maxRecDepth 65536 in
theorem w_c13 : (Jvm.Cond.code ({ cls := "java/lang/StringUTF16", name := "compress", desc := "([CII)[B" } : Jvm.MethodName) jdk_52_method_16_code (6 : Nat) (Option.some (Jvm.ClassFile.FieldType.array Jvm.ClassFile.FieldType.byte))).before args0 about1 = true := code_word (m := ⟨15, 2⟩) (meth := k15m2) (c := k15c2) (by decide +kernel) rfl rfl rfl (by decide +kernel)
set_option maxRecDepth 65536 in
theorem w_c14 : (Jvm.Cond.code ({ cls := "java/lang/StringUTF16", name := "compress", desc := "([CI[BII)I" } : Jvm.MethodName) jdk_52_method_21_code (7 : Nat) (Option.some Jvm.ClassFile.FieldType.int)).before args0 about1 = true := code_word (m := ⟨15, 3⟩) (meth := k15m3) (c := k15c3) (by decide +kernel) rfl rfl rfl (by decide +kernel)
set_option maxRecDepth 65536 in
theorem w_c15 : (Jvm.Cond.code ({ cls := "java/lang/StringUTF16", name := "coderFromArrayLen", desc := "([BI)B" } : Jvm.MethodName) jdk_52_method_15_code (2 : Nat) (Option.some Jvm.ClassFile.FieldType.byte)).before args0 about1 = true := code_word (m := ⟨15, 1⟩) (meth := k15m1) (c := k15c1) (by decide +kernel) rfl rfl rfl (by decide +kernel)
def codes1 : List Jvm.Cond := [Jvm.Cond.code x code maxLocals ret, Jvm.Cond.code ({ cls := "com/example/rolling_rung/rollingrung/schema/FieldSameDefinitionPinLaw", name := "str", desc := "(ICC)Ljava/lang/String;" } : Jvm.MethodName) method_2_code (3 : Nat) (Option.some (Jvm.ClassFile.FieldType.object "java/lang/String")), Jvm.Cond.code ({ cls := "java/lang/String", name := "<init>", desc := "([C)V" } : Jvm.MethodName) jdk_42_method_3_code (2 : Nat) (Option.none : Option Jvm.ClassFile.FieldType), Jvm.Cond.code ({ cls := "java/lang/String", name := "<init>", desc := "([CIILjava/lang/Void;)V" } : Jvm.MethodName) jdk_42_method_149_code (6 : Nat) (Option.none : Option Jvm.ClassFile.FieldType), Jvm.Cond.code ({ cls := "java/lang/Object", name := "<init>", desc := "()V" } : Jvm.MethodName) object_method_1_code (1 : Nat) (Option.none : Option Jvm.ClassFile.FieldType), Jvm.Cond.code ({ cls := "com/example/rolling_rung/rollingrung/schema/FieldSameDefinitionPinLaw", name := "type", desc := "(I)Lcom/example/rolling_rung/rollingrung/schema/FieldType;" } : Jvm.MethodName) method_3_code (1 : Nat) (Option.some (Jvm.ClassFile.FieldType.object "com/example/rolling_rung/rollingrung/schema/FieldType")), Jvm.Cond.code ({ cls := "com/example/rolling_rung/rollingrung/schema/FieldSameDefinitionPinLaw", name := "state", desc := "(I)Lcom/example/rolling_rung/rollingrung/schema/ElementState;" } : Jvm.MethodName) method_4_code (1 : Nat) (Option.some (Jvm.ClassFile.FieldType.object "com/example/rolling_rung/rollingrung/schema/ElementState")), Jvm.Cond.code ({ cls := "com/example/rolling_rung/rollingrung/schema/Field", name := "<init>", desc := "(Ljava/lang/String;ILcom/example/rolling_rung/rollingrung/schema/FieldType;ZZLcom/example/rolling_rung/rollingrung/schema/ElementState;)V" } : Jvm.MethodName) prog_32_method_1_code (7 : Nat) (Option.none : Option Jvm.ClassFile.FieldType), Jvm.Cond.code ({ cls := "java/lang/Record", name := "<init>", desc := "()V" } : Jvm.MethodName) jdk_30_method_1_code (1 : Nat) (Option.none : Option Jvm.ClassFile.FieldType), Jvm.Cond.code ({ cls := "java/util/Objects", name := "requireNonNull", desc := "(Ljava/lang/Object;Ljava/lang/String;)Ljava/lang/Object;" } : Jvm.MethodName) jdk_31_method_11_code (2 : Nat) (Option.some (Jvm.ClassFile.FieldType.object "java/lang/Object")), Jvm.Cond.code ({ cls := "com/example/rolling_rung/rollingrung/schema/Field", name := "sameDefinition", desc := "(Lcom/example/rolling_rung/rollingrung/schema/Field;)Z" } : Jvm.MethodName) prog_32_method_3_code (2 : Nat) (Option.some Jvm.ClassFile.FieldType.boolean), Jvm.Cond.code ({ cls := "java/lang/String", name := "equals", desc := "(Ljava/lang/Object;)Z" } : Jvm.MethodName) jdk_42_method_66_code (3 : Nat) (Option.some Jvm.ClassFile.FieldType.boolean), Jvm.Cond.code ({ cls := "java/lang/StringLatin1", name := "equals", desc := "([B[B)Z" } : Jvm.MethodName) jdk_43_method_13_code (3 : Nat) (Option.some Jvm.ClassFile.FieldType.boolean), Jvm.Cond.code ({ cls := "java/lang/StringUTF16", name := "compress", desc := "([CII)[B" } : Jvm.MethodName) jdk_52_method_16_code (6 : Nat) (Option.some (Jvm.ClassFile.FieldType.array Jvm.ClassFile.FieldType.byte)), Jvm.Cond.code ({ cls := "java/lang/StringUTF16", name := "compress", desc := "([CI[BII)I" } : Jvm.MethodName) jdk_52_method_21_code (7 : Nat) (Option.some Jvm.ClassFile.FieldType.int), Jvm.Cond.code ({ cls := "java/lang/StringUTF16", name := "coderFromArrayLen", desc := "([BI)B" } : Jvm.MethodName) jdk_52_method_15_code (2 : Nat) (Option.some Jvm.ClassFile.FieldType.byte)]
set_option maxRecDepth 65536 in
theorem codes_eq : words1.filter isCode = codes1 := rfl
theorem w_codes : ∀ c ∈ words1.filter isCode, c.before args0 about1 = true := by
  rw [codes_eq]
  intro c hc
  simp only [codes1, List.mem_cons, List.not_mem_nil, or_false] at hc
  rcases hc with rfl | rfl | rfl | rfl | rfl | rfl | rfl | rfl | rfl | rfl | rfl | rfl | rfl | rfl | rfl | rfl
  · exact w_c0
  · exact w_c1
  · exact w_c2
  · exact w_c3
  · exact w_c4
  · exact w_c5
  · exact w_c6
  · exact w_c7
  · exact w_c8
  · exact w_c9
  · exact w_c10
  · exact w_c11
  · exact w_c12
  · exact w_c13
  · exact w_c14
  · exact w_c15
set_option maxRecDepth 65536 in
theorem w_t1 : (words1.take 24).all (fun c => isCode c || c.before args0 about1) = true := by decide +kernel
set_option maxRecDepth 65536 in
theorem w_t2 : ((words1.drop 24).take 24).all (fun c => isCode c || c.before args0 about1) = true := by decide +kernel
set_option maxRecDepth 65536 in
theorem w_t3 : (((words1.drop 24).drop 24).take 24).all (fun c => isCode c || c.before args0 about1) = true := by decide +kernel
set_option maxRecDepth 65536 in
theorem w_t4 : ((((words1.drop 24).drop 24).drop 24).take 24).all (fun c => isCode c || c.before args0 about1) = true := by decide +kernel
set_option maxRecDepth 65536 in
theorem w_t5 : (((((words1.drop 24).drop 24).drop 24).drop 24).take 24).all (fun c => isCode c || c.before args0 about1) = true := by decide +kernel
set_option maxRecDepth 65536 in
theorem w_t6 : (((((words1.drop 24).drop 24).drop 24).drop 24).drop 24).all (fun c => isCode c || c.before args0 about1) = true := by decide +kernel
theorem w_tables : (allAtoms (Jvm.Cond.code x code maxLocals ret :: tables_1)).before args0 about1 = true := by
  rw [allAtoms_all]
  show words1.all (fun c => c.before args0 about1) = true
  refine all_split ?_ w_codes
  rw [← List.take_append_drop 24 words1, List.all_append, w_t1, ← List.take_append_drop 24 (words1.drop 24), List.all_append, w_t2, ← List.take_append_drop 24 ((words1.drop 24).drop 24), List.all_append, w_t3, ← List.take_append_drop 24 (((words1.drop 24).drop 24).drop 24), List.all_append, w_t4, ← List.take_append_drop 24 ((((words1.drop 24).drop 24).drop 24).drop 24), List.all_append, w_t5, w_t6]
  rfl
set_option maxRecDepth 65536 in
theorem w_rest : rest_1_c.before args0 about1 = true := by decide +kernel
set_option maxRecDepth 65536 in
theorem w_case : (Jvm.Cond.and given_1 narrow_1).before args0 about1 = true := by decide +kernel
set_option maxRecDepth 65536 in
theorem w_consts : constsHeld consts_1 about1 := Jvm.Lit.constsHeldB_iff.mp (by decide +kernel)
theorem w_applies : (headSpec (Jvm.Cond.code x code maxLocals ret :: tables_1) room_1).applies x e0.platform about1 = true :=
  (Spec.applies_iff w_frames).mpr ⟨w_running, w_runnable, w_alone, w_named, w_hears, w_ripe, w_room, w_tables⟩
theorem atStart : AtStart classFile x code maxLocals ret World_1 tables_1 room_1 Calls_1 rest_1 Pre_1 launch0 p0 e0 about1 theMethod args0 below0 :=
  ⟨lists_1, trivial, launch0.admits_env _ _ _, launch0.least_env, fairChoices_fair.cas, fairChoices_fair.clock, w_frames, w_args, w_heap, w_applies, ⟨w_consts, trivial⟩, w_rest, w_case⟩
end start1
theorem witness_1 : WitnessClaimed_1 := ⟨start1.p0, start1.e0, start1.about1, start1.theMethod, start1.args0, start1.below0, start1.atStart⟩
end Jvm.Pilot.@@N@@
